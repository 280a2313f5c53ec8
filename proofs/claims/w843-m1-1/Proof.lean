import JvmDerived
import JvmDerived.Pilot.@@N@@Statement
import JvmDerived.Pilot.@@N@@Code
set_option linter.unusedVariables false
set_option linter.unusedSimpArgs false
@@BLOCK:NumsL.lean.txt@@
namespace Jvm.RoadKit
open Sem ClassFile Op Lib Jvm.Stand Jvm.Free Jvm.LawKit
section New
variable {p : Program} {l : Launch} {e : Env} {R : Room} {s : State} {m : MethodId} {args : Array Value} {below : List Frame} {meth : Method} {c : Code} {T : State} {locs : List Loc} {cells slots : Nat}
theorem retI (X : Stand p l e R s m args below meth c T locs cells slots) (hx : p.tables.exec = Jvm.exec) {pc : Nat} {Ls : Array Slot} {z : Int32} {rest : List Value} (hret : meth.sig.returnType = some .int) (hd : decode c.code pc = .ok (.ireturn, 1)) {fs : List Frame}
    (hl : ∀ (f : JFrame) (acts : List Action), f.method = m → f.locked = none → f.entered = [] → (doReturn e (T.setTop f) acts (some (.int z))).1 = T.setFrames fs) : Steps p.tables e below (T.setTop (mkF m pc Ls (.int z :: rest))) (T.setFrames fs) := by
  have hm' : T.vm.method? m = some meth := X.method'
  have hn : narrow .int (.int z) = .int z := rfl
  show Steps p.tables e below (T.setTop { method := m, pc := pc, locals := Ls, stack := _ :: rest, locked := none }) _
  jvm_step X.here [X.here.top, hx, hd, hm', hret, hn]
  first | (intro acts; rw [hl _ acts rfl rfl rfl]) | rw [hl _ _ rfl rfl rfl]
  exact Steps.refl _
end New
end Jvm.RoadKit
namespace Jvm.Pilot.@@N@@
open Jvm Jvm.ClassFile Sem Op Lib Jvm.Free Jvm.Stand Jvm.LawKit Jvm.RoadKit Bundle Jvm.Pilot.@@N@@.Jvm.D
/-- what is still to be run from the state A on: it ends, returned, and Q says what it leaves -/
def own_Gl (FE : State → Outcome → State → List Loc → Nat → Nat → Prop) (p : Program) (e : Env) (below : List Frame) (s : State) (Q : Option Value → Heap → List Loc → Prop) (C N : Nat) (A : State) : Prop :=
  ∃ s₂ o, Steps p.tables e below A s₂ ∧ s₂.status = .running ∧ Ended s₂ below o ∧ ∃ v L, o = .returned v ∧ Q v s₂.heap L ∧ FE s o s₂ L C N
theorem own_st {FE : State → Outcome → State → List Loc → Nat → Nat → Prop} {p : Program} {e : Env} {below : List Frame} {s : State} {Q : Option Value → Heap → List Loc → Prop} {C N : Nat} {A A' : State} (h : ∀ t, Steps p.tables e below A' t → Steps p.tables e below A t) (k : own_Gl FE p e below s Q C N A') : own_Gl FE p e below s Q C N A := by
  obtain ⟨s2, o, h1, r⟩ := k
  exact ⟨s2, o, h _ h1, r⟩
theorem own_tr {FE : State → Outcome → State → List Loc → Nat → Nat → Prop} {p : Program} {e : Env} {below : List Frame} {s : State} {Q : Option Value → Heap → List Loc → Prop} {C N : Nat} {A A' : State} (h : Steps p.tables e below A A') (k : own_Gl FE p e below s Q C N A') : own_Gl FE p e below s Q C N A := by
  obtain ⟨s2, o, h1, r⟩ := k
  exact ⟨s2, o, h.trans h1, r⟩
theorem own_ret {p : Program} {l : Launch} {e : Env} {R : Room} {s : State} {m : MethodId} {args : Array Value} {below : List Frame} {meth : Method} {c : Code} {T : State} {locs : List Loc} {cells slots : Nat} {Q : Option Value → Heap → List Loc → Prop} {C N : Nat} {A : State}
    (X : Stand p l e R s m args below meth c T locs cells slots) {v : Option Value} (hv : meth.sig.returnType = none → v = none) (hlocks : meth.locks = false) (hC : cells ≤ C) (hN : slots ≤ N) (q : Q v T.heap locs)
    (h : ∀ fs, (∀ (f : JFrame) (acts : List Action), f.method = m → f.locked = none → f.entered = [] → (doReturn e (T.setTop f) acts v).1 = T.setFrames fs) → Steps p.tables e below A (T.setFrames fs)) : own_Gl FrameEnd p e below s Q C N A := by
  obtain ⟨fs, hr, hrun, hended, hW, hsame⟩ := X.leave (v := v) hv hlocks
  exact ⟨_, _, h fs hr, hrun, hended, v, locs, rfl, q, ⟨v, rfl⟩, hW, hsame.mono hC hN⟩
theorem own_retW {p : Program} {l : Launch} {e : Env} {R : Room} {s : State} {vm0 : Vm} {m : MethodId} {args : Array Value} {below : List Frame} {meth : Method} {c : Code} {T : State} {locs : List Loc} {cells slots : Nat} {Q : Option Value → Heap → List Loc → Prop} {C N : Nat} {A : State}
    (X : Stand p l e R (s.setVm vm0) m args below meth c T locs cells slots) {k0 : Nat} (hS : s.Since vm0 k0) (hk : k0 ≤ T.heap.size) {v : Option Value} (hv : meth.sig.returnType = none → v = none) (hlocks : meth.locks = false) (hC : cells ≤ C) (hN : slots ≤ N) (q : Q v T.heap locs)
    (h : ∀ fs, (∀ (f : JFrame) (acts : List Action), f.method = m → f.locked = none → f.entered = [] → (doReturn e (T.setTop f) acts v).1 = T.setFrames fs) → Steps p.tables e below A (T.setFrames fs)) : own_Gl ReturnedEndW p e below s Q C N A := by
  obtain ⟨fs, hr, hrun, hended, h1, h2, h3, h4⟩ := X.leaveW hS hk (v := v) hv hlocks
  exact ⟨_, _, h fs hr, hrun, hended, v, locs, rfl, q, h1, h2, h3, h4.mono hC hN⟩
theorem own_at_heap {T : State} {h : Heap} {a : Addr} {cl : Cell} (e : T.heap = h) (q : h[a]? = some cl) : T.heap[a]? = some cl := by rw [e]; exact q
theorem own_kext {h0 h : Heap} (K : Keep h0 h ([] : List Addr)) : Ext h0 h := ⟨K.1, fun a c q => K.2.1 a c q nin0⟩
def own_FEH (Z : State) (EL : List (String × Nat)) (s : State) (o : Outcome) (t : State) (L : List Loc) (k n : Nat) : Prop := CHr Z EL s.vm s.heap t.vm t.heap ∧ ReturnedEndW s o t L k n
theorem own_retH {Z : State} {EL : List (String × Nat)} {a0 : Array Value} {p : Program} {l : Launch} {e : Env} {R : Room} {s : State} {vm0 : Vm} {m : MethodId} {args : Array Value} {below : List Frame} {meth : Method} {c : Code} {T : State} {locs : List Loc} {cells slots : Nat} {Q : Option Value → Heap → List Loc → Prop} {C N : Nat} {A : State} {h : Heap}
    (X : Stand p l e R (s.setVm vm0) m args below meth c T locs cells slots) {k0 : Nat} (hS : s.Since vm0 k0) (hk : k0 ≤ T.heap.size) (hZ : Z.Warmed39 vm0) (hEL : EW Z a0 EL) (eT : T.heap = h) (hR : CHr Z EL s.vm s.heap vm0 h) {v : Option Value} (hv : meth.sig.returnType = none → v = none) (hlocks : meth.locks = false) (hC : cells ≤ C) (hN : slots ≤ N) (q : Q v T.heap locs)
    (h' : ∀ fs, (∀ (f : JFrame) (acts : List Action), f.method = m → f.locked = none → f.entered = [] → (doReturn e (T.setTop f) acts v).1 = T.setFrames fs) → Steps p.tables e below A (T.setFrames fs)) : own_Gl (own_FEH Z EL) p e below s Q C N A := by
  obtain ⟨fs, hr, hrun, hended, h1, h2, h3, h4⟩ := X.leaveW hS hk (v := v) hv hlocks
  subst eT
  exact ⟨_, _, h' fs hr, hrun, hended, v, locs, rfl, q, (show CHr Z EL s.vm s.heap T.vm T.heap from hR.trans (CHv.at X hZ hEL hR.1)), h1, h2, h3, h4.mono hC hN⟩
theorem own_lgt {x y : Int64} (h : y < x) : (0 : Int32) < lcmpW x y := by rw [lcW]; exact (lc_gt _ _).mpr h
theorem own_ngt {x y : Int64} (h : ¬ y < x) : ¬ (0 : Int32) < lcmpW x y := by rw [lcW]; exact fun q => h ((lc_gt _ _).mp q)
theorem own_llt {x y : Int64} (h : x < y) : lcmpW x y < (0 : Int32) := by rw [lcW]; exact (lc_lt _ _).mpr h
theorem own_nlt {x y : Int64} (h : ¬ x < y) : ¬ lcmpW x y < (0 : Int32) := by rw [lcW]; exact fun q => h ((lc_lt _ _).mp q)
theorem own_leq {x y : Int64} (h : x = y) : lcmpW x y = (0 : Int32) := by rw [lcW]; exact (lc_eq _ _).mpr h
theorem own_neq {x y : Int64} (h : ¬ x = y) : ¬ lcmpW x y = (0 : Int32) := by rw [lcW]; exact fun q => h ((lc_eq _ _).mp q)
theorem own_lrem {p : Program} {l : Launch} {e : Env} {R : Room} {s : State} {m : MethodId} {args : Array Value} {below : List Frame} {meth : Method} {c : Code} {T : State} {locs : List Loc} {cells slots : Nat} {g : JFrame} {target : State} (X : Stand p l e R s m args below meth c T locs cells slots) (hx : p.tables.exec = Jvm.exec) (hg : g.method = m) {x y : Int64} {rest : List Value} (hd : decode c.code g.pc = .ok (.lrem, 1)) (hs : g.stack = .long y :: .long x :: rest) (hy : y ≠ 0)
    (hr : Steps p.tables e below (T.setTop { g with pc := g.pc + 1, stack := .long (x - (x / y) * y) :: rest }) target) : Steps p.tables e below (T.setTop g) target := XS.lrem X.here hx hg hd hs hy hr
theorem own_eqi {t : Term} {n : Int32} {args : Array Value} {s : State} (h : (Jvm.Cond.eq t (.int n)).value args s none s [] = some true) : t.eval args s none [] s = some (.int n) := by
  have hn : (Term.int n).eval args s none [] s = some (.int n) := rfl
  simp only [Cond.value, hn] at h
  cases hv : t.eval args s none [] s with
  | none => simp [hv] at h
  | some v => cases v <;> simp_all
theorem own_wS {a0 : Array Value} {Z : State} (hw : ∀ d ∈ tables_1, d.before a0 Z = true) : ∀ a ∈ Bundle.stringAtoms, a.before a0 Z = true := by
  intro a ha
  simp only [Bundle.stringAtoms, List.mem_cons, List.not_mem_nil, or_false] at ha
  rcases ha with rfl | rfl | rfl | rfl | rfl | rfl | rfl
  · exact (hw _ (List.mem_of_getElem? (i := 12) rfl))
  · exact (hw _ (List.mem_of_getElem? (i := 13) rfl))
  · exact (hw _ (List.mem_of_getElem? (i := 0) rfl))
  · exact (hw _ (List.mem_of_getElem? (i := 14) rfl))
  · exact (hw _ (List.mem_of_getElem? (i := 15) rfl))
  · exact (hw _ (List.mem_of_getElem? (i := 16) rfl))
  · exact (hw _ (List.mem_of_getElem? (i := 17) rfl))
def own_pw (c4 c5 c6 c7 : Int32) : Int32 := (((((((((0 : Int32) <<< ((8 : Int32) &&& 31)) ||| (c4 &&& (255 : Int32))) <<< ((8 : Int32) &&& 31)) ||| (c5 &&& (255 : Int32))) <<< ((8 : Int32) &&& 31)) ||| (c6 &&& (255 : Int32))) <<< ((8 : Int32) &&& 31)) ||| (c7 &&& (255 : Int32)))
theorem own_len {t : Term} {args : Array Value} {s : State} {a : Addr} {cl : Cell} {ty : FieldType} {z : Int32} (h : (Term.length t).eval args s none [] s = some (.int z)) (ev : t.eval args s none [] s = some (.ref a)) (A : Arr s s.heap a cl ty) : cl.slots.size < 2 ^ 31 ∧ cl.slots.size.toInt32 = z := by
  have ha : s.arrayAt? a = some cl := Arr.fin (U := s) (Vm.Alike.refl _) A
  by_cases q : cl.slots.size < 2 ^ 31
  · rw [len_f ev ha q] at h
    exact ⟨q, Value.int.inj (Option.some.inj h)⟩
  · simp [Term.eval, ev, ha, q] at h
theorem own_i8 (x : Int32) : -128 ≤ x.toInt8.toInt32.toInt ∧ x.toInt8.toInt32.toInt ≤ 127 := by
  rw [Int8.toInt_toInt32]
  exact ⟨Int8.le_toInt _, Int8.toInt_le _⟩
theorem own_r1 (x : Int32) : ¬ x.toInt8.toInt32 < (-128 : Int32) := by
  have := own_i8 x
  have c0 : (-128 : Int32).toInt = -128 := by decide
  rw [Int32.lt_iff_toInt_lt, c0]; omega
theorem own_r2 (x : Int32) : ¬ (127 : Int32) < x.toInt8.toInt32 := by
  have := own_i8 x
  have c0 : (127 : Int32).toInt = 127 := by decide
  rw [Int32.lt_iff_toInt_lt, c0]; omega
theorem own_m16 (x : Int32) : (x &&& (65535 : Int32)).toInt = x.toInt % 2 ^ 16 := Jvm.Kit.i32_mask x 65535 (k := 16) (by decide) (by decide)
theorem own_p1 (x : Int32) : ¬ (x &&& (65535 : Int32)) < (0 : Int32) := by
  have := own_m16 x
  rw [Int32.lt_iff_toInt_lt, Int32.toInt_zero]; omega
theorem own_p2 (x : Int32) : ¬ (65535 : Int32) < (x &&& (65535 : Int32)) := by
  have := own_m16 x
  have c0 : (65535 : Int32).toInt = 65535 := by decide
  rw [Int32.lt_iff_toInt_lt, c0]; omega
theorem own_nat (x : Int32) : x.toInt = ((x.toBitVec.toNat : Nat) : Int).bmod (2 ^ 32) := BitVec.toInt_eq_toNat_bmod x.toBitVec
theorem own_nat2 {x : Int32} {n : Nat} (h : x.toInt = n) (hn : n < 2 ^ 31) : x.toBitVec.toNat = n := by
  have a := own_nat x
  have b := x.toBitVec.isLt
  rw [Int.bmod_def] at a
  split at a <;> omega
theorem own_mod (x : Int32) : (x.toInt) % 256 = ((x.toBitVec.toNat : Nat) : Int) % 256 := by
  rw [own_nat x, Int.bmod_def]
  split <;> omega
theorem own_byte (y : Int32) : (nar .byte (y.toInt8.toInt32) &&& (255 : Int32)).toBitVec.toNat = y.toBitVec.toNat % 256 := by
  have e0 : nar .byte (y.toInt8.toInt32) = y.toInt8.toInt32 := by
    show (y.toInt8.toInt32).toInt8.toInt32 = y.toInt8.toInt32
    rw [Int8.toInt8_toInt32]
  have e1 : (y.toInt8.toInt32 &&& (255 : Int32)).toInt = ((y.toBitVec.toNat % 256 : Nat) : Int) := by
    rw [Jvm.Kit.i32_mask _ 255 (k := 8) (by decide) (by decide), Int8.toInt_toInt32, Int32.toInt_toInt8]
    have q := own_mod y
    have h : y.toInt.bmod (2 ^ 8) % 256 = y.toInt % 256 := Int.bmod_emod (x := y.toInt) (m := 2 ^ 8)
    have g : ((y.toBitVec.toNat % 256 : Nat) : Int) = (y.toBitVec.toNat : Int) % 256 := by omega
    show y.toInt.bmod (2 ^ 8) % 256 = _
    rw [h, g]
    exact q
  rw [e0]
  exact own_nat2 e1 (by omega)
theorem own_sh (x : Int32) (k : Int32) (n : Nat) (hk : (k &&& 31).toUInt32.toNat % 32 = n) : ((x.toUInt32 >>> (k &&& 31).toUInt32).toInt32).toBitVec.toNat = x.toBitVec.toNat / 2 ^ n := by
  show (x.toUInt32 >>> (k &&& 31).toUInt32).toNat = x.toUInt32.toNat / 2 ^ n
  rw [UInt32.toNat_shiftRight, hk, Nat.shiftRight_eq_div_pow]
theorem own_acc (a b : Int32) (hb : b.toBitVec.toNat < 256) : ((a <<< ((8 : Int32) &&& 31)) ||| b).toBitVec.toNat = (a.toBitVec.toNat * 256) % 2 ^ 32 + b.toBitVec.toNat := by
  rw [Int32.toBitVec_or, Int32.toBitVec_shiftLeft, BitVec.toNat_or]
  have e : (((8 : Int32) &&& 31).toBitVec.smod 32) = 8#32 := by decide
  rw [e]
  have e2 : (a.toBitVec <<< (8#32)).toNat = (a.toBitVec.toNat % 2 ^ 24) <<< 8 := by
    rw [BitVec.shiftLeft_eq', BitVec.toNat_shiftLeft, show (8#32).toNat = 8 from rfl, Nat.shiftLeft_eq, Nat.shiftLeft_eq]
    omega
  rw [e2, ← Nat.shiftLeft_add_eq_or_of_lt hb, Nat.shiftLeft_eq]
  omega
theorem own_pw_eq (x : Int32) : own_pw (nar .byte (((x.toUInt32 >>> ((24 : Int32) &&& 31).toUInt32).toInt32).toInt8.toInt32)) (nar .byte (((x.toUInt32 >>> ((16 : Int32) &&& 31).toUInt32).toInt32).toInt8.toInt32)) (nar .byte (((x.toUInt32 >>> ((8 : Int32) &&& 31).toUInt32).toInt32).toInt8.toInt32)) (nar .byte (x.toInt8.toInt32)) = x := by
  apply Int32.toBitVec_inj.mp
  apply BitVec.eq_of_toNat_eq
  have b1 := own_byte ((x.toUInt32 >>> ((24 : Int32) &&& 31).toUInt32).toInt32)
  have b2 := own_byte ((x.toUInt32 >>> ((16 : Int32) &&& 31).toUInt32).toInt32)
  have b3 := own_byte ((x.toUInt32 >>> ((8 : Int32) &&& 31).toUInt32).toInt32)
  have b4 := own_byte x
  rw [own_sh x 24 24 (by decide)] at b1
  rw [own_sh x 16 16 (by decide)] at b2
  rw [own_sh x 8 8 (by decide)] at b3
  unfold own_pw
  rw [own_acc _ _ (by rw [b4]; omega), own_acc _ _ (by rw [b3]; omega), own_acc _ _ (by rw [b2]; omega), own_acc _ _ (by rw [b1]; omega), b1, b2, b3, b4]
  have z : (0 : Int32).toBitVec.toNat = 0 := by decide
  have l := x.toBitVec.isLt
  rw [z]
  omega
theorem own_d3_0 : decode jdk_31_method_11_code 0 = .ok (.aload_n 0, 1) := by decide +kernel
theorem own_d3_1 : decode jdk_31_method_11_code 1 = .ok (.ifnonnull 12, 3) := by decide +kernel
theorem own_d3_13 : decode jdk_31_method_11_code 13 = .ok (.aload_n 0, 1) := by decide +kernel
theorem own_d3_14 : decode jdk_31_method_11_code 14 = .ok (.areturn, 1) := by decide +kernel
theorem own_ef_rm3 (m : MethodId) (aa : Addr) (msg : Addr) : entryFrame m #[(.ref aa), (.ref msg)] 2 = mkF m 0 #[.val (.ref aa), .val (.ref msg)] [] := by first | (simp [entryFrame, mkF, argsToLocals, Value.category]; done) | rfl
theorem own_pn0 : plainName "java/util/Objects" = true := by first | (simp [plainName, overriddenIn]; done) | decide +kernel
def Q3 (Z : State) (aa : Addr) (msg : Addr) (h0 : Heap) (n0 : Nat) (v : Option Value) (h : Heap) (L : List Loc) : Prop := v = some (.ref aa) ∧ Fr n0 L ∧ h = h0
set_option maxRecDepth 65536 in
set_option maxHeartbeats 40000000 in
theorem rm3 (l : Launch) (Z : State) (a0 : Array Value) (hw : ∀ d ∈ tables_1, d.before a0 Z = true) (ws : List Jvm.Cond) (aa : Addr) (msg : Addr) (h0 : Heap) (n0 : Nat) (Z0 : n0 ≤ h0.size) :
    MetFree l (⟨"java/util/Objects", "requireNonNull", "(Ljava/lang/Object;Ljava/lang/String;)Ljava/lang/Object;"⟩ : MethodName) (head1 (Jvm.Cond.code (⟨"java/util/Objects", "requireNonNull", "(Ljava/lang/Object;Ljava/lang/String;)Ljava/lang/Object;"⟩ : MethodName) jdk_31_method_11_code 2 (some (.object "java/lang/Object")) :: ws) ({ frames := 0, cells := 0, slots := 0, locals := 0 } : Room)) (fun a U => a = #[(.ref aa), (.ref msg)] ∧ Z.Warmed39 U.vm ∧ U.heap = h0) (fun _ _ _ _ _ => True) (fun _ U o U' => ∃ v L, o = .returned v ∧ Q3 Z aa msg h0 n0 v U'.heap L ∧ FrameEnd U o U' L ({ frames := 0, cells := 0, slots := 0, locals := 0 } : Room).cells ({ frames := 0, cells := 0, slots := 0, locals := 0 } : Room).slots) := by
  refine MetFree.of_bodySF (plainFor_of_name own_pn0) hisR ?_
  intro p e s m args below meth c s₁ Bd hml0 hP hK
  obtain ⟨rfl, hZ, hh⟩ := hP
  have hx := Bd.exec
  have hby := Bd.bytes
  have hml : c.maxLocals = 2 := hml0
  have hown : s.vm.findClass "java/util/Objects" = some m.cls := findClass_of_methodNamed Bd.named
  have hnm := (name_of_methodNamed Bd.named Bd.method).1
  have hlk : meth.locks = false := BodyLoose.notSynchronized Bd
  have X0 : Stand p l e ({ frames := 0, cells := 0, slots := 0, locals := 0 } : Room) s m #[(.ref aa), (.ref msg)] below meth c s₁ [] 0 0 := Stand.of_body Bd
  have e0 : s₁.heap = h0 := by rw [← hh, Bd.state]; rfl
  have N0 := Fr.nil n0
  show own_Gl FrameEnd p e below s (Q3 Z aa msg h0 n0) ({ frames := 0, cells := 0, slots := 0, locals := 0 } : Room).cells ({ frames := 0, cells := 0, slots := 0, locals := 0 } : Room).slots (s₁.setTop (entryFrame m #[(.ref aa), (.ref msg)] 2))
  rw [own_ef_rm3 m aa msg]
  refine own_st (A' := s₁.setTop (mkF m 14 #[.val (.ref aa), .val (.ref msg)] [(.ref aa)])) (fun tg kt => ?_) ?_
  · show Steps p.tables e below (s₁.setTop (mkF m 0 #[.val (.ref aa), .val (.ref msg)] [])) _
    refine XS.aloadN X0.here hx rfl (hb hby own_d3_0) rfl rfl ?_
    show Steps p.tables e below (s₁.setTop (mkF m 1 #[.val (.ref aa), .val (.ref msg)] [(.ref aa)])) _
    refine XS.ifnonnullYes X0.here hx rfl (pc0 := 1) (pc' := 13) rfl (hb hby own_d3_1) rfl (by decide) (by decide) ?_
    show Steps p.tables e below (s₁.setTop (mkF m 13 #[.val (.ref aa), .val (.ref msg)] [])) _
    refine XS.aloadN X0.here hx rfl (hb hby own_d3_13) rfl rfl ?_
    exact kt
  refine own_ret X0 (v := some (.ref aa)) (fun h => by rw [Bd.returns] at h; cases h) hlk (by decide) (by decide) ?_ (fun fs hr => ?_)
  · show Q3 Z aa msg h0 n0 (some (.ref aa)) s₁.heap _
    rw [e0]
    exact ⟨rfl, N0, rfl⟩
  · show Steps p.tables e below (s₁.setTop (mkF m 14 #[.val (.ref aa), .val (.ref msg)] [(.ref aa)])) _
    jvm_step X0.here [X0.here.top, hx, (hb hby own_d3_14), X0.method', Bd.returns, Value.isRef, FieldType.isReference]
    first | (intro acts; rw [hr _ acts rfl rfl rfl]) | rw [hr _ _ rfl rfl rfl]
    exact Steps.refl _
theorem own_d6_0 : decode jdk_37_method_2_code 0 = .ok (.aload_n 0, 1) := by decide +kernel
theorem own_d6_1 : decode jdk_37_method_2_code 1 = .ok (.getfield 7, 3) := by decide +kernel
theorem own_d6_4 : decode jdk_37_method_2_code 4 = .ok (.ireturn, 1) := by decide +kernel
theorem own_ef_rm6 (m : MethodId) (th : Addr) : entryFrame m #[(.ref th)] 1 = mkF m 0 #[.val (.ref th)] [] := by first | (simp [entryFrame, mkF, argsToLocals, Value.category]; done) | rfl
theorem own_pn1 : plainName "java/lang/Enum" = true := by first | (simp [plainName, overriddenIn]; done) | decide +kernel
def Q6 (Z : State) (th : Addr) (oo : Int32) (h0 : Heap) (n0 : Nat) (v : Option Value) (h : Heap) (L : List Loc) : Prop := v = some (.int oo) ∧ Fr n0 L ∧ h = h0
set_option maxRecDepth 65536 in
set_option maxHeartbeats 40000000 in
theorem rm6 (l : Launch) (Z : State) (a0 : Array Value) (hw : ∀ d ∈ tables_1, d.before a0 Z = true) (ws : List Jvm.Cond) (th : Addr) (oo : Int32) (h0 : Heap) (n0 : Nat) (Z0 : n0 ≤ h0.size) (Fo : Fld Z h0 th "java/lang/Enum" "ordinal" "I" (.int oo)) :
    MetFree l (⟨"java/lang/Enum", "ordinal", "()I"⟩ : MethodName) (head1 (Jvm.Cond.code (⟨"java/lang/Enum", "ordinal", "()I"⟩ : MethodName) jdk_37_method_2_code 1 (some .int) :: ws) ({ frames := 0, cells := 0, slots := 0, locals := 0 } : Room)) (fun a U => a = #[(.ref th)] ∧ Z.Warmed39 U.vm ∧ U.heap = h0) (fun _ _ _ _ _ => True) (fun _ U o U' => ∃ v L, o = .returned v ∧ Q6 Z th oo h0 n0 v U'.heap L ∧ FrameEnd U o U' L ({ frames := 0, cells := 0, slots := 0, locals := 0 } : Room).cells ({ frames := 0, cells := 0, slots := 0, locals := 0 } : Room).slots) := by
  refine MetFree.of_bodySF (plainFor_of_name own_pn1) hisR ?_
  intro p e s m args below meth c s₁ Bd hml0 hP hK
  obtain ⟨rfl, hZ, hh⟩ := hP
  have hx := Bd.exec
  have hby := Bd.bytes
  have hml : c.maxLocals = 1 := hml0
  have hown : s.vm.findClass "java/lang/Enum" = some m.cls := findClass_of_methodNamed Bd.named
  have hnm := (name_of_methodNamed Bd.named Bd.method).1
  have hlk : meth.locks = false := BodyLoose.notSynchronized Bd
  have X0 : Stand p l e ({ frames := 0, cells := 0, slots := 0, locals := 0 } : Room) s m #[(.ref th)] below meth c s₁ [] 0 0 := Stand.of_body Bd
  have e0 : s₁.heap = h0 := by rw [← hh, Bd.state]; rfl
  have N0 := Fr.nil n0
  show own_Gl FrameEnd p e below s (Q6 Z th oo h0 n0) ({ frames := 0, cells := 0, slots := 0, locals := 0 } : Room).cells ({ frames := 0, cells := 0, slots := 0, locals := 0 } : Room).slots (s₁.setTop (entryFrame m #[(.ref th)] 1))
  rw [own_ef_rm6 m th]
  refine own_st (A' := s₁.setTop (mkF m 1 #[.val (.ref th)] [(.ref th)])) (fun tg kt => ?_) ?_
  · show Steps p.tables e below (s₁.setTop (mkF m 0 #[.val (.ref th)] [])) _
    refine XS.aloadN X0.here hx rfl (hb hby own_d6_0) rfl rfl ?_
    exact kt
  obtain ⟨T1, X1, e1, st1⟩ := getF X0 hx hZ hown (host := "") (Or.inl (hw _ (List.mem_of_getElem? (i := 67) rfl))) Via.refl e0 Fo (g := (mkF m 1 #[.val (.ref th)] [(.ref th)])) rfl rfl (hb hby own_d6_1)
  refine own_st st1 ?_
  show own_Gl _ _ _ _ _ _ _ _ (T1.setTop (mkF m 4 #[.val (.ref th)] [(.int oo)]))
  refine own_ret X1 (v := some (.int oo)) (fun h => by rw [Bd.returns] at h; cases h) hlk (by decide) (by decide) ?_ (fun fs hr => ?_)
  · show Q6 Z th oo h0 n0 (some (.int oo)) T1.heap _
    rw [e1]
    exact ⟨rfl, N0, rfl⟩
  · show Steps p.tables e below (T1.setTop (mkF m 4 #[.val (.ref th)] [(.int oo)])) _
    exact retI X1 hx Bd.returns (hb hby own_d6_4) hr
theorem own_d7_0 : decode prog_55_method_2_code 0 = .ok (.aload_n 0, 1) := by decide +kernel
theorem own_d7_1 : decode prog_55_method_2_code 1 = .ok (.invokespecial 1, 3) := by decide +kernel
theorem own_d7_4 : decode prog_55_method_2_code 4 = .ok (.aload_n 0, 1) := by decide +kernel
theorem own_d7_5 : decode prog_55_method_2_code 5 = .ok (.aload_n 1, 1) := by decide +kernel
theorem own_d7_6 : decode prog_55_method_2_code 6 = .ok (.putfield 37, 3) := by decide +kernel
theorem own_d7_9 : decode prog_55_method_2_code 9 = .ok (.aload_n 0, 1) := by decide +kernel
theorem own_d7_10 : decode prog_55_method_2_code 10 = .ok (.iload_n 2, 1) := by decide +kernel
theorem own_d7_11 : decode prog_55_method_2_code 11 = .ok (.putfield 39, 3) := by decide +kernel
theorem own_d7_14 : decode prog_55_method_2_code 14 = .ok (.aload_n 0, 1) := by decide +kernel
theorem own_d7_15 : decode prog_55_method_2_code 15 = .ok (.iload_n 3, 1) := by decide +kernel
theorem own_d7_16 : decode prog_55_method_2_code 16 = .ok (.putfield 43, 3) := by decide +kernel
theorem own_d7_19 : decode prog_55_method_2_code 19 = .ok (.aload_n 0, 1) := by decide +kernel
theorem own_d7_20 : decode prog_55_method_2_code 20 = .ok (.aload 4, 2) := by decide +kernel
theorem own_d7_22 : decode prog_55_method_2_code 22 = .ok (.putfield 46, 3) := by decide +kernel
theorem own_d7_25 : decode prog_55_method_2_code 25 = .ok (.aload_n 0, 1) := by decide +kernel
theorem own_d7_26 : decode prog_55_method_2_code 26 = .ok (.aload 5, 2) := by decide +kernel
theorem own_d7_28 : decode prog_55_method_2_code 28 = .ok (.putfield 49, 3) := by decide +kernel
theorem own_d7_31 : decode prog_55_method_2_code 31 = .ok (.aload_n 0, 1) := by decide +kernel
theorem own_d7_32 : decode prog_55_method_2_code 32 = .ok (.aload 6, 2) := by decide +kernel
theorem own_d7_34 : decode prog_55_method_2_code 34 = .ok (.putfield 52, 3) := by decide +kernel
theorem own_d7_37 : decode prog_55_method_2_code 37 = .ok (.return_, 1) := by decide +kernel
theorem own_ef_rm7 (m : MethodId) (th : Addr) (ep : Addr) (p2 : Int32) (p3 : Int32) (rs : Addr) (ti : Addr) (us : Addr) : entryFrame m #[(.ref th), (.ref ep), (.int p2), (.int p3), (.ref rs), (.ref ti), (.ref us)] 7 = mkF m 0 #[.val (.ref th), .val (.ref ep), .val (.int p2), .val (.int p3), .val (.ref rs), .val (.ref ti), .val (.ref us)] [] := by first | (simp [entryFrame, mkF, argsToLocals, Value.category]; done) | rfl
theorem own_pn2 : plainName "com/example/tagwire/tagwire/sim/Tag" = true := by first | (simp [plainName, overriddenIn]; done) | decide +kernel
def Q7 (Z : State) (th : Addr) (ep : Addr) (p2 : Int32) (p3 : Int32) (rs : Addr) (ti : Addr) (us : Addr) (h0 : Heap) (n0 : Nat) (v : Option Value) (h : Heap) (L : List Loc) : Prop := v = none ∧ Fr n0 L ∧ Keep h0 h [th] ∧ Exa Z h th "com/example/tagwire/tagwire/sim/Tag" ∧ Fld Z h th "com/example/tagwire/tagwire/sim/Tag" "reserved" "[B" (.ref rs)
set_option maxRecDepth 65536 in
set_option maxHeartbeats 40000000 in
theorem rm7 (l : Launch) (Z : State) (a0 : Array Value) (hw : ∀ d ∈ tables_1, d.before a0 Z = true) (ws : List Jvm.Cond) (th : Addr) (ep : Addr) (p2 : Int32) (p3 : Int32) (rs : Addr) (ti : Addr) (us : Addr) (h0 : Heap) (n0 : Nat) (Z0 : n0 ≤ h0.size) (F_epc : Fld Z h0 th "com/example/tagwire/tagwire/sim/Tag" "epc" "[B" .null) (F_pc : Fld Z h0 th "com/example/tagwire/tagwire/sim/Tag" "pc" "I" (.int (0 : Int32))) (F_rssi : Fld Z h0 th "com/example/tagwire/tagwire/sim/Tag" "rssi" "I" (.int (0 : Int32))) (F_reserved : Fld Z h0 th "com/example/tagwire/tagwire/sim/Tag" "reserved" "[B" .null) (F_tid : Fld Z h0 th "com/example/tagwire/tagwire/sim/Tag" "tid" "[B" .null) (F_user : Fld Z h0 th "com/example/tagwire/tagwire/sim/Tag" "user" "[B" .null) (Eth : Exa Z h0 th "com/example/tagwire/tagwire/sim/Tag") (gth : n0 ≤ th) :
    MetFree l (⟨"com/example/tagwire/tagwire/sim/Tag", "<init>", "([BII[B[B[B)V"⟩ : MethodName) (head1 (Jvm.Cond.code (⟨"com/example/tagwire/tagwire/sim/Tag", "<init>", "([BII[B[B[B)V"⟩ : MethodName) prog_55_method_2_code 7 none :: ws) ({ frames := 1, cells := 0, slots := 0, locals := 12 } : Room)) (fun a U => a = #[(.ref th), (.ref ep), (.int p2), (.int p3), (.ref rs), (.ref ti), (.ref us)] ∧ Z.Warmed39 U.vm ∧ U.heap = h0) (fun _ _ _ _ _ => True) (fun _ U o U' => ∃ v L, o = .returned v ∧ Q7 Z th ep p2 p3 rs ti us h0 n0 v U'.heap L ∧ FrameEnd U o U' L ({ frames := 1, cells := 0, slots := 0, locals := 12 } : Room).cells ({ frames := 1, cells := 0, slots := 0, locals := 12 } : Room).slots) := by
  refine MetFree.of_bodySF (plainFor_of_name own_pn2) hisR ?_
  intro p e s m args below meth c s₁ Bd hml0 hP hK
  obtain ⟨rfl, hZ, hh⟩ := hP
  have hx := Bd.exec
  have hby := Bd.bytes
  have hml : c.maxLocals = 7 := hml0
  have hown : s.vm.findClass "com/example/tagwire/tagwire/sim/Tag" = some m.cls := findClass_of_methodNamed Bd.named
  have hnm := (name_of_methodNamed Bd.named Bd.method).1
  have hlk : meth.locks = false := BodyLoose.notSynchronized Bd
  have X0 : Stand p l e ({ frames := 1, cells := 0, slots := 0, locals := 12 } : Room) s m #[(.ref th), (.ref ep), (.int p2), (.int p3), (.ref rs), (.ref ti), (.ref us)] below meth c s₁ [] 0 0 := Stand.of_body Bd
  have e0 : s₁.heap = h0 := by rw [← hh, Bd.state]; rfl
  have N0 := Fr.nil n0
  show own_Gl FrameEnd p e below s (Q7 Z th ep p2 p3 rs ti us h0 n0) ({ frames := 1, cells := 0, slots := 0, locals := 12 } : Room).cells ({ frames := 1, cells := 0, slots := 0, locals := 12 } : Room).slots (s₁.setTop (entryFrame m #[(.ref th), (.ref ep), (.int p2), (.int p3), (.ref rs), (.ref ti), (.ref us)] 7))
  rw [own_ef_rm7 m th ep p2 p3 rs ti us]
  refine own_st (A' := s₁.setTop (mkF m 1 #[.val (.ref th), .val (.ref ep), .val (.int p2), .val (.int p3), .val (.ref rs), .val (.ref ti), .val (.ref us)] [(.ref th)])) (fun tg kt => ?_) ?_
  · show Steps p.tables e below (s₁.setTop (mkF m 0 #[.val (.ref th), .val (.ref ep), .val (.int p2), .val (.int p3), .val (.ref rs), .val (.ref ti), .val (.ref us)] [])) _
    refine XS.aloadN X0.here hx rfl (hb hby own_d7_0) rfl rfl ?_
    exact kt
  obtain ⟨T1, X1, e1, st1⟩ := initO X0 hx hZ hown (hw _ (List.mem_of_getElem? (i := 8) rfl)) (hw _ (List.mem_of_getElem? (i := 9) rfl)) (hw _ (List.mem_of_getElem? (i := 10) rfl)) e0 (g := (mkF m 1 #[.val (.ref th), .val (.ref ep), .val (.int p2), .val (.int p3), .val (.ref rs), .val (.ref ti), .val (.ref us)] [(.ref th)])) rfl (by rw [hml]; rfl) rfl (hb hby own_d7_1) (by decide) (W := 0) (by show 2 * 0 + _ ≤ _; exact Nat.le_of_eq rfl) (by decide)
  refine own_st st1 ?_
  show own_Gl _ _ _ _ _ _ _ _ (T1.setTop (mkF m 4 #[.val (.ref th), .val (.ref ep), .val (.int p2), .val (.int p3), .val (.ref rs), .val (.ref ti), .val (.ref us)] []))
  refine own_st (A' := T1.setTop (mkF m 6 #[.val (.ref th), .val (.ref ep), .val (.int p2), .val (.int p3), .val (.ref rs), .val (.ref ti), .val (.ref us)] [(.ref ep), (.ref th)])) (fun tg kt => ?_) ?_
  · show Steps p.tables e below (T1.setTop (mkF m 4 #[.val (.ref th), .val (.ref ep), .val (.int p2), .val (.int p3), .val (.ref rs), .val (.ref ti), .val (.ref us)] [])) _
    refine XS.aloadN X1.here hx rfl (hb hby own_d7_4) rfl rfl ?_
    show Steps p.tables e below (T1.setTop (mkF m 5 #[.val (.ref th), .val (.ref ep), .val (.int p2), .val (.int p3), .val (.ref rs), .val (.ref ti), .val (.ref us)] [(.ref th)])) _
    refine XS.aloadN X1.here hx rfl (hb hby own_d7_5) rfl rfl ?_
    exact kt
  obtain ⟨T2, h2, X2, e2, W2, st2⟩ := putF X1 hx hZ hown (host := "") (Or.inl (hw _ (List.mem_of_getElem? (i := 32) rfl))) Via.refl e1 F_epc Eth (Or.inr ⟨(hw _ (List.mem_of_getElem? (i := 33) rfl)), rfl, hnm⟩) (hw _ (List.mem_of_getElem? (i := 2) rfl)) (ty := (.array .byte)) (by decide) rfl rfl (g := (mkF m 6 #[.val (.ref th), .val (.ref ep), .val (.int p2), .val (.int p3), .val (.ref rs), .val (.ref ti), .val (.ref us)] [(.ref ep), (.ref th)])) rfl rfl (hb hby own_d7_6)
  have N2 := Fr.snoc X2 N0 gth
  have K2 := ((Keep.refl h0 ([th] : List Addr))).wr W2 (Or.inl (List.mem_of_getElem? (i := 0) rfl))
  have Z2 : n0 ≤ h2.size := Nat.le_trans Z0 (Keep.of_wr W2).1
  have Fa3 := (F_pc.other W2 (Or.inr (slot_ne (Or.inr (hw _ (List.mem_of_getElem? (i := 35) rfl))) (Or.inr (hw _ (List.mem_of_getElem? (i := 33) rfl))) (by decide) (t := .int) (t' := (.array .byte)) (by decide) (by decide))))
  have Fa4 := (F_rssi.other W2 (Or.inr (slot_ne (Or.inr (hw _ (List.mem_of_getElem? (i := 37) rfl))) (Or.inr (hw _ (List.mem_of_getElem? (i := 33) rfl))) (by decide) (t := .int) (t' := (.array .byte)) (by decide) (by decide))))
  have Fa5 := (F_reserved.other W2 (Or.inr (slot_ne (Or.inr (hw _ (List.mem_of_getElem? (i := 39) rfl))) (Or.inr (hw _ (List.mem_of_getElem? (i := 33) rfl))) (by decide) (t := (.array .byte)) (t' := (.array .byte)) (by decide) (by decide))))
  have Fa6 := (F_tid.other W2 (Or.inr (slot_ne (Or.inr (hw _ (List.mem_of_getElem? (i := 41) rfl))) (Or.inr (hw _ (List.mem_of_getElem? (i := 33) rfl))) (by decide) (t := (.array .byte)) (t' := (.array .byte)) (by decide) (by decide))))
  have Fa7 := (F_user.other W2 (Or.inr (slot_ne (Or.inr (hw _ (List.mem_of_getElem? (i := 43) rfl))) (Or.inr (hw _ (List.mem_of_getElem? (i := 33) rfl))) (by decide) (t := (.array .byte)) (t' := (.array .byte)) (by decide) (by decide))))
  refine own_st st2 ?_
  show own_Gl _ _ _ _ _ _ _ _ (T2.setTop (mkF m 9 #[.val (.ref th), .val (.ref ep), .val (.int p2), .val (.int p3), .val (.ref rs), .val (.ref ti), .val (.ref us)] []))
  refine own_st (A' := T2.setTop (mkF m 11 #[.val (.ref th), .val (.ref ep), .val (.int p2), .val (.int p3), .val (.ref rs), .val (.ref ti), .val (.ref us)] [(.int p2), (.ref th)])) (fun tg kt => ?_) ?_
  · show Steps p.tables e below (T2.setTop (mkF m 9 #[.val (.ref th), .val (.ref ep), .val (.int p2), .val (.int p3), .val (.ref rs), .val (.ref ti), .val (.ref us)] [])) _
    refine XS.aloadN X2.here hx rfl (hb hby own_d7_9) rfl rfl ?_
    show Steps p.tables e below (T2.setTop (mkF m 10 #[.val (.ref th), .val (.ref ep), .val (.int p2), .val (.int p3), .val (.ref rs), .val (.ref ti), .val (.ref us)] [(.ref th)])) _
    refine XS.iloadN X2.here hx rfl (hb hby own_d7_10) rfl ?_
    exact kt
  obtain ⟨T8, h8, X8, e8, W8, st8⟩ := putF X2 hx hZ hown (host := "") (Or.inl (hw _ (List.mem_of_getElem? (i := 34) rfl))) Via.refl e2 Fa3 (Eth.wr W2) (Or.inr ⟨(hw _ (List.mem_of_getElem? (i := 35) rfl)), rfl, hnm⟩) (hw _ (List.mem_of_getElem? (i := 2) rfl)) (ty := .int) (by decide) rfl rfl (g := (mkF m 11 #[.val (.ref th), .val (.ref ep), .val (.int p2), .val (.int p3), .val (.ref rs), .val (.ref ti), .val (.ref us)] [(.int p2), (.ref th)])) rfl rfl (hb hby own_d7_11)
  have N8 := Fr.snoc X8 N2 gth
  have K8 := (K2).wr W8 (Or.inl (List.mem_of_getElem? (i := 0) rfl))
  have Z8 : n0 ≤ h8.size := Nat.le_trans Z2 (Keep.of_wr W8).1
  have Fa9 := (Fa4.other W8 (Or.inr (slot_ne (Or.inr (hw _ (List.mem_of_getElem? (i := 37) rfl))) (Or.inr (hw _ (List.mem_of_getElem? (i := 35) rfl))) (by decide) (t := .int) (t' := .int) (by decide) (by decide))))
  have Fa10 := (Fa5.other W8 (Or.inr (slot_ne (Or.inr (hw _ (List.mem_of_getElem? (i := 39) rfl))) (Or.inr (hw _ (List.mem_of_getElem? (i := 35) rfl))) (by decide) (t := (.array .byte)) (t' := .int) (by decide) (by decide))))
  have Fa11 := (Fa6.other W8 (Or.inr (slot_ne (Or.inr (hw _ (List.mem_of_getElem? (i := 41) rfl))) (Or.inr (hw _ (List.mem_of_getElem? (i := 35) rfl))) (by decide) (t := (.array .byte)) (t' := .int) (by decide) (by decide))))
  have Fa12 := (Fa7.other W8 (Or.inr (slot_ne (Or.inr (hw _ (List.mem_of_getElem? (i := 43) rfl))) (Or.inr (hw _ (List.mem_of_getElem? (i := 35) rfl))) (by decide) (t := (.array .byte)) (t' := .int) (by decide) (by decide))))
  have Fa13 := ((F_epc.same W2).other W8 (Or.inr (slot_ne (Or.inr (hw _ (List.mem_of_getElem? (i := 33) rfl))) (Or.inr (hw _ (List.mem_of_getElem? (i := 35) rfl))) (by decide) (t := (.array .byte)) (t' := .int) (by decide) (by decide))))
  refine own_st st8 ?_
  show own_Gl _ _ _ _ _ _ _ _ (T8.setTop (mkF m 14 #[.val (.ref th), .val (.ref ep), .val (.int p2), .val (.int p3), .val (.ref rs), .val (.ref ti), .val (.ref us)] []))
  refine own_st (A' := T8.setTop (mkF m 16 #[.val (.ref th), .val (.ref ep), .val (.int p2), .val (.int p3), .val (.ref rs), .val (.ref ti), .val (.ref us)] [(.int p3), (.ref th)])) (fun tg kt => ?_) ?_
  · show Steps p.tables e below (T8.setTop (mkF m 14 #[.val (.ref th), .val (.ref ep), .val (.int p2), .val (.int p3), .val (.ref rs), .val (.ref ti), .val (.ref us)] [])) _
    refine XS.aloadN X8.here hx rfl (hb hby own_d7_14) rfl rfl ?_
    show Steps p.tables e below (T8.setTop (mkF m 15 #[.val (.ref th), .val (.ref ep), .val (.int p2), .val (.int p3), .val (.ref rs), .val (.ref ti), .val (.ref us)] [(.ref th)])) _
    refine XS.iloadN X8.here hx rfl (hb hby own_d7_15) rfl ?_
    exact kt
  obtain ⟨T14, h14, X14, e14, W14, st14⟩ := putF X8 hx hZ hown (host := "") (Or.inl (hw _ (List.mem_of_getElem? (i := 36) rfl))) Via.refl e8 Fa9 ((Eth.wr W2).wr W8) (Or.inr ⟨(hw _ (List.mem_of_getElem? (i := 37) rfl)), rfl, hnm⟩) (hw _ (List.mem_of_getElem? (i := 2) rfl)) (ty := .int) (by decide) rfl rfl (g := (mkF m 16 #[.val (.ref th), .val (.ref ep), .val (.int p2), .val (.int p3), .val (.ref rs), .val (.ref ti), .val (.ref us)] [(.int p3), (.ref th)])) rfl rfl (hb hby own_d7_16)
  have N14 := Fr.snoc X14 N8 gth
  have K14 := (K8).wr W14 (Or.inl (List.mem_of_getElem? (i := 0) rfl))
  have Z14 : n0 ≤ h14.size := Nat.le_trans Z8 (Keep.of_wr W14).1
  have Fa15 := (Fa10.other W14 (Or.inr (slot_ne (Or.inr (hw _ (List.mem_of_getElem? (i := 39) rfl))) (Or.inr (hw _ (List.mem_of_getElem? (i := 37) rfl))) (by decide) (t := (.array .byte)) (t' := .int) (by decide) (by decide))))
  have Fa16 := (Fa11.other W14 (Or.inr (slot_ne (Or.inr (hw _ (List.mem_of_getElem? (i := 41) rfl))) (Or.inr (hw _ (List.mem_of_getElem? (i := 37) rfl))) (by decide) (t := (.array .byte)) (t' := .int) (by decide) (by decide))))
  have Fa17 := (Fa12.other W14 (Or.inr (slot_ne (Or.inr (hw _ (List.mem_of_getElem? (i := 43) rfl))) (Or.inr (hw _ (List.mem_of_getElem? (i := 37) rfl))) (by decide) (t := (.array .byte)) (t' := .int) (by decide) (by decide))))
  have Fa18 := (Fa13.other W14 (Or.inr (slot_ne (Or.inr (hw _ (List.mem_of_getElem? (i := 33) rfl))) (Or.inr (hw _ (List.mem_of_getElem? (i := 37) rfl))) (by decide) (t := (.array .byte)) (t' := .int) (by decide) (by decide))))
  have Fa19 := ((Fa3.same W8).other W14 (Or.inr (slot_ne (Or.inr (hw _ (List.mem_of_getElem? (i := 35) rfl))) (Or.inr (hw _ (List.mem_of_getElem? (i := 37) rfl))) (by decide) (t := .int) (t' := .int) (by decide) (by decide))))
  refine own_st st14 ?_
  show own_Gl _ _ _ _ _ _ _ _ (T14.setTop (mkF m 19 #[.val (.ref th), .val (.ref ep), .val (.int p2), .val (.int p3), .val (.ref rs), .val (.ref ti), .val (.ref us)] []))
  refine own_st (A' := T14.setTop (mkF m 22 #[.val (.ref th), .val (.ref ep), .val (.int p2), .val (.int p3), .val (.ref rs), .val (.ref ti), .val (.ref us)] [(.ref rs), (.ref th)])) (fun tg kt => ?_) ?_
  · show Steps p.tables e below (T14.setTop (mkF m 19 #[.val (.ref th), .val (.ref ep), .val (.int p2), .val (.int p3), .val (.ref rs), .val (.ref ti), .val (.ref us)] [])) _
    refine XS.aloadN X14.here hx rfl (hb hby own_d7_19) rfl rfl ?_
    show Steps p.tables e below (T14.setTop (mkF m 20 #[.val (.ref th), .val (.ref ep), .val (.int p2), .val (.int p3), .val (.ref rs), .val (.ref ti), .val (.ref us)] [(.ref th)])) _
    refine XS.aload X14.here hx rfl (hb hby own_d7_20) rfl rfl ?_
    exact kt
  obtain ⟨T20, h20, X20, e20, W20, st20⟩ := putF X14 hx hZ hown (host := "") (Or.inl (hw _ (List.mem_of_getElem? (i := 38) rfl))) Via.refl e14 Fa15 (((Eth.wr W2).wr W8).wr W14) (Or.inr ⟨(hw _ (List.mem_of_getElem? (i := 39) rfl)), rfl, hnm⟩) (hw _ (List.mem_of_getElem? (i := 2) rfl)) (ty := (.array .byte)) (by decide) rfl rfl (g := (mkF m 22 #[.val (.ref th), .val (.ref ep), .val (.int p2), .val (.int p3), .val (.ref rs), .val (.ref ti), .val (.ref us)] [(.ref rs), (.ref th)])) rfl rfl (hb hby own_d7_22)
  have N20 := Fr.snoc X20 N14 gth
  have K20 := (K14).wr W20 (Or.inl (List.mem_of_getElem? (i := 0) rfl))
  have Z20 : n0 ≤ h20.size := Nat.le_trans Z14 (Keep.of_wr W20).1
  have Fa21 := (Fa16.other W20 (Or.inr (slot_ne (Or.inr (hw _ (List.mem_of_getElem? (i := 41) rfl))) (Or.inr (hw _ (List.mem_of_getElem? (i := 39) rfl))) (by decide) (t := (.array .byte)) (t' := (.array .byte)) (by decide) (by decide))))
  have Fa22 := (Fa17.other W20 (Or.inr (slot_ne (Or.inr (hw _ (List.mem_of_getElem? (i := 43) rfl))) (Or.inr (hw _ (List.mem_of_getElem? (i := 39) rfl))) (by decide) (t := (.array .byte)) (t' := (.array .byte)) (by decide) (by decide))))
  have Fa23 := (Fa18.other W20 (Or.inr (slot_ne (Or.inr (hw _ (List.mem_of_getElem? (i := 33) rfl))) (Or.inr (hw _ (List.mem_of_getElem? (i := 39) rfl))) (by decide) (t := (.array .byte)) (t' := (.array .byte)) (by decide) (by decide))))
  have Fa24 := (Fa19.other W20 (Or.inr (slot_ne (Or.inr (hw _ (List.mem_of_getElem? (i := 35) rfl))) (Or.inr (hw _ (List.mem_of_getElem? (i := 39) rfl))) (by decide) (t := .int) (t' := (.array .byte)) (by decide) (by decide))))
  have Fa25 := ((Fa9.same W14).other W20 (Or.inr (slot_ne (Or.inr (hw _ (List.mem_of_getElem? (i := 37) rfl))) (Or.inr (hw _ (List.mem_of_getElem? (i := 39) rfl))) (by decide) (t := .int) (t' := (.array .byte)) (by decide) (by decide))))
  refine own_st st20 ?_
  show own_Gl _ _ _ _ _ _ _ _ (T20.setTop (mkF m 25 #[.val (.ref th), .val (.ref ep), .val (.int p2), .val (.int p3), .val (.ref rs), .val (.ref ti), .val (.ref us)] []))
  refine own_st (A' := T20.setTop (mkF m 28 #[.val (.ref th), .val (.ref ep), .val (.int p2), .val (.int p3), .val (.ref rs), .val (.ref ti), .val (.ref us)] [(.ref ti), (.ref th)])) (fun tg kt => ?_) ?_
  · show Steps p.tables e below (T20.setTop (mkF m 25 #[.val (.ref th), .val (.ref ep), .val (.int p2), .val (.int p3), .val (.ref rs), .val (.ref ti), .val (.ref us)] [])) _
    refine XS.aloadN X20.here hx rfl (hb hby own_d7_25) rfl rfl ?_
    show Steps p.tables e below (T20.setTop (mkF m 26 #[.val (.ref th), .val (.ref ep), .val (.int p2), .val (.int p3), .val (.ref rs), .val (.ref ti), .val (.ref us)] [(.ref th)])) _
    refine XS.aload X20.here hx rfl (hb hby own_d7_26) rfl rfl ?_
    exact kt
  obtain ⟨T26, h26, X26, e26, W26, st26⟩ := putF X20 hx hZ hown (host := "") (Or.inl (hw _ (List.mem_of_getElem? (i := 40) rfl))) Via.refl e20 Fa21 ((((Eth.wr W2).wr W8).wr W14).wr W20) (Or.inr ⟨(hw _ (List.mem_of_getElem? (i := 41) rfl)), rfl, hnm⟩) (hw _ (List.mem_of_getElem? (i := 2) rfl)) (ty := (.array .byte)) (by decide) rfl rfl (g := (mkF m 28 #[.val (.ref th), .val (.ref ep), .val (.int p2), .val (.int p3), .val (.ref rs), .val (.ref ti), .val (.ref us)] [(.ref ti), (.ref th)])) rfl rfl (hb hby own_d7_28)
  have N26 := Fr.snoc X26 N20 gth
  have K26 := (K20).wr W26 (Or.inl (List.mem_of_getElem? (i := 0) rfl))
  have Z26 : n0 ≤ h26.size := Nat.le_trans Z20 (Keep.of_wr W26).1
  have Fa27 := (Fa22.other W26 (Or.inr (slot_ne (Or.inr (hw _ (List.mem_of_getElem? (i := 43) rfl))) (Or.inr (hw _ (List.mem_of_getElem? (i := 41) rfl))) (by decide) (t := (.array .byte)) (t' := (.array .byte)) (by decide) (by decide))))
  have Fa28 := (Fa23.other W26 (Or.inr (slot_ne (Or.inr (hw _ (List.mem_of_getElem? (i := 33) rfl))) (Or.inr (hw _ (List.mem_of_getElem? (i := 41) rfl))) (by decide) (t := (.array .byte)) (t' := (.array .byte)) (by decide) (by decide))))
  have Fa29 := (Fa24.other W26 (Or.inr (slot_ne (Or.inr (hw _ (List.mem_of_getElem? (i := 35) rfl))) (Or.inr (hw _ (List.mem_of_getElem? (i := 41) rfl))) (by decide) (t := .int) (t' := (.array .byte)) (by decide) (by decide))))
  have Fa30 := (Fa25.other W26 (Or.inr (slot_ne (Or.inr (hw _ (List.mem_of_getElem? (i := 37) rfl))) (Or.inr (hw _ (List.mem_of_getElem? (i := 41) rfl))) (by decide) (t := .int) (t' := (.array .byte)) (by decide) (by decide))))
  have Fa31 := ((Fa15.same W20).other W26 (Or.inr (slot_ne (Or.inr (hw _ (List.mem_of_getElem? (i := 39) rfl))) (Or.inr (hw _ (List.mem_of_getElem? (i := 41) rfl))) (by decide) (t := (.array .byte)) (t' := (.array .byte)) (by decide) (by decide))))
  refine own_st st26 ?_
  show own_Gl _ _ _ _ _ _ _ _ (T26.setTop (mkF m 31 #[.val (.ref th), .val (.ref ep), .val (.int p2), .val (.int p3), .val (.ref rs), .val (.ref ti), .val (.ref us)] []))
  refine own_st (A' := T26.setTop (mkF m 34 #[.val (.ref th), .val (.ref ep), .val (.int p2), .val (.int p3), .val (.ref rs), .val (.ref ti), .val (.ref us)] [(.ref us), (.ref th)])) (fun tg kt => ?_) ?_
  · show Steps p.tables e below (T26.setTop (mkF m 31 #[.val (.ref th), .val (.ref ep), .val (.int p2), .val (.int p3), .val (.ref rs), .val (.ref ti), .val (.ref us)] [])) _
    refine XS.aloadN X26.here hx rfl (hb hby own_d7_31) rfl rfl ?_
    show Steps p.tables e below (T26.setTop (mkF m 32 #[.val (.ref th), .val (.ref ep), .val (.int p2), .val (.int p3), .val (.ref rs), .val (.ref ti), .val (.ref us)] [(.ref th)])) _
    refine XS.aload X26.here hx rfl (hb hby own_d7_32) rfl rfl ?_
    exact kt
  obtain ⟨T32, h32, X32, e32, W32, st32⟩ := putF X26 hx hZ hown (host := "") (Or.inl (hw _ (List.mem_of_getElem? (i := 42) rfl))) Via.refl e26 Fa27 (((((Eth.wr W2).wr W8).wr W14).wr W20).wr W26) (Or.inr ⟨(hw _ (List.mem_of_getElem? (i := 43) rfl)), rfl, hnm⟩) (hw _ (List.mem_of_getElem? (i := 2) rfl)) (ty := (.array .byte)) (by decide) rfl rfl (g := (mkF m 34 #[.val (.ref th), .val (.ref ep), .val (.int p2), .val (.int p3), .val (.ref rs), .val (.ref ti), .val (.ref us)] [(.ref us), (.ref th)])) rfl rfl (hb hby own_d7_34)
  have N32 := Fr.snoc X32 N26 gth
  have K32 := (K26).wr W32 (Or.inl (List.mem_of_getElem? (i := 0) rfl))
  have Z32 : n0 ≤ h32.size := Nat.le_trans Z26 (Keep.of_wr W32).1
  have Fa33 := (Fa28.other W32 (Or.inr (slot_ne (Or.inr (hw _ (List.mem_of_getElem? (i := 33) rfl))) (Or.inr (hw _ (List.mem_of_getElem? (i := 43) rfl))) (by decide) (t := (.array .byte)) (t' := (.array .byte)) (by decide) (by decide))))
  have Fa34 := (Fa29.other W32 (Or.inr (slot_ne (Or.inr (hw _ (List.mem_of_getElem? (i := 35) rfl))) (Or.inr (hw _ (List.mem_of_getElem? (i := 43) rfl))) (by decide) (t := .int) (t' := (.array .byte)) (by decide) (by decide))))
  have Fa35 := (Fa30.other W32 (Or.inr (slot_ne (Or.inr (hw _ (List.mem_of_getElem? (i := 37) rfl))) (Or.inr (hw _ (List.mem_of_getElem? (i := 43) rfl))) (by decide) (t := .int) (t' := (.array .byte)) (by decide) (by decide))))
  have Fa36 := (Fa31.other W32 (Or.inr (slot_ne (Or.inr (hw _ (List.mem_of_getElem? (i := 39) rfl))) (Or.inr (hw _ (List.mem_of_getElem? (i := 43) rfl))) (by decide) (t := (.array .byte)) (t' := (.array .byte)) (by decide) (by decide))))
  have Fa37 := ((Fa21.same W26).other W32 (Or.inr (slot_ne (Or.inr (hw _ (List.mem_of_getElem? (i := 41) rfl))) (Or.inr (hw _ (List.mem_of_getElem? (i := 43) rfl))) (by decide) (t := (.array .byte)) (t' := (.array .byte)) (by decide) (by decide))))
  refine own_st st32 ?_
  show own_Gl _ _ _ _ _ _ _ _ (T32.setTop (mkF m 37 #[.val (.ref th), .val (.ref ep), .val (.int p2), .val (.int p3), .val (.ref rs), .val (.ref ti), .val (.ref us)] []))
  refine own_ret X32 (v := none) (fun _ => rfl) hlk (by decide) (by decide) ?_ (fun fs hr => ?_)
  · show Q7 Z th ep p2 p3 rs ti us h0 n0 (none) T32.heap _
    rw [e32]
    exact ⟨rfl, N32, K32, ((((((Eth.wr W2).wr W8).wr W14).wr W20).wr W26).wr W32), Fa36⟩
  · show Steps p.tables e below (T32.setTop (mkF m 37 #[.val (.ref th), .val (.ref ep), .val (.int p2), .val (.int p3), .val (.ref rs), .val (.ref ti), .val (.ref us)] [])) _
    exact X32.returnOut hx Bd.returns (hb hby own_d7_37) hr
theorem own_pd3 : parseMethodDescriptor "(Ljava/lang/Object;Ljava/lang/String;)Ljava/lang/Object;" = some ⟨[(.object "java/lang/Object"), (.object "java/lang/String")], some (.object "java/lang/Object")⟩ := by decide +kernel
theorem own_d1_0 : decode prog_55_method_1_code 0 = .ok (.aload_n 0, 1) := by decide +kernel
theorem own_d1_1 : decode prog_55_method_1_code 1 = .ok (.invokespecial 1, 3) := by decide +kernel
theorem own_d1_4 : decode prog_55_method_1_code 4 = .ok (.aload_n 1, 1) := by decide +kernel
theorem own_d1_5 : decode prog_55_method_1_code 5 = .ok (.ldc 7, 2) := by decide +kernel
theorem own_d1_7 : decode prog_55_method_1_code 7 = .ok (.invokestatic 9, 3) := by decide +kernel
theorem own_d1_10 : decode prog_55_method_1_code 10 = .ok (.pop, 1) := by decide +kernel
theorem own_d1_11 : decode prog_55_method_1_code 11 = .ok (.aload_n 1, 1) := by decide +kernel
theorem own_d1_12 : decode prog_55_method_1_code 12 = .ok (.arraylength, 1) := by decide +kernel
theorem own_d1_13 : decode prog_55_method_1_code 13 = .ok (.ifCond .eq 19, 3) := by decide +kernel
theorem own_d1_16 : decode prog_55_method_1_code 16 = .ok (.aload_n 1, 1) := by decide +kernel
theorem own_d1_17 : decode prog_55_method_1_code 17 = .ok (.arraylength, 1) := by decide +kernel
theorem own_d1_18 : decode prog_55_method_1_code 18 = .ok (.iconst 2, 1) := by decide +kernel
theorem own_d1_19 : decode prog_55_method_1_code 19 = .ok (.irem, 1) := by decide +kernel
theorem own_d1_20 : decode prog_55_method_1_code 20 = .ok (.ifCond .ne 12, 3) := by decide +kernel
theorem own_d1_23 : decode prog_55_method_1_code 23 = .ok (.aload_n 1, 1) := by decide +kernel
theorem own_d1_24 : decode prog_55_method_1_code 24 = .ok (.arraylength, 1) := by decide +kernel
theorem own_d1_25 : decode prog_55_method_1_code 25 = .ok (.iconst 2, 1) := by decide +kernel
theorem own_d1_26 : decode prog_55_method_1_code 26 = .ok (.idiv, 1) := by decide +kernel
theorem own_d1_27 : decode prog_55_method_1_code 27 = .ok (.bipush 31, 2) := by decide +kernel
theorem own_d1_29 : decode prog_55_method_1_code 29 = .ok (.if_icmp .le 13, 3) := by decide +kernel
theorem own_d1_42 : decode prog_55_method_1_code 42 = .ok (.iload_n 2, 1) := by decide +kernel
theorem own_d1_43 : decode prog_55_method_1_code 43 = .ok (.ifCond .lt 9, 3) := by decide +kernel
theorem own_d1_46 : decode prog_55_method_1_code 46 = .ok (.iload_n 2, 1) := by decide +kernel
theorem own_d1_47 : decode prog_55_method_1_code 47 = .ok (.ldc 24, 2) := by decide +kernel
theorem own_d1_49 : decode prog_55_method_1_code 49 = .ok (.if_icmp .le 13, 3) := by decide +kernel
theorem own_d1_62 : decode prog_55_method_1_code 62 = .ok (.iload_n 3, 1) := by decide +kernel
theorem own_d1_63 : decode prog_55_method_1_code 63 = .ok (.bipush (-128), 2) := by decide +kernel
theorem own_d1_65 : decode prog_55_method_1_code 65 = .ok (.if_icmp .lt 9, 3) := by decide +kernel
theorem own_d1_68 : decode prog_55_method_1_code 68 = .ok (.iload_n 3, 1) := by decide +kernel
theorem own_d1_69 : decode prog_55_method_1_code 69 = .ok (.bipush 127, 2) := by decide +kernel
theorem own_d1_71 : decode prog_55_method_1_code 71 = .ok (.if_icmp .le 13, 3) := by decide +kernel
theorem own_d1_84 : decode prog_55_method_1_code 84 = .ok (.aload_n 0, 1) := by decide +kernel
theorem own_d1_85 : decode prog_55_method_1_code 85 = .ok (.aload_n 1, 1) := by decide +kernel
theorem own_d1_86 : decode prog_55_method_1_code 86 = .ok (.invokevirtual 31, 3) := by decide +kernel
theorem own_d1_89 : decode prog_55_method_1_code 89 = .ok (.checkcast 32, 3) := by decide +kernel
theorem own_d1_92 : decode prog_55_method_1_code 92 = .ok (.putfield 37, 3) := by decide +kernel
theorem own_d1_95 : decode prog_55_method_1_code 95 = .ok (.aload_n 0, 1) := by decide +kernel
theorem own_d1_96 : decode prog_55_method_1_code 96 = .ok (.iload_n 2, 1) := by decide +kernel
theorem own_d1_97 : decode prog_55_method_1_code 97 = .ok (.putfield 39, 3) := by decide +kernel
theorem own_d1_100 : decode prog_55_method_1_code 100 = .ok (.aload_n 0, 1) := by decide +kernel
theorem own_d1_101 : decode prog_55_method_1_code 101 = .ok (.iload_n 3, 1) := by decide +kernel
theorem own_d1_102 : decode prog_55_method_1_code 102 = .ok (.putfield 43, 3) := by decide +kernel
theorem own_d1_105 : decode prog_55_method_1_code 105 = .ok (.aload_n 0, 1) := by decide +kernel
theorem own_d1_106 : decode prog_55_method_1_code 106 = .ok (.bipush 8, 2) := by decide +kernel
theorem own_d1_108 : decode prog_55_method_1_code 108 = .ok (.newarray .byte, 2) := by decide +kernel
theorem own_d1_110 : decode prog_55_method_1_code 110 = .ok (.putfield 46, 3) := by decide +kernel
theorem own_d1_113 : decode prog_55_method_1_code 113 = .ok (.aload_n 0, 1) := by decide +kernel
theorem own_d1_114 : decode prog_55_method_1_code 114 = .ok (.iconst 0, 1) := by decide +kernel
theorem own_d1_115 : decode prog_55_method_1_code 115 = .ok (.newarray .byte, 2) := by decide +kernel
theorem own_d1_117 : decode prog_55_method_1_code 117 = .ok (.putfield 49, 3) := by decide +kernel
theorem own_d1_120 : decode prog_55_method_1_code 120 = .ok (.aload_n 0, 1) := by decide +kernel
theorem own_d1_121 : decode prog_55_method_1_code 121 = .ok (.iconst 0, 1) := by decide +kernel
theorem own_d1_122 : decode prog_55_method_1_code 122 = .ok (.newarray .byte, 2) := by decide +kernel
theorem own_d1_124 : decode prog_55_method_1_code 124 = .ok (.putfield 52, 3) := by decide +kernel
theorem own_d1_127 : decode prog_55_method_1_code 127 = .ok (.return_, 1) := by decide +kernel
theorem own_ef_rm1 (m : MethodId) (th : Addr) (ep : Addr) (p2 : Int32) (p3 : Int32) : entryFrame m #[(.ref th), (.ref ep), (.int p2), (.int p3)] 4 = mkF m 0 #[.val (.ref th), .val (.ref ep), .val (.int p2), .val (.int p3)] [] := by first | (simp [entryFrame, mkF, argsToLocals, Value.category]; done) | rfl
def Q1 (Z : State) (th : Addr) (ep : Addr) (p2 : Int32) (p3 : Int32) (ke : ClassId) (v0 : Value) (v1 : Value) (h0 : Heap) (n0 : Nat) (v : Option Value) (h : Heap) (L : List Loc) : Prop := v = none ∧ Fr n0 L ∧ ∃ (x1 x2 x3 x4 : Addr) (kr : ClassId), Keep h0 h [th] ∧ Exa Z h th "com/example/tagwire/tagwire/sim/Tag" ∧ Fld Z h th "com/example/tagwire/tagwire/sim/Tag" "epc" "[B" (.ref x1) ∧ Fld Z h th "com/example/tagwire/tagwire/sim/Tag" "pc" "I" (.int p2) ∧ Fld Z h th "com/example/tagwire/tagwire/sim/Tag" "rssi" "I" (.int p3) ∧ Fld Z h th "com/example/tagwire/tagwire/sim/Tag" "reserved" "[B" (.ref x2) ∧ Fld Z h th "com/example/tagwire/tagwire/sim/Tag" "tid" "[B" (.ref x3) ∧ Fld Z h th "com/example/tagwire/tagwire/sim/Tag" "user" "[B" (.ref x4) ∧ Arv Z h x2 kr .byte (8 : Int32) [(.int (0 : Int32)), (.int (0 : Int32)), (.int (0 : Int32)), (.int (0 : Int32)), (.int (0 : Int32)), (.int (0 : Int32)), (.int (0 : Int32)), (.int (0 : Int32))] (.int (0 : Int32)) ∧ h0.size ≤ x2
set_option maxRecDepth 65536 in
set_option maxHeartbeats 40000000 in
theorem rm1 (l : Launch) (Z : State) (a0 : Array Value) (hw : ∀ d ∈ tables_1, d.before a0 Z = true) (ws : List Jvm.Cond) (th : Addr) (ep : Addr) (p2 : Int32) (p3 : Int32) (ke : ClassId) (v0 : Value) (v1 : Value) (h0 : Heap) (n0 : Nat) (Z0 : n0 ≤ h0.size) (F_epc : Fld Z h0 th "com/example/tagwire/tagwire/sim/Tag" "epc" "[B" .null) (F_pc : Fld Z h0 th "com/example/tagwire/tagwire/sim/Tag" "pc" "I" (.int (0 : Int32))) (F_rssi : Fld Z h0 th "com/example/tagwire/tagwire/sim/Tag" "rssi" "I" (.int (0 : Int32))) (F_reserved : Fld Z h0 th "com/example/tagwire/tagwire/sim/Tag" "reserved" "[B" .null) (F_tid : Fld Z h0 th "com/example/tagwire/tagwire/sim/Tag" "tid" "[B" .null) (F_user : Fld Z h0 th "com/example/tagwire/tagwire/sim/Tag" "user" "[B" .null) (Eth : Exa Z h0 th "com/example/tagwire/tagwire/sim/Tag") (gth : n0 ≤ th) (Vep : Arv Z h0 ep ke .byte (2 : Int32) [v0, v1] (.int (0 : Int32))) (Eep : Exa Z h0 ep "[B") (neth : th ≠ ep) (hp1 : ¬ p2 < (0 : Int32)) (hp2 : ¬ (65535 : Int32) < p2) (hr1 : ¬ p3 < (-128 : Int32)) (hr2 : ¬ (127 : Int32) < p3) :
    MetFree l (⟨"com/example/tagwire/tagwire/sim/Tag", "<init>", "([BII)V"⟩ : MethodName) (head1 (Jvm.Cond.code (⟨"com/example/tagwire/tagwire/sim/Tag", "<init>", "([BII)V"⟩ : MethodName) prog_55_method_1_code 4 none :: ws) ({ frames := 1, cells := 6, slots := 26, locals := 15 } : Room)) (fun a U => a = #[(.ref th), (.ref ep), (.int p2), (.int p3)] ∧ Z.Warmed39 U.vm ∧ U.heap = h0) (fun _ _ _ _ _ => True) (fun _ U o U' => ∃ v L, o = .returned v ∧ Q1 Z th ep p2 p3 ke v0 v1 h0 n0 v U'.heap L ∧ ReturnedEndW U o U' L ({ frames := 1, cells := 6, slots := 26, locals := 15 } : Room).cells ({ frames := 1, cells := 6, slots := 26, locals := 15 } : Room).slots) := by
  refine MetFree.of_bodySF (plainFor_of_name own_pn2) hisR ?_
  intro p e s m args below meth c s₁ Bd hml0 hP hK
  obtain ⟨rfl, hZ, hh⟩ := hP
  have wS : ∀ a ∈ Bundle.stringAtoms, a.before a0 Z = true := own_wS hw
  have hx := Bd.exec
  have hby := Bd.bytes
  have hml : c.maxLocals = 4 := hml0
  have hown : s.vm.findClass "com/example/tagwire/tagwire/sim/Tag" = some m.cls := findClass_of_methodNamed Bd.named
  have hnm := (name_of_methodNamed Bd.named Bd.method).1
  have hlk : meth.locks = false := BodyLoose.notSynchronized Bd
  have X0 : Stand p l e ({ frames := 1, cells := 6, slots := 26, locals := 15 } : Room) (s.setVm s.vm) m #[(.ref th), (.ref ep), (.int p2), (.int p3)] below meth c s₁ [] 0 0 := Stand.of_body Bd
  have e0 : s₁.heap = h0 := by rw [← hh, Bd.state]; rfl
  have N0 := Fr.nil n0
  show own_Gl ReturnedEndW p e below s (Q1 Z th ep p2 p3 ke v0 v1 h0 n0) ({ frames := 1, cells := 6, slots := 26, locals := 15 } : Room).cells ({ frames := 1, cells := 6, slots := 26, locals := 15 } : Room).slots (s₁.setTop (entryFrame m #[(.ref th), (.ref ep), (.int p2), (.int p3)] 4))
  rw [own_ef_rm1 m th ep p2 p3]
  have hS0 : s.Since s.vm 0 := State.WarmedH.since (State.WarmedH.refl s) 0
  have hk0 : 0 ≤ h0.size := Nat.zero_le _
  refine own_st (A' := s₁.setTop (mkF m 1 #[.val (.ref th), .val (.ref ep), .val (.int p2), .val (.int p3)] [(.ref th)])) (fun tg kt => ?_) ?_
  · show Steps p.tables e below (s₁.setTop (mkF m 0 #[.val (.ref th), .val (.ref ep), .val (.int p2), .val (.int p3)] [])) _
    refine XS.aloadN X0.here hx rfl (hb hby own_d1_0) rfl rfl ?_
    exact kt
  obtain ⟨T1, X1, e1, st1⟩ := initO X0 hx hZ hown (hw _ (List.mem_of_getElem? (i := 8) rfl)) (hw _ (List.mem_of_getElem? (i := 9) rfl)) (hw _ (List.mem_of_getElem? (i := 10) rfl)) e0 (g := (mkF m 1 #[.val (.ref th), .val (.ref ep), .val (.int p2), .val (.int p3)] [(.ref th)])) rfl (by rw [hml]; rfl) rfl (hb hby own_d1_1) (by decide) (W := 0) (by show 2 * 0 + _ ≤ _; exact Nat.le_of_eq rfl) (by decide)
  refine own_st st1 ?_
  show own_Gl _ _ _ _ _ _ _ _ (T1.setTop (mkF m 4 #[.val (.ref th), .val (.ref ep), .val (.int p2), .val (.int p3)] []))
  refine own_st (A' := T1.setTop (mkF m 5 #[.val (.ref th), .val (.ref ep), .val (.int p2), .val (.int p3)] [(.ref ep)])) (fun tg kt => ?_) ?_
  · show Steps p.tables e below (T1.setTop (mkF m 4 #[.val (.ref th), .val (.ref ep), .val (.int p2), .val (.int p3)] [])) _
    refine XS.aloadN X1.here hx rfl (hb hby own_d1_4) rfl rfl ?_
    exact kt
  obtain ⟨b2, T2, h2, k2, X2, e2, E2, hS2, hk2, hZ2, hown2, st2⟩ := ldcS X1 hx hZ hown (hw _ (List.mem_of_getElem? (i := 11) rfl)) wS e1 hS0 hk0 (g := (mkF m 5 #[.val (.ref th), .val (.ref ep), .val (.int p2), .val (.int p3)] [(.ref ep)])) rfl (hb hby own_d1_5) (n := 12) (by decide +kernel) (by decide) (by decide) (by decide)
  have K2 := ((Keep.refl h0 ([th] : List Addr))).ext E2
  have Z2 : n0 ≤ h2.size := Nat.le_trans Z0 E2.1
  refine own_st st2 ?_
  show own_Gl _ _ _ _ _ _ _ _ (T2.setTop (mkF m 7 #[.val (.ref th), .val (.ref ep), .val (.int p2), .val (.int p3)] [(.ref b2), (.ref ep)]))
  obtain ⟨_, _, ⟨T3, L3, k3, n3⟩, -, X3, ⟨Lc3, hQ3, l3, y3, z3⟩, st3⟩ := Jvm.LawKit.callS X2 hx (y := (⟨"java/util/Objects", "requireNonNull", "(Ljava/lang/Object;Ljava/lang/String;)Ljava/lang/Object;"⟩ : MethodName)) hown2 (mvT hZ2 (hw _ (List.mem_of_getElem? (i := 18) rfl))) (mvT hZ2 (hw _ (List.mem_of_getElem? (i := 19) rfl))) (mvT hZ2 (hw _ (List.mem_of_getElem? (i := 20) rfl))) (mvT hZ2 (hw _ (List.mem_of_getElem? (i := 21) rfl))) (by decide) (backOf (W := 0) (rm3 l Z a0 hw [] ep b2 h2 n0 Z2) hZ2 (hw _ (List.mem_of_getElem? (i := 21) rfl)) (hw _ (List.mem_of_getElem? (i := 20) rfl)) (by decide) (by decide)) (g := (mkF m 7 #[.val (.ref th), .val (.ref ep), .val (.int p2), .val (.int p3)] [(.ref b2), (.ref ep)])) rfl (by rw [hml]; rfl) (argsL := [(.ref ep), (.ref b2)]) (rest := []) (lenOf own_pd3 rfl) rfl (by show 2 * 0 + _ ≤ _; exact Nat.le_of_eq rfl) (hb hby own_d1_7) (fun _ _ => ⟨rfl, e2, (by decide : 2 + 0 ≤ _), (by decide : 16 + 0 ≤ _)⟩)
  dsimp only [Pt.U, Pt.locs, Pt.cells, Pt.slots] at X3 l3 y3 z3 st3 hQ3
  subst l3 y3 z3
  obtain ⟨rfl, Nq3, eq3⟩ := hQ3
  have N3 := Fr.app N0 Nq3
  refine own_st st3 ?_
  show own_Gl _ _ _ _ _ _ _ _ (T3.setTop (mkF m 10 #[.val (.ref th), .val (.ref ep), .val (.int p2), .val (.int p3)] [(.ref ep)]))
  refine own_st (A' := T3.setTop (mkF m 12 #[.val (.ref th), .val (.ref ep), .val (.int p2), .val (.int p3)] [(.ref ep)])) (fun tg kt => ?_) ?_
  · show Steps p.tables e below (T3.setTop (mkF m 10 #[.val (.ref th), .val (.ref ep), .val (.int p2), .val (.int p3)] [(.ref ep)])) _
    refine XS.pop X3.here hx rfl (hb hby own_d1_10) rfl rfl ?_
    show Steps p.tables e below (T3.setTop (mkF m 11 #[.val (.ref th), .val (.ref ep), .val (.int p2), .val (.int p3)] [])) _
    refine XS.aloadN X3.here hx rfl (hb hby own_d1_11) rfl rfl ?_
    exact kt
  have Vt4 := (Vep.ext E2)
  obtain ⟨cl4, Ar4, -, Sz4, Nn4, -, -⟩ := Vt4
  refine own_st (A' := T3.setTop (mkF m 17 #[.val (.ref th), .val (.ref ep), .val (.int p2), .val (.int p3)] [(.ref ep)])) (fun tg kt => ?_) ?_
  · show Steps p.tables e below (T3.setTop (mkF m 12 #[.val (.ref th), .val (.ref ep), .val (.int p2), .val (.int p3)] [(.ref ep)])) _
    refine X3.arraylength hx (own_at_heap eq3 Ar4.1) (State.isArrayOf_alike hZ2.alike Ar4.2.1) (g := (mkF m 12 #[.val (.ref th), .val (.ref ep), .val (.int p2), .val (.int p3)] [(.ref ep)])) rfl rfl (hb hby own_d1_12) _ ?_
    rw [len_of Sz4 Nn4]
    show Steps p.tables e below (T3.setTop (mkF m 13 #[.val (.ref th), .val (.ref ep), .val (.int p2), .val (.int p3)] [(.int (2 : Int32))])) _
    refine XS.ifNo X3.here hx rfl (hb hby own_d1_13) rfl ((if0 _ _).trans (feq ((by decide) : ¬ ((2 : Int32) = (0 : Int32)))).1) ?_
    show Steps p.tables e below (T3.setTop (mkF m 16 #[.val (.ref th), .val (.ref ep), .val (.int p2), .val (.int p3)] [])) _
    refine XS.aloadN X3.here hx rfl (hb hby own_d1_16) rfl rfl ?_
    exact kt
  have Vt5 := (Vep.ext E2)
  obtain ⟨cl5, Ar5, -, Sz5, Nn5, -, -⟩ := Vt5
  refine own_st (A' := T3.setTop (mkF m 24 #[.val (.ref th), .val (.ref ep), .val (.int p2), .val (.int p3)] [(.ref ep)])) (fun tg kt => ?_) ?_
  · show Steps p.tables e below (T3.setTop (mkF m 17 #[.val (.ref th), .val (.ref ep), .val (.int p2), .val (.int p3)] [(.ref ep)])) _
    refine X3.arraylength hx (own_at_heap eq3 Ar5.1) (State.isArrayOf_alike hZ2.alike Ar5.2.1) (g := (mkF m 17 #[.val (.ref th), .val (.ref ep), .val (.int p2), .val (.int p3)] [(.ref ep)])) rfl rfl (hb hby own_d1_17) _ ?_
    rw [len_of Sz5 Nn5]
    show Steps p.tables e below (T3.setTop (mkF m 18 #[.val (.ref th), .val (.ref ep), .val (.int p2), .val (.int p3)] [(.int (2 : Int32))])) _
    refine XS.iconst X3.here hx rfl (hb hby own_d1_18) ?_
    show Steps p.tables e below (T3.setTop (mkF m 19 #[.val (.ref th), .val (.ref ep), .val (.int p2), .val (.int p3)] [(.int (2 : Int32)), (.int (2 : Int32))])) _
    refine iremM X3 hx rfl (hb hby own_d1_19) rfl (by decide) ?_
    show Steps p.tables e below (T3.setTop (mkF m 20 #[.val (.ref th), .val (.ref ep), .val (.int p2), .val (.int p3)] [(.int (0 : Int32))])) _
    refine XS.ifNo X3.here hx rfl (hb hby own_d1_20) rfl ((if0 _ _).trans (teq ((by decide) : (0 : Int32) = (0 : Int32))).2) ?_
    show Steps p.tables e below (T3.setTop (mkF m 23 #[.val (.ref th), .val (.ref ep), .val (.int p2), .val (.int p3)] [])) _
    refine XS.aloadN X3.here hx rfl (hb hby own_d1_23) rfl rfl ?_
    exact kt
  have Vt6 := (Vep.ext E2)
  obtain ⟨cl6, Ar6, -, Sz6, Nn6, -, -⟩ := Vt6
  refine own_st (A' := T3.setTop (mkF m 86 #[.val (.ref th), .val (.ref ep), .val (.int p2), .val (.int p3)] [(.ref ep), (.ref th)])) (fun tg kt => ?_) ?_
  · show Steps p.tables e below (T3.setTop (mkF m 24 #[.val (.ref th), .val (.ref ep), .val (.int p2), .val (.int p3)] [(.ref ep)])) _
    refine X3.arraylength hx (own_at_heap eq3 Ar6.1) (State.isArrayOf_alike hZ2.alike Ar6.2.1) (g := (mkF m 24 #[.val (.ref th), .val (.ref ep), .val (.int p2), .val (.int p3)] [(.ref ep)])) rfl rfl (hb hby own_d1_24) _ ?_
    rw [len_of Sz6 Nn6]
    show Steps p.tables e below (T3.setTop (mkF m 25 #[.val (.ref th), .val (.ref ep), .val (.int p2), .val (.int p3)] [(.int (2 : Int32))])) _
    refine XS.iconst X3.here hx rfl (hb hby own_d1_25) ?_
    show Steps p.tables e below (T3.setTop (mkF m 26 #[.val (.ref th), .val (.ref ep), .val (.int p2), .val (.int p3)] [(.int (2 : Int32)), (.int (2 : Int32))])) _
    refine XS.idiv X3.here hx rfl (hb hby own_d1_26) rfl (by decide) ?_
    show Steps p.tables e below (T3.setTop (mkF m 27 #[.val (.ref th), .val (.ref ep), .val (.int p2), .val (.int p3)] [(.int (1 : Int32))])) _
    refine XS.bipush X3.here hx rfl (hb hby own_d1_27) ?_
    show Steps p.tables e below (T3.setTop (mkF m 29 #[.val (.ref th), .val (.ref ep), .val (.int p2), .val (.int p3)] [(.int (31 : Int32)), (.int (1 : Int32))])) _
    refine XS.icmpYes X3.here hx rfl (pc0 := 29) (pc' := 42) rfl (hb hby own_d1_29) rfl (flt ((by decide) : ¬ ((31 : Int32) < (1 : Int32)))).2.2.2 (by decide) (by decide) ?_
    show Steps p.tables e below (T3.setTop (mkF m 42 #[.val (.ref th), .val (.ref ep), .val (.int p2), .val (.int p3)] [])) _
    refine XS.iloadN X3.here hx rfl (hb hby own_d1_42) rfl ?_
    show Steps p.tables e below (T3.setTop (mkF m 43 #[.val (.ref th), .val (.ref ep), .val (.int p2), .val (.int p3)] [(.int p2)])) _
    refine XS.ifNo X3.here hx rfl (hb hby own_d1_43) rfl ((if0 _ _).trans (flt (hp1 : ¬ (p2 < (0 : Int32)))).1) ?_
    show Steps p.tables e below (T3.setTop (mkF m 46 #[.val (.ref th), .val (.ref ep), .val (.int p2), .val (.int p3)] [])) _
    refine XS.iloadN X3.here hx rfl (hb hby own_d1_46) rfl ?_
    show Steps p.tables e below (T3.setTop (mkF m 47 #[.val (.ref th), .val (.ref ep), .val (.int p2), .val (.int p3)] [(.int p2)])) _
    refine X3.ldcInt hx hown2 (mvT hZ2 (hw _ (List.mem_of_getElem? (i := 22) rfl))) (g := (mkF m 47 #[.val (.ref th), .val (.ref ep), .val (.int p2), .val (.int p3)] [(.int p2)])) rfl (hb hby own_d1_47) _ ?_
    show Steps p.tables e below (T3.setTop (mkF m 49 #[.val (.ref th), .val (.ref ep), .val (.int p2), .val (.int p3)] [(.int (65535 : Int32)), (.int p2)])) _
    refine XS.icmpYes X3.here hx rfl (pc0 := 49) (pc' := 62) rfl (hb hby own_d1_49) rfl (flt (hp2 : ¬ ((65535 : Int32) < p2))).2.2.2 (by decide) (by decide) ?_
    show Steps p.tables e below (T3.setTop (mkF m 62 #[.val (.ref th), .val (.ref ep), .val (.int p2), .val (.int p3)] [])) _
    refine XS.iloadN X3.here hx rfl (hb hby own_d1_62) rfl ?_
    show Steps p.tables e below (T3.setTop (mkF m 63 #[.val (.ref th), .val (.ref ep), .val (.int p2), .val (.int p3)] [(.int p3)])) _
    refine XS.bipush X3.here hx rfl (hb hby own_d1_63) ?_
    show Steps p.tables e below (T3.setTop (mkF m 65 #[.val (.ref th), .val (.ref ep), .val (.int p2), .val (.int p3)] [(.int (-128 : Int32)), (.int p3)])) _
    refine XS.icmpNo X3.here hx rfl (hb hby own_d1_65) rfl (flt (hr1 : ¬ (p3 < (-128 : Int32)))).1 ?_
    show Steps p.tables e below (T3.setTop (mkF m 68 #[.val (.ref th), .val (.ref ep), .val (.int p2), .val (.int p3)] [])) _
    refine XS.iloadN X3.here hx rfl (hb hby own_d1_68) rfl ?_
    show Steps p.tables e below (T3.setTop (mkF m 69 #[.val (.ref th), .val (.ref ep), .val (.int p2), .val (.int p3)] [(.int p3)])) _
    refine XS.bipush X3.here hx rfl (hb hby own_d1_69) ?_
    show Steps p.tables e below (T3.setTop (mkF m 71 #[.val (.ref th), .val (.ref ep), .val (.int p2), .val (.int p3)] [(.int (127 : Int32)), (.int p3)])) _
    refine XS.icmpYes X3.here hx rfl (pc0 := 71) (pc' := 84) rfl (hb hby own_d1_71) rfl (flt (hr2 : ¬ ((127 : Int32) < p3))).2.2.2 (by decide) (by decide) ?_
    show Steps p.tables e below (T3.setTop (mkF m 84 #[.val (.ref th), .val (.ref ep), .val (.int p2), .val (.int p3)] [])) _
    refine XS.aloadN X3.here hx rfl (hb hby own_d1_84) rfl rfl ?_
    show Steps p.tables e below (T3.setTop (mkF m 85 #[.val (.ref th), .val (.ref ep), .val (.int p2), .val (.int p3)] [(.ref th)])) _
    refine XS.aloadN X3.here hx rfl (hb hby own_d1_85) rfl rfl ?_
    exact kt
  obtain ⟨T7, h7, X7, e7, E7, A7, B7, st7⟩ := cloneH X3 hx hZ2 hown2 (hw _ (List.mem_of_getElem? (i := 23) rfl)) (hw _ (List.mem_of_getElem? (i := 24) rfl)) (hw _ (List.mem_of_getElem? (i := 28) rfl)) (hw _ (List.mem_of_getElem? (i := 26) rfl)) (hw _ (List.mem_of_getElem? (i := 27) rfl)) (hw _ (List.mem_of_getElem? (i := 29) rfl)) eq3 (Arv.arh (Vep.ext E2)) (Eep.ext E2) (g := (mkF m 86 #[.val (.ref th), .val (.ref ep), .val (.int p2), .val (.int p3)] [(.ref ep), (.ref th)])) rfl (by rw [hml]; rfl) rfl (hb hby own_d1_86) (by decide) (W := 1) (by show 2 * 0 + _ ≤ _; exact Nat.le_of_eq rfl) (by decide) (cap := 2) (by decide) (by decide) (by decide)
  obtain ⟨b7, g7⟩ : ∃ z, z = h2.size := ⟨_, rfl⟩
  rw [← g7] at A7 B7 st7
  have g_b7 : n0 ≤ b7 := Nat.le_trans Z2 (Nat.le_of_eq g7.symm)
  have kw_b7 : h0.size ≤ b7 := Nat.le_trans (K2).1 (Nat.le_of_eq g7.symm)
  have ne_th_b7 : th ≠ b7 := Nat.ne_of_lt (Nat.lt_of_lt_of_le (Eth.ext E2).lt (Nat.le_of_eq g7.symm))
  have ne_ep_b7 : ep ≠ b7 := Nat.ne_of_lt (Nat.lt_of_lt_of_le (Vep.ext E2).lt (Nat.le_of_eq g7.symm))
  have K7 := (K2).ext E7
  have Z7 : n0 ≤ h7.size := Nat.le_trans Z2 E7.1
  have hk7 := Nat.le_trans hk2 E7.1
  have V_b7 : Arv Z h7 b7 ke .byte (2 : Int32) [v0, v1] (.int (0 : Int32)) := A7
  refine own_st st7 ?_
  show own_Gl _ _ _ _ _ _ _ _ (T7.setTop (mkF m 89 #[.val (.ref th), .val (.ref ep), .val (.int p2), .val (.int p3)] [(.ref b7), (.ref th)]))
  obtain ⟨T8, X8, e8, st8⟩ := castY X7 hx hZ2 hown2 (hw _ (List.mem_of_getElem? (i := 30) rfl)) e7 (Ins.self B7) (g := (mkF m 89 #[.val (.ref th), .val (.ref ep), .val (.int p2), .val (.int p3)] [(.ref b7), (.ref th)])) rfl rfl (hb hby own_d1_89)
  refine own_st st8 ?_
  show own_Gl _ _ _ _ _ _ _ _ (T8.setTop (mkF m 92 #[.val (.ref th), .val (.ref ep), .val (.int p2), .val (.int p3)] [(.ref b7), (.ref th)]))
  obtain ⟨T9, h9, X9, e9, W9, st9⟩ := putF X8 hx hZ2 hown2 (host := "") (Or.inl (hw _ (List.mem_of_getElem? (i := 32) rfl))) Via.refl e8 ((F_epc.ext E2).ext E7) ((Eth.ext E2).ext E7) (Or.inr ⟨(hw _ (List.mem_of_getElem? (i := 33) rfl)), rfl, hnm⟩) (hw _ (List.mem_of_getElem? (i := 2) rfl)) (ty := (.array .byte)) (by decide) rfl rfl (g := (mkF m 92 #[.val (.ref th), .val (.ref ep), .val (.int p2), .val (.int p3)] [(.ref b7), (.ref th)])) rfl rfl (hb hby own_d1_92)
  have N9 := Fr.snoc X9 N3 gth
  have K9 := (K7).wr W9 (Or.inl (List.mem_of_getElem? (i := 0) rfl))
  have Z9 : n0 ≤ h9.size := Nat.le_trans Z7 (Keep.of_wr W9).1
  have hk9 := Nat.le_trans hk7 (Keep.of_wr W9).1
  have Fa10 := (((F_pc.ext E2).ext E7).other W9 (Or.inr (slot_ne (Or.inr (hw _ (List.mem_of_getElem? (i := 35) rfl))) (Or.inr (hw _ (List.mem_of_getElem? (i := 33) rfl))) (by decide) (t := .int) (t' := (.array .byte)) (by decide) (by decide))))
  have Fa11 := (((F_rssi.ext E2).ext E7).other W9 (Or.inr (slot_ne (Or.inr (hw _ (List.mem_of_getElem? (i := 37) rfl))) (Or.inr (hw _ (List.mem_of_getElem? (i := 33) rfl))) (by decide) (t := .int) (t' := (.array .byte)) (by decide) (by decide))))
  have Fa12 := (((F_reserved.ext E2).ext E7).other W9 (Or.inr (slot_ne (Or.inr (hw _ (List.mem_of_getElem? (i := 39) rfl))) (Or.inr (hw _ (List.mem_of_getElem? (i := 33) rfl))) (by decide) (t := (.array .byte)) (t' := (.array .byte)) (by decide) (by decide))))
  have Fa13 := (((F_tid.ext E2).ext E7).other W9 (Or.inr (slot_ne (Or.inr (hw _ (List.mem_of_getElem? (i := 41) rfl))) (Or.inr (hw _ (List.mem_of_getElem? (i := 33) rfl))) (by decide) (t := (.array .byte)) (t' := (.array .byte)) (by decide) (by decide))))
  have Fa14 := (((F_user.ext E2).ext E7).other W9 (Or.inr (slot_ne (Or.inr (hw _ (List.mem_of_getElem? (i := 43) rfl))) (Or.inr (hw _ (List.mem_of_getElem? (i := 33) rfl))) (by decide) (t := (.array .byte)) (t' := (.array .byte)) (by decide) (by decide))))
  refine own_st st9 ?_
  show own_Gl _ _ _ _ _ _ _ _ (T9.setTop (mkF m 95 #[.val (.ref th), .val (.ref ep), .val (.int p2), .val (.int p3)] []))
  refine own_st (A' := T9.setTop (mkF m 97 #[.val (.ref th), .val (.ref ep), .val (.int p2), .val (.int p3)] [(.int p2), (.ref th)])) (fun tg kt => ?_) ?_
  · show Steps p.tables e below (T9.setTop (mkF m 95 #[.val (.ref th), .val (.ref ep), .val (.int p2), .val (.int p3)] [])) _
    refine XS.aloadN X9.here hx rfl (hb hby own_d1_95) rfl rfl ?_
    show Steps p.tables e below (T9.setTop (mkF m 96 #[.val (.ref th), .val (.ref ep), .val (.int p2), .val (.int p3)] [(.ref th)])) _
    refine XS.iloadN X9.here hx rfl (hb hby own_d1_96) rfl ?_
    exact kt
  obtain ⟨T15, h15, X15, e15, W15, st15⟩ := putF X9 hx hZ2 hown2 (host := "") (Or.inl (hw _ (List.mem_of_getElem? (i := 34) rfl))) Via.refl e9 Fa10 (((Eth.ext E2).ext E7).wr W9) (Or.inr ⟨(hw _ (List.mem_of_getElem? (i := 35) rfl)), rfl, hnm⟩) (hw _ (List.mem_of_getElem? (i := 2) rfl)) (ty := .int) (by decide) rfl rfl (g := (mkF m 97 #[.val (.ref th), .val (.ref ep), .val (.int p2), .val (.int p3)] [(.int p2), (.ref th)])) rfl rfl (hb hby own_d1_97)
  have N15 := Fr.snoc X15 N9 gth
  have K15 := (K9).wr W15 (Or.inl (List.mem_of_getElem? (i := 0) rfl))
  have Z15 : n0 ≤ h15.size := Nat.le_trans Z9 (Keep.of_wr W15).1
  have hk15 := Nat.le_trans hk9 (Keep.of_wr W15).1
  have Fa16 := (Fa11.other W15 (Or.inr (slot_ne (Or.inr (hw _ (List.mem_of_getElem? (i := 37) rfl))) (Or.inr (hw _ (List.mem_of_getElem? (i := 35) rfl))) (by decide) (t := .int) (t' := .int) (by decide) (by decide))))
  have Fa17 := (Fa12.other W15 (Or.inr (slot_ne (Or.inr (hw _ (List.mem_of_getElem? (i := 39) rfl))) (Or.inr (hw _ (List.mem_of_getElem? (i := 35) rfl))) (by decide) (t := (.array .byte)) (t' := .int) (by decide) (by decide))))
  have Fa18 := (Fa13.other W15 (Or.inr (slot_ne (Or.inr (hw _ (List.mem_of_getElem? (i := 41) rfl))) (Or.inr (hw _ (List.mem_of_getElem? (i := 35) rfl))) (by decide) (t := (.array .byte)) (t' := .int) (by decide) (by decide))))
  have Fa19 := (Fa14.other W15 (Or.inr (slot_ne (Or.inr (hw _ (List.mem_of_getElem? (i := 43) rfl))) (Or.inr (hw _ (List.mem_of_getElem? (i := 35) rfl))) (by decide) (t := (.array .byte)) (t' := .int) (by decide) (by decide))))
  have Fa20 := ((((Vep.ext E2).ext E7).other W9 (Ne.symm neth)).other W15 (Ne.symm neth))
  have Fa21 := ((V_b7.other W9 (Ne.symm ne_th_b7)).other W15 (Ne.symm ne_th_b7))
  have Fa22 := ((((F_epc.ext E2).ext E7).same W9).other W15 (Or.inr (slot_ne (Or.inr (hw _ (List.mem_of_getElem? (i := 33) rfl))) (Or.inr (hw _ (List.mem_of_getElem? (i := 35) rfl))) (by decide) (t := (.array .byte)) (t' := .int) (by decide) (by decide))))
  refine own_st st15 ?_
  show own_Gl _ _ _ _ _ _ _ _ (T15.setTop (mkF m 100 #[.val (.ref th), .val (.ref ep), .val (.int p2), .val (.int p3)] []))
  refine own_st (A' := T15.setTop (mkF m 102 #[.val (.ref th), .val (.ref ep), .val (.int p2), .val (.int p3)] [(.int p3), (.ref th)])) (fun tg kt => ?_) ?_
  · show Steps p.tables e below (T15.setTop (mkF m 100 #[.val (.ref th), .val (.ref ep), .val (.int p2), .val (.int p3)] [])) _
    refine XS.aloadN X15.here hx rfl (hb hby own_d1_100) rfl rfl ?_
    show Steps p.tables e below (T15.setTop (mkF m 101 #[.val (.ref th), .val (.ref ep), .val (.int p2), .val (.int p3)] [(.ref th)])) _
    refine XS.iloadN X15.here hx rfl (hb hby own_d1_101) rfl ?_
    exact kt
  obtain ⟨T23, h23, X23, e23, W23, st23⟩ := putF X15 hx hZ2 hown2 (host := "") (Or.inl (hw _ (List.mem_of_getElem? (i := 36) rfl))) Via.refl e15 Fa16 ((((Eth.ext E2).ext E7).wr W9).wr W15) (Or.inr ⟨(hw _ (List.mem_of_getElem? (i := 37) rfl)), rfl, hnm⟩) (hw _ (List.mem_of_getElem? (i := 2) rfl)) (ty := .int) (by decide) rfl rfl (g := (mkF m 102 #[.val (.ref th), .val (.ref ep), .val (.int p2), .val (.int p3)] [(.int p3), (.ref th)])) rfl rfl (hb hby own_d1_102)
  have N23 := Fr.snoc X23 N15 gth
  have K23 := (K15).wr W23 (Or.inl (List.mem_of_getElem? (i := 0) rfl))
  have Z23 : n0 ≤ h23.size := Nat.le_trans Z15 (Keep.of_wr W23).1
  have hk23 := Nat.le_trans hk15 (Keep.of_wr W23).1
  have Fa24 := (Fa17.other W23 (Or.inr (slot_ne (Or.inr (hw _ (List.mem_of_getElem? (i := 39) rfl))) (Or.inr (hw _ (List.mem_of_getElem? (i := 37) rfl))) (by decide) (t := (.array .byte)) (t' := .int) (by decide) (by decide))))
  have Fa25 := (Fa18.other W23 (Or.inr (slot_ne (Or.inr (hw _ (List.mem_of_getElem? (i := 41) rfl))) (Or.inr (hw _ (List.mem_of_getElem? (i := 37) rfl))) (by decide) (t := (.array .byte)) (t' := .int) (by decide) (by decide))))
  have Fa26 := (Fa19.other W23 (Or.inr (slot_ne (Or.inr (hw _ (List.mem_of_getElem? (i := 43) rfl))) (Or.inr (hw _ (List.mem_of_getElem? (i := 37) rfl))) (by decide) (t := (.array .byte)) (t' := .int) (by decide) (by decide))))
  have Fa27 := (Fa22.other W23 (Or.inr (slot_ne (Or.inr (hw _ (List.mem_of_getElem? (i := 33) rfl))) (Or.inr (hw _ (List.mem_of_getElem? (i := 37) rfl))) (by decide) (t := (.array .byte)) (t' := .int) (by decide) (by decide))))
  have Fa28 := ((Fa10.same W15).other W23 (Or.inr (slot_ne (Or.inr (hw _ (List.mem_of_getElem? (i := 35) rfl))) (Or.inr (hw _ (List.mem_of_getElem? (i := 37) rfl))) (by decide) (t := .int) (t' := .int) (by decide) (by decide))))
  refine own_st st23 ?_
  show own_Gl _ _ _ _ _ _ _ _ (T23.setTop (mkF m 105 #[.val (.ref th), .val (.ref ep), .val (.int p2), .val (.int p3)] []))
  refine own_st (A' := T23.setTop (mkF m 108 #[.val (.ref th), .val (.ref ep), .val (.int p2), .val (.int p3)] [(.int (8 : Int32)), (.ref th)])) (fun tg kt => ?_) ?_
  · show Steps p.tables e below (T23.setTop (mkF m 105 #[.val (.ref th), .val (.ref ep), .val (.int p2), .val (.int p3)] [])) _
    refine XS.aloadN X23.here hx rfl (hb hby own_d1_105) rfl rfl ?_
    show Steps p.tables e below (T23.setTop (mkF m 106 #[.val (.ref th), .val (.ref ep), .val (.int p2), .val (.int p3)] [(.ref th)])) _
    refine XS.bipush X23.here hx rfl (hb hby own_d1_106) ?_
    exact kt
  obtain ⟨T29, h29, k29, X29, e29, E29, A29, st29⟩ := newP X23 hx hZ2 (hw _ (List.mem_of_getElem? (i := 0) rfl)) e23 (g := (mkF m 108 #[.val (.ref th), .val (.ref ep), .val (.int p2), .val (.int p3)] [(.int (8 : Int32)), (.ref th)])) rfl (hb hby own_d1_108) rfl (by decide) (cap := 8) (by decide) (by decide) (by decide) (by decide)
  obtain ⟨b29, g29⟩ : ∃ z, z = h23.size := ⟨_, rfl⟩
  rw [← g29] at A29 st29
  have g_b29 : n0 ≤ b29 := Nat.le_trans Z23 (Nat.le_of_eq g29.symm)
  have kw_b29 : h0.size ≤ b29 := Nat.le_trans (K23).1 (Nat.le_of_eq g29.symm)
  have ne_th_b29 : th ≠ b29 := Nat.ne_of_lt (Nat.lt_of_lt_of_le (((((Eth.ext E2).ext E7).wr W9).wr W15).wr W23).lt (Nat.le_of_eq g29.symm))
  have ne_ep_b29 : ep ≠ b29 := Nat.ne_of_lt (Nat.lt_of_lt_of_le (Fa20.other W23 (Ne.symm neth)).lt (Nat.le_of_eq g29.symm))
  have ne_b7_b29 : b7 ≠ b29 := Nat.ne_of_lt (Nat.lt_of_lt_of_le (Fa21.other W23 (Ne.symm ne_th_b7)).lt (Nat.le_of_eq g29.symm))
  have K29 := (K23).ext E29
  have Z29 : n0 ≤ h29.size := Nat.le_trans Z23 E29.1
  have hk29 := Nat.le_trans hk23 E29.1
  have V_b29 : Arv Z h29 b29 k29 .byte (8 : Int32) [(.int (0 : Int32)), (.int (0 : Int32)), (.int (0 : Int32)), (.int (0 : Int32)), (.int (0 : Int32)), (.int (0 : Int32)), (.int (0 : Int32)), (.int (0 : Int32))] (.int (0 : Int32)) := (Arv.new A29 (by decide)).pad (pad_rep [] (.int (0 : Int32)) 8)
  refine own_st st29 ?_
  show own_Gl _ _ _ _ _ _ _ _ (T29.setTop (mkF m 110 #[.val (.ref th), .val (.ref ep), .val (.int p2), .val (.int p3)] [(.ref b29), (.ref th)]))
  obtain ⟨T30, h30, X30, e30, W30, st30⟩ := putF X29 hx hZ2 hown2 (host := "") (Or.inl (hw _ (List.mem_of_getElem? (i := 38) rfl))) Via.refl e29 (Fa24.ext E29) ((((((Eth.ext E2).ext E7).wr W9).wr W15).wr W23).ext E29) (Or.inr ⟨(hw _ (List.mem_of_getElem? (i := 39) rfl)), rfl, hnm⟩) (hw _ (List.mem_of_getElem? (i := 2) rfl)) (ty := (.array .byte)) (by decide) rfl rfl (g := (mkF m 110 #[.val (.ref th), .val (.ref ep), .val (.int p2), .val (.int p3)] [(.ref b29), (.ref th)])) rfl rfl (hb hby own_d1_110)
  have N30 := Fr.snoc X30 N23 gth
  have K30 := (K29).wr W30 (Or.inl (List.mem_of_getElem? (i := 0) rfl))
  have Z30 : n0 ≤ h30.size := Nat.le_trans Z29 (Keep.of_wr W30).1
  have hk30 := Nat.le_trans hk29 (Keep.of_wr W30).1
  have Fa31 := (((((((Eth.ext E2).ext E7).wr W9).wr W15).wr W23).ext E29).wr W30)
  have Fa32 := ((Fa25.ext E29).other W30 (Or.inr (slot_ne (Or.inr (hw _ (List.mem_of_getElem? (i := 41) rfl))) (Or.inr (hw _ (List.mem_of_getElem? (i := 39) rfl))) (by decide) (t := (.array .byte)) (t' := (.array .byte)) (by decide) (by decide))))
  have Fa33 := ((Fa26.ext E29).other W30 (Or.inr (slot_ne (Or.inr (hw _ (List.mem_of_getElem? (i := 43) rfl))) (Or.inr (hw _ (List.mem_of_getElem? (i := 39) rfl))) (by decide) (t := (.array .byte)) (t' := (.array .byte)) (by decide) (by decide))))
  have Fa34 := (((Fa20.other W23 (Ne.symm neth)).ext E29).other W30 (Ne.symm neth))
  have Fa35 := (((((((Eep.ext E2).ext E7).wr W9).wr W15).wr W23).ext E29).wr W30)
  have Fa36 := (((Fa21.other W23 (Ne.symm ne_th_b7)).ext E29).other W30 (Ne.symm ne_th_b7))
  have Fa37 := ((Fa27.ext E29).other W30 (Or.inr (slot_ne (Or.inr (hw _ (List.mem_of_getElem? (i := 33) rfl))) (Or.inr (hw _ (List.mem_of_getElem? (i := 39) rfl))) (by decide) (t := (.array .byte)) (t' := (.array .byte)) (by decide) (by decide))))
  have Fa38 := ((Fa28.ext E29).other W30 (Or.inr (slot_ne (Or.inr (hw _ (List.mem_of_getElem? (i := 35) rfl))) (Or.inr (hw _ (List.mem_of_getElem? (i := 39) rfl))) (by decide) (t := .int) (t' := (.array .byte)) (by decide) (by decide))))
  have Fa39 := (((Fa16.same W23).ext E29).other W30 (Or.inr (slot_ne (Or.inr (hw _ (List.mem_of_getElem? (i := 37) rfl))) (Or.inr (hw _ (List.mem_of_getElem? (i := 39) rfl))) (by decide) (t := .int) (t' := (.array .byte)) (by decide) (by decide))))
  refine own_st st30 ?_
  show own_Gl _ _ _ _ _ _ _ _ (T30.setTop (mkF m 113 #[.val (.ref th), .val (.ref ep), .val (.int p2), .val (.int p3)] []))
  refine own_st (A' := T30.setTop (mkF m 115 #[.val (.ref th), .val (.ref ep), .val (.int p2), .val (.int p3)] [(.int (0 : Int32)), (.ref th)])) (fun tg kt => ?_) ?_
  · show Steps p.tables e below (T30.setTop (mkF m 113 #[.val (.ref th), .val (.ref ep), .val (.int p2), .val (.int p3)] [])) _
    refine XS.aloadN X30.here hx rfl (hb hby own_d1_113) rfl rfl ?_
    show Steps p.tables e below (T30.setTop (mkF m 114 #[.val (.ref th), .val (.ref ep), .val (.int p2), .val (.int p3)] [(.ref th)])) _
    refine XS.iconst X30.here hx rfl (hb hby own_d1_114) ?_
    exact kt
  obtain ⟨T40, h40, k40, X40, e40, E40, A40, st40⟩ := newP X30 hx hZ2 (hw _ (List.mem_of_getElem? (i := 0) rfl)) e30 (g := (mkF m 115 #[.val (.ref th), .val (.ref ep), .val (.int p2), .val (.int p3)] [(.int (0 : Int32)), (.ref th)])) rfl (hb hby own_d1_115) rfl (by decide) (cap := 0) (by decide) (by decide) (by decide) (by decide)
  obtain ⟨b40, g40⟩ : ∃ z, z = h30.size := ⟨_, rfl⟩
  rw [← g40] at A40 st40
  have g_b40 : n0 ≤ b40 := Nat.le_trans Z30 (Nat.le_of_eq g40.symm)
  have kw_b40 : h0.size ≤ b40 := Nat.le_trans (K30).1 (Nat.le_of_eq g40.symm)
  have ne_th_b40 : th ≠ b40 := Nat.ne_of_lt (Nat.lt_of_lt_of_le Fa31.lt (Nat.le_of_eq g40.symm))
  have ne_ep_b40 : ep ≠ b40 := Nat.ne_of_lt (Nat.lt_of_lt_of_le Fa34.lt (Nat.le_of_eq g40.symm))
  have ne_b7_b40 : b7 ≠ b40 := Nat.ne_of_lt (Nat.lt_of_lt_of_le Fa36.lt (Nat.le_of_eq g40.symm))
  have ne_b29_b40 : b29 ≠ b40 := Nat.ne_of_lt (Nat.lt_of_lt_of_le (V_b29.other W30 (Ne.symm ne_th_b29)).lt (Nat.le_of_eq g40.symm))
  have K40 := (K30).ext E40
  have Z40 : n0 ≤ h40.size := Nat.le_trans Z30 E40.1
  have hk40 := Nat.le_trans hk30 E40.1
  have V_b40 : Arv Z h40 b40 k40 .byte (0 : Int32) [] (.int (0 : Int32)) := Arv.new A40 (by decide)
  refine own_st st40 ?_
  show own_Gl _ _ _ _ _ _ _ _ (T40.setTop (mkF m 117 #[.val (.ref th), .val (.ref ep), .val (.int p2), .val (.int p3)] [(.ref b40), (.ref th)]))
  obtain ⟨T41, h41, X41, e41, W41, st41⟩ := putF X40 hx hZ2 hown2 (host := "") (Or.inl (hw _ (List.mem_of_getElem? (i := 40) rfl))) Via.refl e40 (Fa32.ext E40) (Fa31.ext E40) (Or.inr ⟨(hw _ (List.mem_of_getElem? (i := 41) rfl)), rfl, hnm⟩) (hw _ (List.mem_of_getElem? (i := 2) rfl)) (ty := (.array .byte)) (by decide) rfl rfl (g := (mkF m 117 #[.val (.ref th), .val (.ref ep), .val (.int p2), .val (.int p3)] [(.ref b40), (.ref th)])) rfl rfl (hb hby own_d1_117)
  have N41 := Fr.snoc X41 N30 gth
  have K41 := (K40).wr W41 (Or.inl (List.mem_of_getElem? (i := 0) rfl))
  have Z41 : n0 ≤ h41.size := Nat.le_trans Z40 (Keep.of_wr W41).1
  have hk41 := Nat.le_trans hk40 (Keep.of_wr W41).1
  have Fa42 := ((Fa33.ext E40).other W41 (Or.inr (slot_ne (Or.inr (hw _ (List.mem_of_getElem? (i := 43) rfl))) (Or.inr (hw _ (List.mem_of_getElem? (i := 41) rfl))) (by decide) (t := (.array .byte)) (t' := (.array .byte)) (by decide) (by decide))))
  have Fa43 := (((((((B7.wr W9).wr W15).wr W23).ext E29).wr W30).ext E40).wr W41)
  have Fa44 := ((Fa37.ext E40).other W41 (Or.inr (slot_ne (Or.inr (hw _ (List.mem_of_getElem? (i := 33) rfl))) (Or.inr (hw _ (List.mem_of_getElem? (i := 41) rfl))) (by decide) (t := (.array .byte)) (t' := (.array .byte)) (by decide) (by decide))))
  have Fa45 := ((Fa38.ext E40).other W41 (Or.inr (slot_ne (Or.inr (hw _ (List.mem_of_getElem? (i := 35) rfl))) (Or.inr (hw _ (List.mem_of_getElem? (i := 41) rfl))) (by decide) (t := .int) (t' := (.array .byte)) (by decide) (by decide))))
  have Fa46 := ((Fa39.ext E40).other W41 (Or.inr (slot_ne (Or.inr (hw _ (List.mem_of_getElem? (i := 37) rfl))) (Or.inr (hw _ (List.mem_of_getElem? (i := 41) rfl))) (by decide) (t := .int) (t' := (.array .byte)) (by decide) (by decide))))
  have Fa47 := (((V_b29.other W30 (Ne.symm ne_th_b29)).ext E40).other W41 (Ne.symm ne_th_b29))
  have Fa48 := ((((Fa24.ext E29).same W30).ext E40).other W41 (Or.inr (slot_ne (Or.inr (hw _ (List.mem_of_getElem? (i := 39) rfl))) (Or.inr (hw _ (List.mem_of_getElem? (i := 41) rfl))) (by decide) (t := (.array .byte)) (t' := (.array .byte)) (by decide) (by decide))))
  refine own_st st41 ?_
  show own_Gl _ _ _ _ _ _ _ _ (T41.setTop (mkF m 120 #[.val (.ref th), .val (.ref ep), .val (.int p2), .val (.int p3)] []))
  refine own_st (A' := T41.setTop (mkF m 122 #[.val (.ref th), .val (.ref ep), .val (.int p2), .val (.int p3)] [(.int (0 : Int32)), (.ref th)])) (fun tg kt => ?_) ?_
  · show Steps p.tables e below (T41.setTop (mkF m 120 #[.val (.ref th), .val (.ref ep), .val (.int p2), .val (.int p3)] [])) _
    refine XS.aloadN X41.here hx rfl (hb hby own_d1_120) rfl rfl ?_
    show Steps p.tables e below (T41.setTop (mkF m 121 #[.val (.ref th), .val (.ref ep), .val (.int p2), .val (.int p3)] [(.ref th)])) _
    refine XS.iconst X41.here hx rfl (hb hby own_d1_121) ?_
    exact kt
  obtain ⟨T49, h49, k49, X49, e49, E49, A49, st49⟩ := newP X41 hx hZ2 (hw _ (List.mem_of_getElem? (i := 0) rfl)) e41 (g := (mkF m 122 #[.val (.ref th), .val (.ref ep), .val (.int p2), .val (.int p3)] [(.int (0 : Int32)), (.ref th)])) rfl (hb hby own_d1_122) rfl (by decide) (cap := 0) (by decide) (by decide) (by decide) (by decide)
  obtain ⟨b49, g49⟩ : ∃ z, z = h41.size := ⟨_, rfl⟩
  rw [← g49] at A49 st49
  have g_b49 : n0 ≤ b49 := Nat.le_trans Z41 (Nat.le_of_eq g49.symm)
  have kw_b49 : h0.size ≤ b49 := Nat.le_trans (K41).1 (Nat.le_of_eq g49.symm)
  have ne_th_b49 : th ≠ b49 := Nat.ne_of_lt (Nat.lt_of_lt_of_le ((Fa31.ext E40).wr W41).lt (Nat.le_of_eq g49.symm))
  have ne_ep_b49 : ep ≠ b49 := Nat.ne_of_lt (Nat.lt_of_lt_of_le ((Fa34.ext E40).other W41 (Ne.symm neth)).lt (Nat.le_of_eq g49.symm))
  have ne_b7_b49 : b7 ≠ b49 := Nat.ne_of_lt (Nat.lt_of_lt_of_le ((Fa36.ext E40).other W41 (Ne.symm ne_th_b7)).lt (Nat.le_of_eq g49.symm))
  have ne_b29_b49 : b29 ≠ b49 := Nat.ne_of_lt (Nat.lt_of_lt_of_le Fa47.lt (Nat.le_of_eq g49.symm))
  have ne_b40_b49 : b40 ≠ b49 := Nat.ne_of_lt (Nat.lt_of_lt_of_le (V_b40.other W41 (Ne.symm ne_th_b40)).lt (Nat.le_of_eq g49.symm))
  have K49 := (K41).ext E49
  have Z49 : n0 ≤ h49.size := Nat.le_trans Z41 E49.1
  have hk49 := Nat.le_trans hk41 E49.1
  have V_b49 : Arv Z h49 b49 k49 .byte (0 : Int32) [] (.int (0 : Int32)) := Arv.new A49 (by decide)
  refine own_st st49 ?_
  show own_Gl _ _ _ _ _ _ _ _ (T49.setTop (mkF m 124 #[.val (.ref th), .val (.ref ep), .val (.int p2), .val (.int p3)] [(.ref b49), (.ref th)]))
  obtain ⟨T50, h50, X50, e50, W50, st50⟩ := putF X49 hx hZ2 hown2 (host := "") (Or.inl (hw _ (List.mem_of_getElem? (i := 42) rfl))) Via.refl e49 (Fa42.ext E49) (((Fa31.ext E40).wr W41).ext E49) (Or.inr ⟨(hw _ (List.mem_of_getElem? (i := 43) rfl)), rfl, hnm⟩) (hw _ (List.mem_of_getElem? (i := 2) rfl)) (ty := (.array .byte)) (by decide) rfl rfl (g := (mkF m 124 #[.val (.ref th), .val (.ref ep), .val (.int p2), .val (.int p3)] [(.ref b49), (.ref th)])) rfl rfl (hb hby own_d1_124)
  have N50 := Fr.snoc X50 N41 gth
  have K50 := (K49).wr W50 (Or.inl (List.mem_of_getElem? (i := 0) rfl))
  have Z50 : n0 ≤ h50.size := Nat.le_trans Z49 (Keep.of_wr W50).1
  have hk50 := Nat.le_trans hk49 (Keep.of_wr W50).1
  have Fa51 := ((((Fa34.ext E40).other W41 (Ne.symm neth)).ext E49).other W50 (Ne.symm neth))
  have Fa52 := ((((Fa36.ext E40).other W41 (Ne.symm ne_th_b7)).ext E49).other W50 (Ne.symm ne_th_b7))
  have Fa53 := ((Fa44.ext E49).other W50 (Or.inr (slot_ne (Or.inr (hw _ (List.mem_of_getElem? (i := 33) rfl))) (Or.inr (hw _ (List.mem_of_getElem? (i := 43) rfl))) (by decide) (t := (.array .byte)) (t' := (.array .byte)) (by decide) (by decide))))
  have Fa54 := ((Fa45.ext E49).other W50 (Or.inr (slot_ne (Or.inr (hw _ (List.mem_of_getElem? (i := 35) rfl))) (Or.inr (hw _ (List.mem_of_getElem? (i := 43) rfl))) (by decide) (t := .int) (t' := (.array .byte)) (by decide) (by decide))))
  have Fa55 := ((Fa46.ext E49).other W50 (Or.inr (slot_ne (Or.inr (hw _ (List.mem_of_getElem? (i := 37) rfl))) (Or.inr (hw _ (List.mem_of_getElem? (i := 43) rfl))) (by decide) (t := .int) (t' := (.array .byte)) (by decide) (by decide))))
  have Fa56 := ((Fa48.ext E49).other W50 (Or.inr (slot_ne (Or.inr (hw _ (List.mem_of_getElem? (i := 39) rfl))) (Or.inr (hw _ (List.mem_of_getElem? (i := 43) rfl))) (by decide) (t := (.array .byte)) (t' := (.array .byte)) (by decide) (by decide))))
  have Fa57 := (((V_b40.other W41 (Ne.symm ne_th_b40)).ext E49).other W50 (Ne.symm ne_th_b40))
  have Fa58 := ((((Fa32.ext E40).same W41).ext E49).other W50 (Or.inr (slot_ne (Or.inr (hw _ (List.mem_of_getElem? (i := 41) rfl))) (Or.inr (hw _ (List.mem_of_getElem? (i := 43) rfl))) (by decide) (t := (.array .byte)) (t' := (.array .byte)) (by decide) (by decide))))
  refine own_st st50 ?_
  show own_Gl _ _ _ _ _ _ _ _ (T50.setTop (mkF m 127 #[.val (.ref th), .val (.ref ep), .val (.int p2), .val (.int p3)] []))
  refine own_retW X50 hS2 (by rw [e50]; exact hk50) (v := none) (fun _ => rfl) hlk (by decide) (by decide) ?_ (fun fs hr => ?_)
  · show Q1 Z th ep p2 p3 ke v0 v1 h0 n0 (none) T50.heap _
    rw [e50]
    exact ⟨rfl, N50, b7, b29, b40, b49, k29, K50, ((((Fa31.ext E40).wr W41).ext E49).wr W50), Fa53, Fa54, Fa55, Fa56, Fa58, ((Fa42.ext E49).same W50), ((Fa47.ext E49).other W50 (Ne.symm ne_th_b29)), kw_b29⟩
  · show Steps p.tables e below (T50.setTop (mkF m 127 #[.val (.ref th), .val (.ref ep), .val (.int p2), .val (.int p3)] [])) _
    exact X50.returnOut hx Bd.returns (hb hby own_d1_127) hr
theorem own_d4_0 : decode prog_55_method_9_code 0 = .ok (.iconst 0, 1) := by decide +kernel
theorem own_d4_1 : decode prog_55_method_9_code 1 = .ok (.istore_n 1, 1) := by decide +kernel
theorem own_d4_2 : decode prog_55_method_9_code 2 = .ok (.iconst 4, 1) := by decide +kernel
theorem own_d4_3 : decode prog_55_method_9_code 3 = .ok (.istore_n 2, 1) := by decide +kernel
theorem own_d4_4 : decode prog_55_method_9_code 4 = .ok (.iload_n 2, 1) := by decide +kernel
theorem own_d4_5 : decode prog_55_method_9_code 5 = .ok (.bipush 8, 2) := by decide +kernel
theorem own_d4_7 : decode prog_55_method_9_code 7 = .ok (.if_icmp .ge 25, 3) := by decide +kernel
theorem own_d4_10 : decode prog_55_method_9_code 10 = .ok (.iload_n 1, 1) := by decide +kernel
theorem own_d4_11 : decode prog_55_method_9_code 11 = .ok (.bipush 8, 2) := by decide +kernel
theorem own_d4_13 : decode prog_55_method_9_code 13 = .ok (.ishl, 1) := by decide +kernel
theorem own_d4_14 : decode prog_55_method_9_code 14 = .ok (.aload_n 0, 1) := by decide +kernel
theorem own_d4_15 : decode prog_55_method_9_code 15 = .ok (.getfield 46, 3) := by decide +kernel
theorem own_d4_18 : decode prog_55_method_9_code 18 = .ok (.iload_n 2, 1) := by decide +kernel
theorem own_d4_19 : decode prog_55_method_9_code 19 = .ok (.baload, 1) := by decide +kernel
theorem own_d4_20 : decode prog_55_method_9_code 20 = .ok (.sipush 255, 3) := by decide +kernel
theorem own_d4_23 : decode prog_55_method_9_code 23 = .ok (.iand, 1) := by decide +kernel
theorem own_d4_24 : decode prog_55_method_9_code 24 = .ok (.ior, 1) := by decide +kernel
theorem own_d4_25 : decode prog_55_method_9_code 25 = .ok (.istore_n 1, 1) := by decide +kernel
theorem own_d4_26 : decode prog_55_method_9_code 26 = .ok (.iinc 2 1, 3) := by decide +kernel
theorem own_d4_29 : decode prog_55_method_9_code 29 = .ok (.goto (-25), 3) := by decide +kernel
theorem own_d4_32 : decode prog_55_method_9_code 32 = .ok (.iload_n 1, 1) := by decide +kernel
theorem own_d4_33 : decode prog_55_method_9_code 33 = .ok (.ireturn, 1) := by decide +kernel
theorem own_ef_rm4 (m : MethodId) (th : Addr) : entryFrame m #[(.ref th)] 3 = mkF m 0 #[.val (.ref th), .unset, .unset] [] := by first | (simp [entryFrame, mkF, argsToLocals, Value.category]; done) | rfl
def Q4 (Z : State) (th : Addr) (rs : Addr) (kr : ClassId) (c0 : Int32) (c1 : Int32) (c2 : Int32) (c3 : Int32) (c4 : Int32) (c5 : Int32) (c6 : Int32) (c7 : Int32) (h0 : Heap) (n0 : Nat) (v : Option Value) (h : Heap) (L : List Loc) : Prop := v = some (.int (own_pw c4 c5 c6 c7)) ∧ Fr n0 L ∧ h = h0
set_option maxRecDepth 65536 in
set_option maxHeartbeats 40000000 in
theorem rm4 (l : Launch) (Z : State) (a0 : Array Value) (hw : ∀ d ∈ tables_1, d.before a0 Z = true) (ws : List Jvm.Cond) (th : Addr) (rs : Addr) (kr : ClassId) (c0 : Int32) (c1 : Int32) (c2 : Int32) (c3 : Int32) (c4 : Int32) (c5 : Int32) (c6 : Int32) (c7 : Int32) (h0 : Heap) (n0 : Nat) (Z0 : n0 ≤ h0.size) (Fr_ : Fld Z h0 th "com/example/tagwire/tagwire/sim/Tag" "reserved" "[B" (.ref rs)) (Vrs : Arv Z h0 rs kr .byte (8 : Int32) [(.int c0), (.int c1), (.int c2), (.int c3), (.int c4), (.int c5), (.int c6), (.int c7)] (.int (0 : Int32))) :
    MetFree l (⟨"com/example/tagwire/tagwire/sim/Tag", "accessPassword", "()I"⟩ : MethodName) (head1 (Jvm.Cond.code (⟨"com/example/tagwire/tagwire/sim/Tag", "accessPassword", "()I"⟩ : MethodName) prog_55_method_9_code 3 (some .int) :: ws) ({ frames := 0, cells := 0, slots := 0, locals := 0 } : Room)) (fun a U => a = #[(.ref th)] ∧ Z.Warmed39 U.vm ∧ U.heap = h0) (fun _ _ _ _ _ => True) (fun _ U o U' => ∃ v L, o = .returned v ∧ Q4 Z th rs kr c0 c1 c2 c3 c4 c5 c6 c7 h0 n0 v U'.heap L ∧ FrameEnd U o U' L ({ frames := 0, cells := 0, slots := 0, locals := 0 } : Room).cells ({ frames := 0, cells := 0, slots := 0, locals := 0 } : Room).slots) := by
  refine MetFree.of_bodySF (plainFor_of_name own_pn2) hisR ?_
  intro p e s m args below meth c s₁ Bd hml0 hP hK
  obtain ⟨rfl, hZ, hh⟩ := hP
  have hx := Bd.exec
  have hby := Bd.bytes
  have hml : c.maxLocals = 3 := hml0
  have hown : s.vm.findClass "com/example/tagwire/tagwire/sim/Tag" = some m.cls := findClass_of_methodNamed Bd.named
  have hnm := (name_of_methodNamed Bd.named Bd.method).1
  have hlk : meth.locks = false := BodyLoose.notSynchronized Bd
  have X0 : Stand p l e ({ frames := 0, cells := 0, slots := 0, locals := 0 } : Room) s m #[(.ref th)] below meth c s₁ [] 0 0 := Stand.of_body Bd
  have e0 : s₁.heap = h0 := by rw [← hh, Bd.state]; rfl
  have N0 := Fr.nil n0
  show own_Gl FrameEnd p e below s (Q4 Z th rs kr c0 c1 c2 c3 c4 c5 c6 c7 h0 n0) ({ frames := 0, cells := 0, slots := 0, locals := 0 } : Room).cells ({ frames := 0, cells := 0, slots := 0, locals := 0 } : Room).slots (s₁.setTop (entryFrame m #[(.ref th)] 3))
  rw [own_ef_rm4 m th]
  refine own_st (A' := s₁.setTop (mkF m 15 #[.val (.ref th), .val (.int (0 : Int32)), .val (.int (4 : Int32))] [(.ref th), (.int ((0 : Int32) <<< ((8 : Int32) &&& 31)))])) (fun tg kt => ?_) ?_
  · show Steps p.tables e below (s₁.setTop (mkF m 0 #[.val (.ref th), .unset, .unset] [])) _
    refine XS.iconst X0.here hx rfl (hb hby own_d4_0) ?_
    show Steps p.tables e below (s₁.setTop (mkF m 1 #[.val (.ref th), .unset, .unset] [(.int (0 : Int32))])) _
    refine XS.istoreN X0.here hx rfl (hb hby own_d4_1) rfl (l' := #[.val (.ref th), .val (.int (0 : Int32)), .unset]) rfl ?_
    show Steps p.tables e below (s₁.setTop (mkF m 2 #[.val (.ref th), .val (.int (0 : Int32)), .unset] [])) _
    refine XS.iconst X0.here hx rfl (hb hby own_d4_2) ?_
    show Steps p.tables e below (s₁.setTop (mkF m 3 #[.val (.ref th), .val (.int (0 : Int32)), .unset] [(.int (4 : Int32))])) _
    refine XS.istoreN X0.here hx rfl (hb hby own_d4_3) rfl (l' := #[.val (.ref th), .val (.int (0 : Int32)), .val (.int (4 : Int32))]) rfl ?_
    show Steps p.tables e below (s₁.setTop (mkF m 4 #[.val (.ref th), .val (.int (0 : Int32)), .val (.int (4 : Int32))] [])) _
    refine XS.iloadN X0.here hx rfl (hb hby own_d4_4) rfl ?_
    show Steps p.tables e below (s₁.setTop (mkF m 5 #[.val (.ref th), .val (.int (0 : Int32)), .val (.int (4 : Int32))] [(.int (4 : Int32))])) _
    refine XS.bipush X0.here hx rfl (hb hby own_d4_5) ?_
    show Steps p.tables e below (s₁.setTop (mkF m 7 #[.val (.ref th), .val (.int (0 : Int32)), .val (.int (4 : Int32))] [(.int (8 : Int32)), (.int (4 : Int32))])) _
    refine XS.icmpNo X0.here hx rfl (hb hby own_d4_7) rfl (tlt ((by decide) : (4 : Int32) < (8 : Int32))).2.1 ?_
    show Steps p.tables e below (s₁.setTop (mkF m 10 #[.val (.ref th), .val (.int (0 : Int32)), .val (.int (4 : Int32))] [])) _
    refine XS.iloadN X0.here hx rfl (hb hby own_d4_10) rfl ?_
    show Steps p.tables e below (s₁.setTop (mkF m 11 #[.val (.ref th), .val (.int (0 : Int32)), .val (.int (4 : Int32))] [(.int (0 : Int32))])) _
    refine XS.bipush X0.here hx rfl (hb hby own_d4_11) ?_
    show Steps p.tables e below (s₁.setTop (mkF m 13 #[.val (.ref th), .val (.int (0 : Int32)), .val (.int (4 : Int32))] [(.int (8 : Int32)), (.int (0 : Int32))])) _
    refine XS.ishl X0.here hx rfl (hb hby own_d4_13) rfl ?_
    show Steps p.tables e below (s₁.setTop (mkF m 14 #[.val (.ref th), .val (.int (0 : Int32)), .val (.int (4 : Int32))] [(.int ((0 : Int32) <<< ((8 : Int32) &&& 31)))])) _
    refine XS.aloadN X0.here hx rfl (hb hby own_d4_14) rfl rfl ?_
    exact kt
  obtain ⟨T1, X1, e1, st1⟩ := getF X0 hx hZ hown (host := "") (Or.inl (hw _ (List.mem_of_getElem? (i := 38) rfl))) Via.refl e0 Fr_ (g := (mkF m 15 #[.val (.ref th), .val (.int (0 : Int32)), .val (.int (4 : Int32))] [(.ref th), (.int ((0 : Int32) <<< ((8 : Int32) &&& 31)))])) rfl rfl (hb hby own_d4_15)
  refine own_st st1 ?_
  show own_Gl _ _ _ _ _ _ _ _ (T1.setTop (mkF m 18 #[.val (.ref th), .val (.int (0 : Int32)), .val (.int (4 : Int32))] [(.ref rs), (.int ((0 : Int32) <<< ((8 : Int32) &&& 31)))]))
  refine own_st (A' := T1.setTop (mkF m 19 #[.val (.ref th), .val (.int (0 : Int32)), .val (.int (4 : Int32))] [(.int (4 : Int32)), (.ref rs), (.int ((0 : Int32) <<< ((8 : Int32) &&& 31)))])) (fun tg kt => ?_) ?_
  · show Steps p.tables e below (T1.setTop (mkF m 18 #[.val (.ref th), .val (.int (0 : Int32)), .val (.int (4 : Int32))] [(.ref rs), (.int ((0 : Int32) <<< ((8 : Int32) &&& 31)))])) _
    refine XS.iloadN X1.here hx rfl (hb hby own_d4_18) rfl ?_
    exact kt
  have Vt2 := Vrs
  obtain ⟨cl2, Ar2, -, Sz2, -, Hs2, -⟩ := Vt2
  have hin2 := inb_of (j := (4 : Int32)) Sz2 ⟨by decide, by decide⟩
  have hat2 : cl2.slots[((4 : Int32)).toNatClampNeg]? = some (.int c4) := Hs2.at hin2 rfl
  refine own_st (A' := T1.setTop (mkF m 15 #[.val (.ref th), .val (.int (((0 : Int32) <<< ((8 : Int32) &&& 31)) ||| (c4 &&& (255 : Int32)))), .val (.int (5 : Int32))] [(.ref th), (.int ((((0 : Int32) <<< ((8 : Int32) &&& 31)) ||| (c4 &&& (255 : Int32))) <<< ((8 : Int32) &&& 31)))])) (fun tg kt => ?_) ?_
  · show Steps p.tables e below (T1.setTop (mkF m 19 #[.val (.ref th), .val (.int (0 : Int32)), .val (.int (4 : Int32))] [(.int (4 : Int32)), (.ref rs), (.int ((0 : Int32) <<< ((8 : Int32) &&& 31)))])) _
    refine X1.baloadBytes hx (j := (4 : Int32)) (v := (.int c4)) (own_at_heap e1 Ar2.1) (State.isArrayOf_alike hZ.alike Ar2.2.1) Ar2.2.2 hin2 hat2 (g := (mkF m 19 #[.val (.ref th), .val (.int (0 : Int32)), .val (.int (4 : Int32))] [(.int (4 : Int32)), (.ref rs), (.int ((0 : Int32) <<< ((8 : Int32) &&& 31)))])) rfl rfl (hb hby own_d4_19) _ ?_
    show Steps p.tables e below (T1.setTop (mkF m 20 #[.val (.ref th), .val (.int (0 : Int32)), .val (.int (4 : Int32))] [(.int c4), (.int ((0 : Int32) <<< ((8 : Int32) &&& 31)))])) _
    refine XS.sipush X1.here hx rfl (hb hby own_d4_20) ?_
    show Steps p.tables e below (T1.setTop (mkF m 23 #[.val (.ref th), .val (.int (0 : Int32)), .val (.int (4 : Int32))] [(.int (255 : Int32)), (.int c4), (.int ((0 : Int32) <<< ((8 : Int32) &&& 31)))])) _
    refine XS.iand X1.here hx rfl (hb hby own_d4_23) rfl ?_
    show Steps p.tables e below (T1.setTop (mkF m 24 #[.val (.ref th), .val (.int (0 : Int32)), .val (.int (4 : Int32))] [(.int (c4 &&& (255 : Int32))), (.int ((0 : Int32) <<< ((8 : Int32) &&& 31)))])) _
    refine XS.ior X1.here hx rfl (hb hby own_d4_24) rfl ?_
    show Steps p.tables e below (T1.setTop (mkF m 25 #[.val (.ref th), .val (.int (0 : Int32)), .val (.int (4 : Int32))] [(.int (((0 : Int32) <<< ((8 : Int32) &&& 31)) ||| (c4 &&& (255 : Int32))))])) _
    refine XS.istoreN X1.here hx rfl (hb hby own_d4_25) rfl (l' := #[.val (.ref th), .val (.int (((0 : Int32) <<< ((8 : Int32) &&& 31)) ||| (c4 &&& (255 : Int32)))), .val (.int (4 : Int32))]) rfl ?_
    show Steps p.tables e below (T1.setTop (mkF m 26 #[.val (.ref th), .val (.int (((0 : Int32) <<< ((8 : Int32) &&& 31)) ||| (c4 &&& (255 : Int32)))), .val (.int (4 : Int32))] [])) _
    refine XS.iinc X1.here hx rfl (hb hby own_d4_26) rfl (l' := #[.val (.ref th), .val (.int (((0 : Int32) <<< ((8 : Int32) &&& 31)) ||| (c4 &&& (255 : Int32)))), .val (.int (5 : Int32))]) rfl ?_
    show Steps p.tables e below (T1.setTop (mkF m 29 #[.val (.ref th), .val (.int (((0 : Int32) <<< ((8 : Int32) &&& 31)) ||| (c4 &&& (255 : Int32)))), .val (.int (5 : Int32))] [])) _
    refine XS.goto X1.here hx rfl (pc0 := 29) (pc' := 4) rfl (hb hby own_d4_29) (by decide) (by decide) ?_
    show Steps p.tables e below (T1.setTop (mkF m 4 #[.val (.ref th), .val (.int (((0 : Int32) <<< ((8 : Int32) &&& 31)) ||| (c4 &&& (255 : Int32)))), .val (.int (5 : Int32))] [])) _
    refine XS.iloadN X1.here hx rfl (hb hby own_d4_4) rfl ?_
    show Steps p.tables e below (T1.setTop (mkF m 5 #[.val (.ref th), .val (.int (((0 : Int32) <<< ((8 : Int32) &&& 31)) ||| (c4 &&& (255 : Int32)))), .val (.int (5 : Int32))] [(.int (5 : Int32))])) _
    refine XS.bipush X1.here hx rfl (hb hby own_d4_5) ?_
    show Steps p.tables e below (T1.setTop (mkF m 7 #[.val (.ref th), .val (.int (((0 : Int32) <<< ((8 : Int32) &&& 31)) ||| (c4 &&& (255 : Int32)))), .val (.int (5 : Int32))] [(.int (8 : Int32)), (.int (5 : Int32))])) _
    refine XS.icmpNo X1.here hx rfl (hb hby own_d4_7) rfl (tlt ((by decide) : (5 : Int32) < (8 : Int32))).2.1 ?_
    show Steps p.tables e below (T1.setTop (mkF m 10 #[.val (.ref th), .val (.int (((0 : Int32) <<< ((8 : Int32) &&& 31)) ||| (c4 &&& (255 : Int32)))), .val (.int (5 : Int32))] [])) _
    refine XS.iloadN X1.here hx rfl (hb hby own_d4_10) rfl ?_
    show Steps p.tables e below (T1.setTop (mkF m 11 #[.val (.ref th), .val (.int (((0 : Int32) <<< ((8 : Int32) &&& 31)) ||| (c4 &&& (255 : Int32)))), .val (.int (5 : Int32))] [(.int (((0 : Int32) <<< ((8 : Int32) &&& 31)) ||| (c4 &&& (255 : Int32))))])) _
    refine XS.bipush X1.here hx rfl (hb hby own_d4_11) ?_
    show Steps p.tables e below (T1.setTop (mkF m 13 #[.val (.ref th), .val (.int (((0 : Int32) <<< ((8 : Int32) &&& 31)) ||| (c4 &&& (255 : Int32)))), .val (.int (5 : Int32))] [(.int (8 : Int32)), (.int (((0 : Int32) <<< ((8 : Int32) &&& 31)) ||| (c4 &&& (255 : Int32))))])) _
    refine XS.ishl X1.here hx rfl (hb hby own_d4_13) rfl ?_
    show Steps p.tables e below (T1.setTop (mkF m 14 #[.val (.ref th), .val (.int (((0 : Int32) <<< ((8 : Int32) &&& 31)) ||| (c4 &&& (255 : Int32)))), .val (.int (5 : Int32))] [(.int ((((0 : Int32) <<< ((8 : Int32) &&& 31)) ||| (c4 &&& (255 : Int32))) <<< ((8 : Int32) &&& 31)))])) _
    refine XS.aloadN X1.here hx rfl (hb hby own_d4_14) rfl rfl ?_
    exact kt
  obtain ⟨T3, X3, e3, st3⟩ := getF X1 hx hZ hown (host := "") (Or.inl (hw _ (List.mem_of_getElem? (i := 38) rfl))) Via.refl e1 Fr_ (g := (mkF m 15 #[.val (.ref th), .val (.int (((0 : Int32) <<< ((8 : Int32) &&& 31)) ||| (c4 &&& (255 : Int32)))), .val (.int (5 : Int32))] [(.ref th), (.int ((((0 : Int32) <<< ((8 : Int32) &&& 31)) ||| (c4 &&& (255 : Int32))) <<< ((8 : Int32) &&& 31)))])) rfl rfl (hb hby own_d4_15)
  refine own_st st3 ?_
  show own_Gl _ _ _ _ _ _ _ _ (T3.setTop (mkF m 18 #[.val (.ref th), .val (.int (((0 : Int32) <<< ((8 : Int32) &&& 31)) ||| (c4 &&& (255 : Int32)))), .val (.int (5 : Int32))] [(.ref rs), (.int ((((0 : Int32) <<< ((8 : Int32) &&& 31)) ||| (c4 &&& (255 : Int32))) <<< ((8 : Int32) &&& 31)))]))
  refine own_st (A' := T3.setTop (mkF m 19 #[.val (.ref th), .val (.int (((0 : Int32) <<< ((8 : Int32) &&& 31)) ||| (c4 &&& (255 : Int32)))), .val (.int (5 : Int32))] [(.int (5 : Int32)), (.ref rs), (.int ((((0 : Int32) <<< ((8 : Int32) &&& 31)) ||| (c4 &&& (255 : Int32))) <<< ((8 : Int32) &&& 31)))])) (fun tg kt => ?_) ?_
  · show Steps p.tables e below (T3.setTop (mkF m 18 #[.val (.ref th), .val (.int (((0 : Int32) <<< ((8 : Int32) &&& 31)) ||| (c4 &&& (255 : Int32)))), .val (.int (5 : Int32))] [(.ref rs), (.int ((((0 : Int32) <<< ((8 : Int32) &&& 31)) ||| (c4 &&& (255 : Int32))) <<< ((8 : Int32) &&& 31)))])) _
    refine XS.iloadN X3.here hx rfl (hb hby own_d4_18) rfl ?_
    exact kt
  have Vt4 := Vrs
  obtain ⟨cl4, Ar4, -, Sz4, -, Hs4, -⟩ := Vt4
  have hin4 := inb_of (j := (5 : Int32)) Sz4 ⟨by decide, by decide⟩
  have hat4 : cl4.slots[((5 : Int32)).toNatClampNeg]? = some (.int c5) := Hs4.at hin4 rfl
  refine own_st (A' := T3.setTop (mkF m 15 #[.val (.ref th), .val (.int (((((0 : Int32) <<< ((8 : Int32) &&& 31)) ||| (c4 &&& (255 : Int32))) <<< ((8 : Int32) &&& 31)) ||| (c5 &&& (255 : Int32)))), .val (.int (6 : Int32))] [(.ref th), (.int ((((((0 : Int32) <<< ((8 : Int32) &&& 31)) ||| (c4 &&& (255 : Int32))) <<< ((8 : Int32) &&& 31)) ||| (c5 &&& (255 : Int32))) <<< ((8 : Int32) &&& 31)))])) (fun tg kt => ?_) ?_
  · show Steps p.tables e below (T3.setTop (mkF m 19 #[.val (.ref th), .val (.int (((0 : Int32) <<< ((8 : Int32) &&& 31)) ||| (c4 &&& (255 : Int32)))), .val (.int (5 : Int32))] [(.int (5 : Int32)), (.ref rs), (.int ((((0 : Int32) <<< ((8 : Int32) &&& 31)) ||| (c4 &&& (255 : Int32))) <<< ((8 : Int32) &&& 31)))])) _
    refine X3.baloadBytes hx (j := (5 : Int32)) (v := (.int c5)) (own_at_heap e3 Ar4.1) (State.isArrayOf_alike hZ.alike Ar4.2.1) Ar4.2.2 hin4 hat4 (g := (mkF m 19 #[.val (.ref th), .val (.int (((0 : Int32) <<< ((8 : Int32) &&& 31)) ||| (c4 &&& (255 : Int32)))), .val (.int (5 : Int32))] [(.int (5 : Int32)), (.ref rs), (.int ((((0 : Int32) <<< ((8 : Int32) &&& 31)) ||| (c4 &&& (255 : Int32))) <<< ((8 : Int32) &&& 31)))])) rfl rfl (hb hby own_d4_19) _ ?_
    show Steps p.tables e below (T3.setTop (mkF m 20 #[.val (.ref th), .val (.int (((0 : Int32) <<< ((8 : Int32) &&& 31)) ||| (c4 &&& (255 : Int32)))), .val (.int (5 : Int32))] [(.int c5), (.int ((((0 : Int32) <<< ((8 : Int32) &&& 31)) ||| (c4 &&& (255 : Int32))) <<< ((8 : Int32) &&& 31)))])) _
    refine XS.sipush X3.here hx rfl (hb hby own_d4_20) ?_
    show Steps p.tables e below (T3.setTop (mkF m 23 #[.val (.ref th), .val (.int (((0 : Int32) <<< ((8 : Int32) &&& 31)) ||| (c4 &&& (255 : Int32)))), .val (.int (5 : Int32))] [(.int (255 : Int32)), (.int c5), (.int ((((0 : Int32) <<< ((8 : Int32) &&& 31)) ||| (c4 &&& (255 : Int32))) <<< ((8 : Int32) &&& 31)))])) _
    refine XS.iand X3.here hx rfl (hb hby own_d4_23) rfl ?_
    show Steps p.tables e below (T3.setTop (mkF m 24 #[.val (.ref th), .val (.int (((0 : Int32) <<< ((8 : Int32) &&& 31)) ||| (c4 &&& (255 : Int32)))), .val (.int (5 : Int32))] [(.int (c5 &&& (255 : Int32))), (.int ((((0 : Int32) <<< ((8 : Int32) &&& 31)) ||| (c4 &&& (255 : Int32))) <<< ((8 : Int32) &&& 31)))])) _
    refine XS.ior X3.here hx rfl (hb hby own_d4_24) rfl ?_
    show Steps p.tables e below (T3.setTop (mkF m 25 #[.val (.ref th), .val (.int (((0 : Int32) <<< ((8 : Int32) &&& 31)) ||| (c4 &&& (255 : Int32)))), .val (.int (5 : Int32))] [(.int (((((0 : Int32) <<< ((8 : Int32) &&& 31)) ||| (c4 &&& (255 : Int32))) <<< ((8 : Int32) &&& 31)) ||| (c5 &&& (255 : Int32))))])) _
    refine XS.istoreN X3.here hx rfl (hb hby own_d4_25) rfl (l' := #[.val (.ref th), .val (.int (((((0 : Int32) <<< ((8 : Int32) &&& 31)) ||| (c4 &&& (255 : Int32))) <<< ((8 : Int32) &&& 31)) ||| (c5 &&& (255 : Int32)))), .val (.int (5 : Int32))]) rfl ?_
    show Steps p.tables e below (T3.setTop (mkF m 26 #[.val (.ref th), .val (.int (((((0 : Int32) <<< ((8 : Int32) &&& 31)) ||| (c4 &&& (255 : Int32))) <<< ((8 : Int32) &&& 31)) ||| (c5 &&& (255 : Int32)))), .val (.int (5 : Int32))] [])) _
    refine XS.iinc X3.here hx rfl (hb hby own_d4_26) rfl (l' := #[.val (.ref th), .val (.int (((((0 : Int32) <<< ((8 : Int32) &&& 31)) ||| (c4 &&& (255 : Int32))) <<< ((8 : Int32) &&& 31)) ||| (c5 &&& (255 : Int32)))), .val (.int (6 : Int32))]) rfl ?_
    show Steps p.tables e below (T3.setTop (mkF m 29 #[.val (.ref th), .val (.int (((((0 : Int32) <<< ((8 : Int32) &&& 31)) ||| (c4 &&& (255 : Int32))) <<< ((8 : Int32) &&& 31)) ||| (c5 &&& (255 : Int32)))), .val (.int (6 : Int32))] [])) _
    refine XS.goto X3.here hx rfl (pc0 := 29) (pc' := 4) rfl (hb hby own_d4_29) (by decide) (by decide) ?_
    show Steps p.tables e below (T3.setTop (mkF m 4 #[.val (.ref th), .val (.int (((((0 : Int32) <<< ((8 : Int32) &&& 31)) ||| (c4 &&& (255 : Int32))) <<< ((8 : Int32) &&& 31)) ||| (c5 &&& (255 : Int32)))), .val (.int (6 : Int32))] [])) _
    refine XS.iloadN X3.here hx rfl (hb hby own_d4_4) rfl ?_
    show Steps p.tables e below (T3.setTop (mkF m 5 #[.val (.ref th), .val (.int (((((0 : Int32) <<< ((8 : Int32) &&& 31)) ||| (c4 &&& (255 : Int32))) <<< ((8 : Int32) &&& 31)) ||| (c5 &&& (255 : Int32)))), .val (.int (6 : Int32))] [(.int (6 : Int32))])) _
    refine XS.bipush X3.here hx rfl (hb hby own_d4_5) ?_
    show Steps p.tables e below (T3.setTop (mkF m 7 #[.val (.ref th), .val (.int (((((0 : Int32) <<< ((8 : Int32) &&& 31)) ||| (c4 &&& (255 : Int32))) <<< ((8 : Int32) &&& 31)) ||| (c5 &&& (255 : Int32)))), .val (.int (6 : Int32))] [(.int (8 : Int32)), (.int (6 : Int32))])) _
    refine XS.icmpNo X3.here hx rfl (hb hby own_d4_7) rfl (tlt ((by decide) : (6 : Int32) < (8 : Int32))).2.1 ?_
    show Steps p.tables e below (T3.setTop (mkF m 10 #[.val (.ref th), .val (.int (((((0 : Int32) <<< ((8 : Int32) &&& 31)) ||| (c4 &&& (255 : Int32))) <<< ((8 : Int32) &&& 31)) ||| (c5 &&& (255 : Int32)))), .val (.int (6 : Int32))] [])) _
    refine XS.iloadN X3.here hx rfl (hb hby own_d4_10) rfl ?_
    show Steps p.tables e below (T3.setTop (mkF m 11 #[.val (.ref th), .val (.int (((((0 : Int32) <<< ((8 : Int32) &&& 31)) ||| (c4 &&& (255 : Int32))) <<< ((8 : Int32) &&& 31)) ||| (c5 &&& (255 : Int32)))), .val (.int (6 : Int32))] [(.int (((((0 : Int32) <<< ((8 : Int32) &&& 31)) ||| (c4 &&& (255 : Int32))) <<< ((8 : Int32) &&& 31)) ||| (c5 &&& (255 : Int32))))])) _
    refine XS.bipush X3.here hx rfl (hb hby own_d4_11) ?_
    show Steps p.tables e below (T3.setTop (mkF m 13 #[.val (.ref th), .val (.int (((((0 : Int32) <<< ((8 : Int32) &&& 31)) ||| (c4 &&& (255 : Int32))) <<< ((8 : Int32) &&& 31)) ||| (c5 &&& (255 : Int32)))), .val (.int (6 : Int32))] [(.int (8 : Int32)), (.int (((((0 : Int32) <<< ((8 : Int32) &&& 31)) ||| (c4 &&& (255 : Int32))) <<< ((8 : Int32) &&& 31)) ||| (c5 &&& (255 : Int32))))])) _
    refine XS.ishl X3.here hx rfl (hb hby own_d4_13) rfl ?_
    show Steps p.tables e below (T3.setTop (mkF m 14 #[.val (.ref th), .val (.int (((((0 : Int32) <<< ((8 : Int32) &&& 31)) ||| (c4 &&& (255 : Int32))) <<< ((8 : Int32) &&& 31)) ||| (c5 &&& (255 : Int32)))), .val (.int (6 : Int32))] [(.int ((((((0 : Int32) <<< ((8 : Int32) &&& 31)) ||| (c4 &&& (255 : Int32))) <<< ((8 : Int32) &&& 31)) ||| (c5 &&& (255 : Int32))) <<< ((8 : Int32) &&& 31)))])) _
    refine XS.aloadN X3.here hx rfl (hb hby own_d4_14) rfl rfl ?_
    exact kt
  obtain ⟨T5, X5, e5, st5⟩ := getF X3 hx hZ hown (host := "") (Or.inl (hw _ (List.mem_of_getElem? (i := 38) rfl))) Via.refl e3 Fr_ (g := (mkF m 15 #[.val (.ref th), .val (.int (((((0 : Int32) <<< ((8 : Int32) &&& 31)) ||| (c4 &&& (255 : Int32))) <<< ((8 : Int32) &&& 31)) ||| (c5 &&& (255 : Int32)))), .val (.int (6 : Int32))] [(.ref th), (.int ((((((0 : Int32) <<< ((8 : Int32) &&& 31)) ||| (c4 &&& (255 : Int32))) <<< ((8 : Int32) &&& 31)) ||| (c5 &&& (255 : Int32))) <<< ((8 : Int32) &&& 31)))])) rfl rfl (hb hby own_d4_15)
  refine own_st st5 ?_
  show own_Gl _ _ _ _ _ _ _ _ (T5.setTop (mkF m 18 #[.val (.ref th), .val (.int (((((0 : Int32) <<< ((8 : Int32) &&& 31)) ||| (c4 &&& (255 : Int32))) <<< ((8 : Int32) &&& 31)) ||| (c5 &&& (255 : Int32)))), .val (.int (6 : Int32))] [(.ref rs), (.int ((((((0 : Int32) <<< ((8 : Int32) &&& 31)) ||| (c4 &&& (255 : Int32))) <<< ((8 : Int32) &&& 31)) ||| (c5 &&& (255 : Int32))) <<< ((8 : Int32) &&& 31)))]))
  refine own_st (A' := T5.setTop (mkF m 19 #[.val (.ref th), .val (.int (((((0 : Int32) <<< ((8 : Int32) &&& 31)) ||| (c4 &&& (255 : Int32))) <<< ((8 : Int32) &&& 31)) ||| (c5 &&& (255 : Int32)))), .val (.int (6 : Int32))] [(.int (6 : Int32)), (.ref rs), (.int ((((((0 : Int32) <<< ((8 : Int32) &&& 31)) ||| (c4 &&& (255 : Int32))) <<< ((8 : Int32) &&& 31)) ||| (c5 &&& (255 : Int32))) <<< ((8 : Int32) &&& 31)))])) (fun tg kt => ?_) ?_
  · show Steps p.tables e below (T5.setTop (mkF m 18 #[.val (.ref th), .val (.int (((((0 : Int32) <<< ((8 : Int32) &&& 31)) ||| (c4 &&& (255 : Int32))) <<< ((8 : Int32) &&& 31)) ||| (c5 &&& (255 : Int32)))), .val (.int (6 : Int32))] [(.ref rs), (.int ((((((0 : Int32) <<< ((8 : Int32) &&& 31)) ||| (c4 &&& (255 : Int32))) <<< ((8 : Int32) &&& 31)) ||| (c5 &&& (255 : Int32))) <<< ((8 : Int32) &&& 31)))])) _
    refine XS.iloadN X5.here hx rfl (hb hby own_d4_18) rfl ?_
    exact kt
  have Vt6 := Vrs
  obtain ⟨cl6, Ar6, -, Sz6, -, Hs6, -⟩ := Vt6
  have hin6 := inb_of (j := (6 : Int32)) Sz6 ⟨by decide, by decide⟩
  have hat6 : cl6.slots[((6 : Int32)).toNatClampNeg]? = some (.int c6) := Hs6.at hin6 rfl
  refine own_st (A' := T5.setTop (mkF m 15 #[.val (.ref th), .val (.int (((((((0 : Int32) <<< ((8 : Int32) &&& 31)) ||| (c4 &&& (255 : Int32))) <<< ((8 : Int32) &&& 31)) ||| (c5 &&& (255 : Int32))) <<< ((8 : Int32) &&& 31)) ||| (c6 &&& (255 : Int32)))), .val (.int (7 : Int32))] [(.ref th), (.int ((((((((0 : Int32) <<< ((8 : Int32) &&& 31)) ||| (c4 &&& (255 : Int32))) <<< ((8 : Int32) &&& 31)) ||| (c5 &&& (255 : Int32))) <<< ((8 : Int32) &&& 31)) ||| (c6 &&& (255 : Int32))) <<< ((8 : Int32) &&& 31)))])) (fun tg kt => ?_) ?_
  · show Steps p.tables e below (T5.setTop (mkF m 19 #[.val (.ref th), .val (.int (((((0 : Int32) <<< ((8 : Int32) &&& 31)) ||| (c4 &&& (255 : Int32))) <<< ((8 : Int32) &&& 31)) ||| (c5 &&& (255 : Int32)))), .val (.int (6 : Int32))] [(.int (6 : Int32)), (.ref rs), (.int ((((((0 : Int32) <<< ((8 : Int32) &&& 31)) ||| (c4 &&& (255 : Int32))) <<< ((8 : Int32) &&& 31)) ||| (c5 &&& (255 : Int32))) <<< ((8 : Int32) &&& 31)))])) _
    refine X5.baloadBytes hx (j := (6 : Int32)) (v := (.int c6)) (own_at_heap e5 Ar6.1) (State.isArrayOf_alike hZ.alike Ar6.2.1) Ar6.2.2 hin6 hat6 (g := (mkF m 19 #[.val (.ref th), .val (.int (((((0 : Int32) <<< ((8 : Int32) &&& 31)) ||| (c4 &&& (255 : Int32))) <<< ((8 : Int32) &&& 31)) ||| (c5 &&& (255 : Int32)))), .val (.int (6 : Int32))] [(.int (6 : Int32)), (.ref rs), (.int ((((((0 : Int32) <<< ((8 : Int32) &&& 31)) ||| (c4 &&& (255 : Int32))) <<< ((8 : Int32) &&& 31)) ||| (c5 &&& (255 : Int32))) <<< ((8 : Int32) &&& 31)))])) rfl rfl (hb hby own_d4_19) _ ?_
    show Steps p.tables e below (T5.setTop (mkF m 20 #[.val (.ref th), .val (.int (((((0 : Int32) <<< ((8 : Int32) &&& 31)) ||| (c4 &&& (255 : Int32))) <<< ((8 : Int32) &&& 31)) ||| (c5 &&& (255 : Int32)))), .val (.int (6 : Int32))] [(.int c6), (.int ((((((0 : Int32) <<< ((8 : Int32) &&& 31)) ||| (c4 &&& (255 : Int32))) <<< ((8 : Int32) &&& 31)) ||| (c5 &&& (255 : Int32))) <<< ((8 : Int32) &&& 31)))])) _
    refine XS.sipush X5.here hx rfl (hb hby own_d4_20) ?_
    show Steps p.tables e below (T5.setTop (mkF m 23 #[.val (.ref th), .val (.int (((((0 : Int32) <<< ((8 : Int32) &&& 31)) ||| (c4 &&& (255 : Int32))) <<< ((8 : Int32) &&& 31)) ||| (c5 &&& (255 : Int32)))), .val (.int (6 : Int32))] [(.int (255 : Int32)), (.int c6), (.int ((((((0 : Int32) <<< ((8 : Int32) &&& 31)) ||| (c4 &&& (255 : Int32))) <<< ((8 : Int32) &&& 31)) ||| (c5 &&& (255 : Int32))) <<< ((8 : Int32) &&& 31)))])) _
    refine XS.iand X5.here hx rfl (hb hby own_d4_23) rfl ?_
    show Steps p.tables e below (T5.setTop (mkF m 24 #[.val (.ref th), .val (.int (((((0 : Int32) <<< ((8 : Int32) &&& 31)) ||| (c4 &&& (255 : Int32))) <<< ((8 : Int32) &&& 31)) ||| (c5 &&& (255 : Int32)))), .val (.int (6 : Int32))] [(.int (c6 &&& (255 : Int32))), (.int ((((((0 : Int32) <<< ((8 : Int32) &&& 31)) ||| (c4 &&& (255 : Int32))) <<< ((8 : Int32) &&& 31)) ||| (c5 &&& (255 : Int32))) <<< ((8 : Int32) &&& 31)))])) _
    refine XS.ior X5.here hx rfl (hb hby own_d4_24) rfl ?_
    show Steps p.tables e below (T5.setTop (mkF m 25 #[.val (.ref th), .val (.int (((((0 : Int32) <<< ((8 : Int32) &&& 31)) ||| (c4 &&& (255 : Int32))) <<< ((8 : Int32) &&& 31)) ||| (c5 &&& (255 : Int32)))), .val (.int (6 : Int32))] [(.int (((((((0 : Int32) <<< ((8 : Int32) &&& 31)) ||| (c4 &&& (255 : Int32))) <<< ((8 : Int32) &&& 31)) ||| (c5 &&& (255 : Int32))) <<< ((8 : Int32) &&& 31)) ||| (c6 &&& (255 : Int32))))])) _
    refine XS.istoreN X5.here hx rfl (hb hby own_d4_25) rfl (l' := #[.val (.ref th), .val (.int (((((((0 : Int32) <<< ((8 : Int32) &&& 31)) ||| (c4 &&& (255 : Int32))) <<< ((8 : Int32) &&& 31)) ||| (c5 &&& (255 : Int32))) <<< ((8 : Int32) &&& 31)) ||| (c6 &&& (255 : Int32)))), .val (.int (6 : Int32))]) rfl ?_
    show Steps p.tables e below (T5.setTop (mkF m 26 #[.val (.ref th), .val (.int (((((((0 : Int32) <<< ((8 : Int32) &&& 31)) ||| (c4 &&& (255 : Int32))) <<< ((8 : Int32) &&& 31)) ||| (c5 &&& (255 : Int32))) <<< ((8 : Int32) &&& 31)) ||| (c6 &&& (255 : Int32)))), .val (.int (6 : Int32))] [])) _
    refine XS.iinc X5.here hx rfl (hb hby own_d4_26) rfl (l' := #[.val (.ref th), .val (.int (((((((0 : Int32) <<< ((8 : Int32) &&& 31)) ||| (c4 &&& (255 : Int32))) <<< ((8 : Int32) &&& 31)) ||| (c5 &&& (255 : Int32))) <<< ((8 : Int32) &&& 31)) ||| (c6 &&& (255 : Int32)))), .val (.int (7 : Int32))]) rfl ?_
    show Steps p.tables e below (T5.setTop (mkF m 29 #[.val (.ref th), .val (.int (((((((0 : Int32) <<< ((8 : Int32) &&& 31)) ||| (c4 &&& (255 : Int32))) <<< ((8 : Int32) &&& 31)) ||| (c5 &&& (255 : Int32))) <<< ((8 : Int32) &&& 31)) ||| (c6 &&& (255 : Int32)))), .val (.int (7 : Int32))] [])) _
    refine XS.goto X5.here hx rfl (pc0 := 29) (pc' := 4) rfl (hb hby own_d4_29) (by decide) (by decide) ?_
    show Steps p.tables e below (T5.setTop (mkF m 4 #[.val (.ref th), .val (.int (((((((0 : Int32) <<< ((8 : Int32) &&& 31)) ||| (c4 &&& (255 : Int32))) <<< ((8 : Int32) &&& 31)) ||| (c5 &&& (255 : Int32))) <<< ((8 : Int32) &&& 31)) ||| (c6 &&& (255 : Int32)))), .val (.int (7 : Int32))] [])) _
    refine XS.iloadN X5.here hx rfl (hb hby own_d4_4) rfl ?_
    show Steps p.tables e below (T5.setTop (mkF m 5 #[.val (.ref th), .val (.int (((((((0 : Int32) <<< ((8 : Int32) &&& 31)) ||| (c4 &&& (255 : Int32))) <<< ((8 : Int32) &&& 31)) ||| (c5 &&& (255 : Int32))) <<< ((8 : Int32) &&& 31)) ||| (c6 &&& (255 : Int32)))), .val (.int (7 : Int32))] [(.int (7 : Int32))])) _
    refine XS.bipush X5.here hx rfl (hb hby own_d4_5) ?_
    show Steps p.tables e below (T5.setTop (mkF m 7 #[.val (.ref th), .val (.int (((((((0 : Int32) <<< ((8 : Int32) &&& 31)) ||| (c4 &&& (255 : Int32))) <<< ((8 : Int32) &&& 31)) ||| (c5 &&& (255 : Int32))) <<< ((8 : Int32) &&& 31)) ||| (c6 &&& (255 : Int32)))), .val (.int (7 : Int32))] [(.int (8 : Int32)), (.int (7 : Int32))])) _
    refine XS.icmpNo X5.here hx rfl (hb hby own_d4_7) rfl (tlt ((by decide) : (7 : Int32) < (8 : Int32))).2.1 ?_
    show Steps p.tables e below (T5.setTop (mkF m 10 #[.val (.ref th), .val (.int (((((((0 : Int32) <<< ((8 : Int32) &&& 31)) ||| (c4 &&& (255 : Int32))) <<< ((8 : Int32) &&& 31)) ||| (c5 &&& (255 : Int32))) <<< ((8 : Int32) &&& 31)) ||| (c6 &&& (255 : Int32)))), .val (.int (7 : Int32))] [])) _
    refine XS.iloadN X5.here hx rfl (hb hby own_d4_10) rfl ?_
    show Steps p.tables e below (T5.setTop (mkF m 11 #[.val (.ref th), .val (.int (((((((0 : Int32) <<< ((8 : Int32) &&& 31)) ||| (c4 &&& (255 : Int32))) <<< ((8 : Int32) &&& 31)) ||| (c5 &&& (255 : Int32))) <<< ((8 : Int32) &&& 31)) ||| (c6 &&& (255 : Int32)))), .val (.int (7 : Int32))] [(.int (((((((0 : Int32) <<< ((8 : Int32) &&& 31)) ||| (c4 &&& (255 : Int32))) <<< ((8 : Int32) &&& 31)) ||| (c5 &&& (255 : Int32))) <<< ((8 : Int32) &&& 31)) ||| (c6 &&& (255 : Int32))))])) _
    refine XS.bipush X5.here hx rfl (hb hby own_d4_11) ?_
    show Steps p.tables e below (T5.setTop (mkF m 13 #[.val (.ref th), .val (.int (((((((0 : Int32) <<< ((8 : Int32) &&& 31)) ||| (c4 &&& (255 : Int32))) <<< ((8 : Int32) &&& 31)) ||| (c5 &&& (255 : Int32))) <<< ((8 : Int32) &&& 31)) ||| (c6 &&& (255 : Int32)))), .val (.int (7 : Int32))] [(.int (8 : Int32)), (.int (((((((0 : Int32) <<< ((8 : Int32) &&& 31)) ||| (c4 &&& (255 : Int32))) <<< ((8 : Int32) &&& 31)) ||| (c5 &&& (255 : Int32))) <<< ((8 : Int32) &&& 31)) ||| (c6 &&& (255 : Int32))))])) _
    refine XS.ishl X5.here hx rfl (hb hby own_d4_13) rfl ?_
    show Steps p.tables e below (T5.setTop (mkF m 14 #[.val (.ref th), .val (.int (((((((0 : Int32) <<< ((8 : Int32) &&& 31)) ||| (c4 &&& (255 : Int32))) <<< ((8 : Int32) &&& 31)) ||| (c5 &&& (255 : Int32))) <<< ((8 : Int32) &&& 31)) ||| (c6 &&& (255 : Int32)))), .val (.int (7 : Int32))] [(.int ((((((((0 : Int32) <<< ((8 : Int32) &&& 31)) ||| (c4 &&& (255 : Int32))) <<< ((8 : Int32) &&& 31)) ||| (c5 &&& (255 : Int32))) <<< ((8 : Int32) &&& 31)) ||| (c6 &&& (255 : Int32))) <<< ((8 : Int32) &&& 31)))])) _
    refine XS.aloadN X5.here hx rfl (hb hby own_d4_14) rfl rfl ?_
    exact kt
  obtain ⟨T7, X7, e7, st7⟩ := getF X5 hx hZ hown (host := "") (Or.inl (hw _ (List.mem_of_getElem? (i := 38) rfl))) Via.refl e5 Fr_ (g := (mkF m 15 #[.val (.ref th), .val (.int (((((((0 : Int32) <<< ((8 : Int32) &&& 31)) ||| (c4 &&& (255 : Int32))) <<< ((8 : Int32) &&& 31)) ||| (c5 &&& (255 : Int32))) <<< ((8 : Int32) &&& 31)) ||| (c6 &&& (255 : Int32)))), .val (.int (7 : Int32))] [(.ref th), (.int ((((((((0 : Int32) <<< ((8 : Int32) &&& 31)) ||| (c4 &&& (255 : Int32))) <<< ((8 : Int32) &&& 31)) ||| (c5 &&& (255 : Int32))) <<< ((8 : Int32) &&& 31)) ||| (c6 &&& (255 : Int32))) <<< ((8 : Int32) &&& 31)))])) rfl rfl (hb hby own_d4_15)
  refine own_st st7 ?_
  show own_Gl _ _ _ _ _ _ _ _ (T7.setTop (mkF m 18 #[.val (.ref th), .val (.int (((((((0 : Int32) <<< ((8 : Int32) &&& 31)) ||| (c4 &&& (255 : Int32))) <<< ((8 : Int32) &&& 31)) ||| (c5 &&& (255 : Int32))) <<< ((8 : Int32) &&& 31)) ||| (c6 &&& (255 : Int32)))), .val (.int (7 : Int32))] [(.ref rs), (.int ((((((((0 : Int32) <<< ((8 : Int32) &&& 31)) ||| (c4 &&& (255 : Int32))) <<< ((8 : Int32) &&& 31)) ||| (c5 &&& (255 : Int32))) <<< ((8 : Int32) &&& 31)) ||| (c6 &&& (255 : Int32))) <<< ((8 : Int32) &&& 31)))]))
  refine own_st (A' := T7.setTop (mkF m 19 #[.val (.ref th), .val (.int (((((((0 : Int32) <<< ((8 : Int32) &&& 31)) ||| (c4 &&& (255 : Int32))) <<< ((8 : Int32) &&& 31)) ||| (c5 &&& (255 : Int32))) <<< ((8 : Int32) &&& 31)) ||| (c6 &&& (255 : Int32)))), .val (.int (7 : Int32))] [(.int (7 : Int32)), (.ref rs), (.int ((((((((0 : Int32) <<< ((8 : Int32) &&& 31)) ||| (c4 &&& (255 : Int32))) <<< ((8 : Int32) &&& 31)) ||| (c5 &&& (255 : Int32))) <<< ((8 : Int32) &&& 31)) ||| (c6 &&& (255 : Int32))) <<< ((8 : Int32) &&& 31)))])) (fun tg kt => ?_) ?_
  · show Steps p.tables e below (T7.setTop (mkF m 18 #[.val (.ref th), .val (.int (((((((0 : Int32) <<< ((8 : Int32) &&& 31)) ||| (c4 &&& (255 : Int32))) <<< ((8 : Int32) &&& 31)) ||| (c5 &&& (255 : Int32))) <<< ((8 : Int32) &&& 31)) ||| (c6 &&& (255 : Int32)))), .val (.int (7 : Int32))] [(.ref rs), (.int ((((((((0 : Int32) <<< ((8 : Int32) &&& 31)) ||| (c4 &&& (255 : Int32))) <<< ((8 : Int32) &&& 31)) ||| (c5 &&& (255 : Int32))) <<< ((8 : Int32) &&& 31)) ||| (c6 &&& (255 : Int32))) <<< ((8 : Int32) &&& 31)))])) _
    refine XS.iloadN X7.here hx rfl (hb hby own_d4_18) rfl ?_
    exact kt
  have Vt8 := Vrs
  obtain ⟨cl8, Ar8, -, Sz8, -, Hs8, -⟩ := Vt8
  have hin8 := inb_of (j := (7 : Int32)) Sz8 ⟨by decide, by decide⟩
  have hat8 : cl8.slots[((7 : Int32)).toNatClampNeg]? = some (.int c7) := Hs8.at hin8 rfl
  refine own_st (A' := T7.setTop (mkF m 33 #[.val (.ref th), .val (.int (((((((((0 : Int32) <<< ((8 : Int32) &&& 31)) ||| (c4 &&& (255 : Int32))) <<< ((8 : Int32) &&& 31)) ||| (c5 &&& (255 : Int32))) <<< ((8 : Int32) &&& 31)) ||| (c6 &&& (255 : Int32))) <<< ((8 : Int32) &&& 31)) ||| (c7 &&& (255 : Int32)))), .val (.int (8 : Int32))] [(.int (((((((((0 : Int32) <<< ((8 : Int32) &&& 31)) ||| (c4 &&& (255 : Int32))) <<< ((8 : Int32) &&& 31)) ||| (c5 &&& (255 : Int32))) <<< ((8 : Int32) &&& 31)) ||| (c6 &&& (255 : Int32))) <<< ((8 : Int32) &&& 31)) ||| (c7 &&& (255 : Int32))))])) (fun tg kt => ?_) ?_
  · show Steps p.tables e below (T7.setTop (mkF m 19 #[.val (.ref th), .val (.int (((((((0 : Int32) <<< ((8 : Int32) &&& 31)) ||| (c4 &&& (255 : Int32))) <<< ((8 : Int32) &&& 31)) ||| (c5 &&& (255 : Int32))) <<< ((8 : Int32) &&& 31)) ||| (c6 &&& (255 : Int32)))), .val (.int (7 : Int32))] [(.int (7 : Int32)), (.ref rs), (.int ((((((((0 : Int32) <<< ((8 : Int32) &&& 31)) ||| (c4 &&& (255 : Int32))) <<< ((8 : Int32) &&& 31)) ||| (c5 &&& (255 : Int32))) <<< ((8 : Int32) &&& 31)) ||| (c6 &&& (255 : Int32))) <<< ((8 : Int32) &&& 31)))])) _
    refine X7.baloadBytes hx (j := (7 : Int32)) (v := (.int c7)) (own_at_heap e7 Ar8.1) (State.isArrayOf_alike hZ.alike Ar8.2.1) Ar8.2.2 hin8 hat8 (g := (mkF m 19 #[.val (.ref th), .val (.int (((((((0 : Int32) <<< ((8 : Int32) &&& 31)) ||| (c4 &&& (255 : Int32))) <<< ((8 : Int32) &&& 31)) ||| (c5 &&& (255 : Int32))) <<< ((8 : Int32) &&& 31)) ||| (c6 &&& (255 : Int32)))), .val (.int (7 : Int32))] [(.int (7 : Int32)), (.ref rs), (.int ((((((((0 : Int32) <<< ((8 : Int32) &&& 31)) ||| (c4 &&& (255 : Int32))) <<< ((8 : Int32) &&& 31)) ||| (c5 &&& (255 : Int32))) <<< ((8 : Int32) &&& 31)) ||| (c6 &&& (255 : Int32))) <<< ((8 : Int32) &&& 31)))])) rfl rfl (hb hby own_d4_19) _ ?_
    show Steps p.tables e below (T7.setTop (mkF m 20 #[.val (.ref th), .val (.int (((((((0 : Int32) <<< ((8 : Int32) &&& 31)) ||| (c4 &&& (255 : Int32))) <<< ((8 : Int32) &&& 31)) ||| (c5 &&& (255 : Int32))) <<< ((8 : Int32) &&& 31)) ||| (c6 &&& (255 : Int32)))), .val (.int (7 : Int32))] [(.int c7), (.int ((((((((0 : Int32) <<< ((8 : Int32) &&& 31)) ||| (c4 &&& (255 : Int32))) <<< ((8 : Int32) &&& 31)) ||| (c5 &&& (255 : Int32))) <<< ((8 : Int32) &&& 31)) ||| (c6 &&& (255 : Int32))) <<< ((8 : Int32) &&& 31)))])) _
    refine XS.sipush X7.here hx rfl (hb hby own_d4_20) ?_
    show Steps p.tables e below (T7.setTop (mkF m 23 #[.val (.ref th), .val (.int (((((((0 : Int32) <<< ((8 : Int32) &&& 31)) ||| (c4 &&& (255 : Int32))) <<< ((8 : Int32) &&& 31)) ||| (c5 &&& (255 : Int32))) <<< ((8 : Int32) &&& 31)) ||| (c6 &&& (255 : Int32)))), .val (.int (7 : Int32))] [(.int (255 : Int32)), (.int c7), (.int ((((((((0 : Int32) <<< ((8 : Int32) &&& 31)) ||| (c4 &&& (255 : Int32))) <<< ((8 : Int32) &&& 31)) ||| (c5 &&& (255 : Int32))) <<< ((8 : Int32) &&& 31)) ||| (c6 &&& (255 : Int32))) <<< ((8 : Int32) &&& 31)))])) _
    refine XS.iand X7.here hx rfl (hb hby own_d4_23) rfl ?_
    show Steps p.tables e below (T7.setTop (mkF m 24 #[.val (.ref th), .val (.int (((((((0 : Int32) <<< ((8 : Int32) &&& 31)) ||| (c4 &&& (255 : Int32))) <<< ((8 : Int32) &&& 31)) ||| (c5 &&& (255 : Int32))) <<< ((8 : Int32) &&& 31)) ||| (c6 &&& (255 : Int32)))), .val (.int (7 : Int32))] [(.int (c7 &&& (255 : Int32))), (.int ((((((((0 : Int32) <<< ((8 : Int32) &&& 31)) ||| (c4 &&& (255 : Int32))) <<< ((8 : Int32) &&& 31)) ||| (c5 &&& (255 : Int32))) <<< ((8 : Int32) &&& 31)) ||| (c6 &&& (255 : Int32))) <<< ((8 : Int32) &&& 31)))])) _
    refine XS.ior X7.here hx rfl (hb hby own_d4_24) rfl ?_
    show Steps p.tables e below (T7.setTop (mkF m 25 #[.val (.ref th), .val (.int (((((((0 : Int32) <<< ((8 : Int32) &&& 31)) ||| (c4 &&& (255 : Int32))) <<< ((8 : Int32) &&& 31)) ||| (c5 &&& (255 : Int32))) <<< ((8 : Int32) &&& 31)) ||| (c6 &&& (255 : Int32)))), .val (.int (7 : Int32))] [(.int (((((((((0 : Int32) <<< ((8 : Int32) &&& 31)) ||| (c4 &&& (255 : Int32))) <<< ((8 : Int32) &&& 31)) ||| (c5 &&& (255 : Int32))) <<< ((8 : Int32) &&& 31)) ||| (c6 &&& (255 : Int32))) <<< ((8 : Int32) &&& 31)) ||| (c7 &&& (255 : Int32))))])) _
    refine XS.istoreN X7.here hx rfl (hb hby own_d4_25) rfl (l' := #[.val (.ref th), .val (.int (((((((((0 : Int32) <<< ((8 : Int32) &&& 31)) ||| (c4 &&& (255 : Int32))) <<< ((8 : Int32) &&& 31)) ||| (c5 &&& (255 : Int32))) <<< ((8 : Int32) &&& 31)) ||| (c6 &&& (255 : Int32))) <<< ((8 : Int32) &&& 31)) ||| (c7 &&& (255 : Int32)))), .val (.int (7 : Int32))]) rfl ?_
    show Steps p.tables e below (T7.setTop (mkF m 26 #[.val (.ref th), .val (.int (((((((((0 : Int32) <<< ((8 : Int32) &&& 31)) ||| (c4 &&& (255 : Int32))) <<< ((8 : Int32) &&& 31)) ||| (c5 &&& (255 : Int32))) <<< ((8 : Int32) &&& 31)) ||| (c6 &&& (255 : Int32))) <<< ((8 : Int32) &&& 31)) ||| (c7 &&& (255 : Int32)))), .val (.int (7 : Int32))] [])) _
    refine XS.iinc X7.here hx rfl (hb hby own_d4_26) rfl (l' := #[.val (.ref th), .val (.int (((((((((0 : Int32) <<< ((8 : Int32) &&& 31)) ||| (c4 &&& (255 : Int32))) <<< ((8 : Int32) &&& 31)) ||| (c5 &&& (255 : Int32))) <<< ((8 : Int32) &&& 31)) ||| (c6 &&& (255 : Int32))) <<< ((8 : Int32) &&& 31)) ||| (c7 &&& (255 : Int32)))), .val (.int (8 : Int32))]) rfl ?_
    show Steps p.tables e below (T7.setTop (mkF m 29 #[.val (.ref th), .val (.int (((((((((0 : Int32) <<< ((8 : Int32) &&& 31)) ||| (c4 &&& (255 : Int32))) <<< ((8 : Int32) &&& 31)) ||| (c5 &&& (255 : Int32))) <<< ((8 : Int32) &&& 31)) ||| (c6 &&& (255 : Int32))) <<< ((8 : Int32) &&& 31)) ||| (c7 &&& (255 : Int32)))), .val (.int (8 : Int32))] [])) _
    refine XS.goto X7.here hx rfl (pc0 := 29) (pc' := 4) rfl (hb hby own_d4_29) (by decide) (by decide) ?_
    show Steps p.tables e below (T7.setTop (mkF m 4 #[.val (.ref th), .val (.int (((((((((0 : Int32) <<< ((8 : Int32) &&& 31)) ||| (c4 &&& (255 : Int32))) <<< ((8 : Int32) &&& 31)) ||| (c5 &&& (255 : Int32))) <<< ((8 : Int32) &&& 31)) ||| (c6 &&& (255 : Int32))) <<< ((8 : Int32) &&& 31)) ||| (c7 &&& (255 : Int32)))), .val (.int (8 : Int32))] [])) _
    refine XS.iloadN X7.here hx rfl (hb hby own_d4_4) rfl ?_
    show Steps p.tables e below (T7.setTop (mkF m 5 #[.val (.ref th), .val (.int (((((((((0 : Int32) <<< ((8 : Int32) &&& 31)) ||| (c4 &&& (255 : Int32))) <<< ((8 : Int32) &&& 31)) ||| (c5 &&& (255 : Int32))) <<< ((8 : Int32) &&& 31)) ||| (c6 &&& (255 : Int32))) <<< ((8 : Int32) &&& 31)) ||| (c7 &&& (255 : Int32)))), .val (.int (8 : Int32))] [(.int (8 : Int32))])) _
    refine XS.bipush X7.here hx rfl (hb hby own_d4_5) ?_
    show Steps p.tables e below (T7.setTop (mkF m 7 #[.val (.ref th), .val (.int (((((((((0 : Int32) <<< ((8 : Int32) &&& 31)) ||| (c4 &&& (255 : Int32))) <<< ((8 : Int32) &&& 31)) ||| (c5 &&& (255 : Int32))) <<< ((8 : Int32) &&& 31)) ||| (c6 &&& (255 : Int32))) <<< ((8 : Int32) &&& 31)) ||| (c7 &&& (255 : Int32)))), .val (.int (8 : Int32))] [(.int (8 : Int32)), (.int (8 : Int32))])) _
    refine XS.icmpYes X7.here hx rfl (pc0 := 7) (pc' := 32) rfl (hb hby own_d4_7) rfl (flt ((by decide) : ¬ ((8 : Int32) < (8 : Int32)))).2.1 (by decide) (by decide) ?_
    show Steps p.tables e below (T7.setTop (mkF m 32 #[.val (.ref th), .val (.int (((((((((0 : Int32) <<< ((8 : Int32) &&& 31)) ||| (c4 &&& (255 : Int32))) <<< ((8 : Int32) &&& 31)) ||| (c5 &&& (255 : Int32))) <<< ((8 : Int32) &&& 31)) ||| (c6 &&& (255 : Int32))) <<< ((8 : Int32) &&& 31)) ||| (c7 &&& (255 : Int32)))), .val (.int (8 : Int32))] [])) _
    refine XS.iloadN X7.here hx rfl (hb hby own_d4_32) rfl ?_
    exact kt
  refine own_ret X7 (v := some (.int (((((((((0 : Int32) <<< ((8 : Int32) &&& 31)) ||| (c4 &&& (255 : Int32))) <<< ((8 : Int32) &&& 31)) ||| (c5 &&& (255 : Int32))) <<< ((8 : Int32) &&& 31)) ||| (c6 &&& (255 : Int32))) <<< ((8 : Int32) &&& 31)) ||| (c7 &&& (255 : Int32))))) (fun h => by rw [Bd.returns] at h; cases h) hlk (by decide) (by decide) ?_ (fun fs hr => ?_)
  · show Q4 Z th rs kr c0 c1 c2 c3 c4 c5 c6 c7 h0 n0 (some (.int (((((((((0 : Int32) <<< ((8 : Int32) &&& 31)) ||| (c4 &&& (255 : Int32))) <<< ((8 : Int32) &&& 31)) ||| (c5 &&& (255 : Int32))) <<< ((8 : Int32) &&& 31)) ||| (c6 &&& (255 : Int32))) <<< ((8 : Int32) &&& 31)) ||| (c7 &&& (255 : Int32))))) T7.heap _
    rw [e7]
    exact ⟨rfl, N0, rfl⟩
  · show Steps p.tables e below (T7.setTop (mkF m 33 #[.val (.ref th), .val (.int (((((((((0 : Int32) <<< ((8 : Int32) &&& 31)) ||| (c4 &&& (255 : Int32))) <<< ((8 : Int32) &&& 31)) ||| (c5 &&& (255 : Int32))) <<< ((8 : Int32) &&& 31)) ||| (c6 &&& (255 : Int32))) <<< ((8 : Int32) &&& 31)) ||| (c7 &&& (255 : Int32)))), .val (.int (8 : Int32))] [(.int (((((((((0 : Int32) <<< ((8 : Int32) &&& 31)) ||| (c4 &&& (255 : Int32))) <<< ((8 : Int32) &&& 31)) ||| (c5 &&& (255 : Int32))) <<< ((8 : Int32) &&& 31)) ||| (c6 &&& (255 : Int32))) <<< ((8 : Int32) &&& 31)) ||| (c7 &&& (255 : Int32))))])) _
    exact retI X7 hx Bd.returns (hb hby own_d4_33) hr
theorem own_pd4 : parseMethodDescriptor "()I" = some ⟨[], some .int⟩ := by decide +kernel
theorem own_pd5 : parseMethodDescriptor "([BII[B[B[B)V" = some ⟨[(.array .byte), .int, .int, (.array .byte), (.array .byte), (.array .byte)], none⟩ := by decide +kernel
theorem own_d5_0 : decode prog_55_method_3_code 0 = .ok (.aload_n 2, 1) := by decide +kernel
theorem own_d5_1 : decode prog_55_method_3_code 1 = .ok (.invokevirtual 31, 3) := by decide +kernel
theorem own_d5_4 : decode prog_55_method_3_code 4 = .ok (.checkcast 32, 3) := by decide +kernel
theorem own_d5_7 : decode prog_55_method_3_code 7 = .ok (.astore_n 3, 1) := by decide +kernel
theorem own_d5_8 : decode prog_55_method_3_code 8 = .ok (.getstatic 55, 3) := by decide +kernel
theorem own_d5_11 : decode prog_55_method_3_code 11 = .ok (.aload_n 1, 1) := by decide +kernel
theorem own_d5_12 : decode prog_55_method_3_code 12 = .ok (.invokevirtual 61, 3) := by decide +kernel
theorem own_d5_15 : decode prog_55_method_3_code 15 = .ok (.iaload, 1) := by decide +kernel
theorem own_d5_16 : decode prog_55_method_3_code 16 = .ok (.tableswitch 32 1 4 #[42, 90, 100, 135], 32) := by decide +kernel
theorem own_d5_58 : decode prog_55_method_3_code 58 = .ok (.aload_n 3, 1) := by decide +kernel
theorem own_d5_59 : decode prog_55_method_3_code 59 = .ok (.arraylength, 1) := by decide +kernel
theorem own_d5_60 : decode prog_55_method_3_code 60 = .ok (.bipush 8, 2) := by decide +kernel
theorem own_d5_62 : decode prog_55_method_3_code 62 = .ok (.if_icmp .eq 13, 3) := by decide +kernel
theorem own_d5_75 : decode prog_55_method_3_code 75 = .ok (.new 15, 3) := by decide +kernel
theorem own_d5_78 : decode prog_55_method_3_code 78 = .ok (.dup, 1) := by decide +kernel
theorem own_d5_79 : decode prog_55_method_3_code 79 = .ok (.aload_n 0, 1) := by decide +kernel
theorem own_d5_80 : decode prog_55_method_3_code 80 = .ok (.getfield 37, 3) := by decide +kernel
theorem own_d5_83 : decode prog_55_method_3_code 83 = .ok (.aload_n 0, 1) := by decide +kernel
theorem own_d5_84 : decode prog_55_method_3_code 84 = .ok (.getfield 39, 3) := by decide +kernel
theorem own_d5_87 : decode prog_55_method_3_code 87 = .ok (.aload_n 0, 1) := by decide +kernel
theorem own_d5_88 : decode prog_55_method_3_code 88 = .ok (.getfield 43, 3) := by decide +kernel
theorem own_d5_91 : decode prog_55_method_3_code 91 = .ok (.aload_n 3, 1) := by decide +kernel
theorem own_d5_92 : decode prog_55_method_3_code 92 = .ok (.aload_n 0, 1) := by decide +kernel
theorem own_d5_93 : decode prog_55_method_3_code 93 = .ok (.getfield 49, 3) := by decide +kernel
theorem own_d5_96 : decode prog_55_method_3_code 96 = .ok (.aload_n 0, 1) := by decide +kernel
theorem own_d5_97 : decode prog_55_method_3_code 97 = .ok (.getfield 52, 3) := by decide +kernel
theorem own_d5_100 : decode prog_55_method_3_code 100 = .ok (.invokespecial 74, 3) := by decide +kernel
theorem own_d5_103 : decode prog_55_method_3_code 103 = .ok (.goto 80, 3) := by decide +kernel
theorem own_d5_183 : decode prog_55_method_3_code 183 = .ok (.areturn, 1) := by decide +kernel
theorem own_ef_rm5 (m : MethodId) (th : Addr) (bk : Addr) (mem : Addr) : entryFrame m #[(.ref th), (.ref bk), (.ref mem)] 4 = mkF m 0 #[.val (.ref th), .val (.ref bk), .val (.ref mem), .unset] [] := by first | (simp [entryFrame, mkF, argsToLocals, Value.category]; done) | rfl
def Q5 (Z : State) (th : Addr) (bk : Addr) (mem : Addr) (sm : Addr) (ks : ClassId) (km : ClassId) (x1 : Addr) (p2 : Int32) (p3 : Int32) (x3 : Addr) (x4 : Addr) (c0 : Int32) (c1 : Int32) (c2 : Int32) (c3 : Int32) (c4 : Int32) (c5 : Int32) (c6 : Int32) (c7 : Int32) (h0 : Heap) (n0 : Nat) (v : Option Value) (h : Heap) (L : List Loc) : Prop := ∃ (nt x2 : Addr) (kr : ClassId), v = some (.ref nt) ∧ Fr n0 L ∧ Keep h0 h [] ∧ Exa Z h nt "com/example/tagwire/tagwire/sim/Tag" ∧ Fld Z h nt "com/example/tagwire/tagwire/sim/Tag" "reserved" "[B" (.ref x2) ∧ Arv Z h x2 kr .byte (8 : Int32) [(.int c0), (.int c1), (.int c2), (.int c3), (.int c4), (.int c5), (.int c6), (.int c7)] (.int (0 : Int32))
set_option maxRecDepth 65536 in
set_option maxHeartbeats 40000000 in
theorem rm5 (l : Launch) (Z : State) (a0 : Array Value) (hw : ∀ d ∈ tables_1, d.before a0 Z = true) (ws : List Jvm.Cond) (th : Addr) (bk : Addr) (mem : Addr) (sm : Addr) (ks : ClassId) (km : ClassId) (x1 : Addr) (p2 : Int32) (p3 : Int32) (x3 : Addr) (x4 : Addr) (c0 : Int32) (c1 : Int32) (c2 : Int32) (c3 : Int32) (c4 : Int32) (c5 : Int32) (c6 : Int32) (c7 : Int32) (h0 : Heap) (n0 : Nat) (Z0 : n0 ≤ h0.size) (S_sm : Sta Z h0 "com/example/tagwire/tagwire/sim/Tag$1" "$SwitchMap$com$example$tagwire$tagwire$gen2$MemoryBank" "[I" (.ref sm)) (Vsm : Arv Z h0 sm ks .int (4 : Int32) [(.int (1 : Int32)), (.int (2 : Int32)), (.int (3 : Int32)), (.int (4 : Int32))] (.int (0 : Int32))) (Ebk : Exa Z h0 bk "com/example/tagwire/tagwire/gen2/MemoryBank") (Fbk : Fld Z h0 bk "java/lang/Enum" "ordinal" "I" (.int (0 : Int32))) (Vm : Arv Z h0 mem km .byte (8 : Int32) [(.int c0), (.int c1), (.int c2), (.int c3), (.int c4), (.int c5), (.int c6), (.int c7)] (.int (0 : Int32))) (Em : Exa Z h0 mem "[B") (F_epc : Fld Z h0 th "com/example/tagwire/tagwire/sim/Tag" "epc" "[B" (.ref x1)) (F_pc : Fld Z h0 th "com/example/tagwire/tagwire/sim/Tag" "pc" "I" (.int p2)) (F_rssi : Fld Z h0 th "com/example/tagwire/tagwire/sim/Tag" "rssi" "I" (.int p3)) (F_tid : Fld Z h0 th "com/example/tagwire/tagwire/sim/Tag" "tid" "[B" (.ref x3)) (F_user : Fld Z h0 th "com/example/tagwire/tagwire/sim/Tag" "user" "[B" (.ref x4)) :
    MetFree l (⟨"com/example/tagwire/tagwire/sim/Tag", "withMemory", "(Lcom/example/tagwire/tagwire/gen2/MemoryBank;[B)Lcom/example/tagwire/tagwire/sim/Tag;"⟩ : MethodName) (head1 (Jvm.Cond.code (⟨"com/example/tagwire/tagwire/sim/Tag", "withMemory", "(Lcom/example/tagwire/tagwire/gen2/MemoryBank;[B)Lcom/example/tagwire/tagwire/sim/Tag;"⟩ : MethodName) prog_55_method_3_code 4 (some (.object "com/example/tagwire/tagwire/sim/Tag")) :: ws) ({ frames := 2, cells := 2, slots := 14, locals := 31 } : Room)) (fun a U => a = #[(.ref th), (.ref bk), (.ref mem)] ∧ Z.Warmed39 U.vm ∧ U.heap = h0) (fun _ _ _ _ _ => True) (fun _ U o U' => ∃ v L, o = .returned v ∧ Q5 Z th bk mem sm ks km x1 p2 p3 x3 x4 c0 c1 c2 c3 c4 c5 c6 c7 h0 n0 v U'.heap L ∧ FrameEnd U o U' L ({ frames := 2, cells := 2, slots := 14, locals := 31 } : Room).cells ({ frames := 2, cells := 2, slots := 14, locals := 31 } : Room).slots) := by
  refine MetFree.of_bodySF (plainFor_of_name own_pn2) hisR ?_
  intro p e s m args below meth c s₁ Bd hml0 hP hK
  obtain ⟨rfl, hZ, hh⟩ := hP
  have hx := Bd.exec
  have hby := Bd.bytes
  have hml : c.maxLocals = 4 := hml0
  have hown : s.vm.findClass "com/example/tagwire/tagwire/sim/Tag" = some m.cls := findClass_of_methodNamed Bd.named
  have hnm := (name_of_methodNamed Bd.named Bd.method).1
  have hlk : meth.locks = false := BodyLoose.notSynchronized Bd
  have X0 : Stand p l e ({ frames := 2, cells := 2, slots := 14, locals := 31 } : Room) s m #[(.ref th), (.ref bk), (.ref mem)] below meth c s₁ [] 0 0 := Stand.of_body Bd
  have e0 : s₁.heap = h0 := by rw [← hh, Bd.state]; rfl
  have N0 := Fr.nil n0
  show own_Gl FrameEnd p e below s (Q5 Z th bk mem sm ks km x1 p2 p3 x3 x4 c0 c1 c2 c3 c4 c5 c6 c7 h0 n0) ({ frames := 2, cells := 2, slots := 14, locals := 31 } : Room).cells ({ frames := 2, cells := 2, slots := 14, locals := 31 } : Room).slots (s₁.setTop (entryFrame m #[(.ref th), (.ref bk), (.ref mem)] 4))
  rw [own_ef_rm5 m th bk mem]
  refine own_st (A' := s₁.setTop (mkF m 1 #[.val (.ref th), .val (.ref bk), .val (.ref mem), .unset] [(.ref mem)])) (fun tg kt => ?_) ?_
  · show Steps p.tables e below (s₁.setTop (mkF m 0 #[.val (.ref th), .val (.ref bk), .val (.ref mem), .unset] [])) _
    refine XS.aloadN X0.here hx rfl (hb hby own_d5_0) rfl rfl ?_
    exact kt
  obtain ⟨T1, h1, X1, e1, E1, A1, B1, st1⟩ := cloneH X0 hx hZ hown (hw _ (List.mem_of_getElem? (i := 23) rfl)) (hw _ (List.mem_of_getElem? (i := 24) rfl)) (hw _ (List.mem_of_getElem? (i := 28) rfl)) (hw _ (List.mem_of_getElem? (i := 26) rfl)) (hw _ (List.mem_of_getElem? (i := 27) rfl)) (hw _ (List.mem_of_getElem? (i := 29) rfl)) e0 (Arv.arh Vm) Em (g := (mkF m 1 #[.val (.ref th), .val (.ref bk), .val (.ref mem), .unset] [(.ref mem)])) rfl (by rw [hml]; rfl) rfl (hb hby own_d5_1) (by decide) (W := 0) (by show 2 * 0 + _ ≤ _; exact Nat.le_of_eq rfl) (by decide) (cap := 8) (by decide) (by decide) (by decide)
  obtain ⟨b1, g1⟩ : ∃ z, z = h0.size := ⟨_, rfl⟩
  rw [← g1] at A1 B1 st1
  have g_b1 : n0 ≤ b1 := Nat.le_trans Z0 (Nat.le_of_eq g1.symm)
  have kw_b1 : h0.size ≤ b1 := Nat.le_trans ((Keep.refl h0 ([] : List Addr))).1 (Nat.le_of_eq g1.symm)
  have ne_mem_b1 : mem ≠ b1 := Nat.ne_of_lt (Nat.lt_of_lt_of_le Vm.lt (Nat.le_of_eq g1.symm))
  have ne_bk_b1 : bk ≠ b1 := Nat.ne_of_lt (Nat.lt_of_lt_of_le Ebk.lt (Nat.le_of_eq g1.symm))
  have ne_sm_b1 : sm ≠ b1 := Nat.ne_of_lt (Nat.lt_of_lt_of_le Vsm.lt (Nat.le_of_eq g1.symm))
  have ne_th_b1 : th ≠ b1 := Nat.ne_of_lt (Nat.lt_of_lt_of_le F_epc.lt (Nat.le_of_eq g1.symm))
  have K1 := ((Keep.refl h0 ([] : List Addr))).ext E1
  have Z1 : n0 ≤ h1.size := Nat.le_trans Z0 E1.1
  have V_b1 : Arv Z h1 b1 km .byte (8 : Int32) [(.int c0), (.int c1), (.int c2), (.int c3), (.int c4), (.int c5), (.int c6), (.int c7)] (.int (0 : Int32)) := A1
  refine own_st st1 ?_
  show own_Gl _ _ _ _ _ _ _ _ (T1.setTop (mkF m 4 #[.val (.ref th), .val (.ref bk), .val (.ref mem), .unset] [(.ref b1)]))
  obtain ⟨T2, X2, e2, st2⟩ := castY X1 hx hZ hown (hw _ (List.mem_of_getElem? (i := 30) rfl)) e1 (Ins.self B1) (g := (mkF m 4 #[.val (.ref th), .val (.ref bk), .val (.ref mem), .unset] [(.ref b1)])) rfl rfl (hb hby own_d5_4)
  refine own_st st2 ?_
  show own_Gl _ _ _ _ _ _ _ _ (T2.setTop (mkF m 7 #[.val (.ref th), .val (.ref bk), .val (.ref mem), .unset] [(.ref b1)]))
  refine own_st (A' := T2.setTop (mkF m 8 #[.val (.ref th), .val (.ref bk), .val (.ref mem), .val (.ref b1)] [])) (fun tg kt => ?_) ?_
  · show Steps p.tables e below (T2.setTop (mkF m 7 #[.val (.ref th), .val (.ref bk), .val (.ref mem), .unset] [(.ref b1)])) _
    refine XS.astoreN X2.here hx rfl (hb hby own_d5_7) rfl rfl (l' := #[.val (.ref th), .val (.ref bk), .val (.ref mem), .val (.ref b1)]) rfl ?_
    exact kt
  obtain ⟨T3, X3, e3, st3⟩ := getS2 X2 hx hZ hown (host := "") (Or.inl (hw _ (List.mem_of_getElem? (i := 57) rfl))) Via.refl e2 (S_sm.ext (own_kext K1)) (g := (mkF m 8 #[.val (.ref th), .val (.ref bk), .val (.ref mem), .val (.ref b1)] [])) rfl (hb hby own_d5_8)
  refine own_st st3 ?_
  show own_Gl _ _ _ _ _ _ _ _ (T3.setTop (mkF m 11 #[.val (.ref th), .val (.ref bk), .val (.ref mem), .val (.ref b1)] [(.ref sm)]))
  refine own_st (A' := T3.setTop (mkF m 12 #[.val (.ref th), .val (.ref bk), .val (.ref mem), .val (.ref b1)] [(.ref bk), (.ref sm)])) (fun tg kt => ?_) ?_
  · show Steps p.tables e below (T3.setTop (mkF m 11 #[.val (.ref th), .val (.ref bk), .val (.ref mem), .val (.ref b1)] [(.ref sm)])) _
    refine XS.aloadN X3.here hx rfl (hb hby own_d5_11) rfl rfl ?_
    exact kt
  obtain ⟨cq4, kq4, q4a, q4b, q4c⟩ := isOf hZ e3 (Ebk.ext E1)
  obtain ⟨_, _, ⟨T4, L4, k4, n4⟩, -, X4, ⟨Lc4, hQ4, l4, y4, z4⟩, st4⟩ := X3.virtualBackUp hx (x := (⟨"com/example/tagwire/tagwire/gen2/MemoryBank", "ordinal", "()I"⟩ : MethodName)) (y := (⟨"java/lang/Enum", "ordinal", "()I"⟩ : MethodName)) (owner := "java/lang/Enum") hown (mvT hZ (hw _ (List.mem_of_getElem? (i := 60) rfl))) (mvT hZ (hw _ (List.mem_of_getElem? (i := 61) rfl))) (mvT hZ (hw _ (List.mem_of_getElem? (i := 62) rfl))) (by decide) (mvT hZ (hw _ (List.mem_of_getElem? (i := 64) rfl))) (mvT hZ (hw _ (List.mem_of_getElem? (i := 63) rfl))) (backOf (W := 1) (rm6 l Z a0 hw [] bk (0 : Int32) h1 n0 Z1 (Fbk.ext E1)) hZ (hw _ (List.mem_of_getElem? (i := 66) rfl)) (hw _ (List.mem_of_getElem? (i := 65) rfl)) (by decide) (by decide)) q4a q4c (g := (mkF m 12 #[.val (.ref th), .val (.ref bk), .val (.ref mem), .val (.ref b1)] [(.ref bk), (.ref sm)])) rfl (by rw [hml]; rfl) (Steps.refl _) (argsL := []) (rest := [(.ref sm)]) (lenOf own_pd4 rfl) rfl (by show 2 * 0 + _ ≤ _; exact Nat.le_of_eq rfl) (hb hby own_d5_12) (fun _ _ => ⟨rfl, e3, (by decide : 1 + 0 ≤ _), (by decide : 8 + 0 ≤ _)⟩)
  dsimp only [Pt.U, Pt.locs, Pt.cells, Pt.slots] at X4 l4 y4 z4 st4 hQ4
  subst l4 y4 z4
  obtain ⟨rfl, Nq4, eq4⟩ := hQ4
  have N4 := Fr.app N0 Nq4
  refine own_tr st4 ?_
  show own_Gl _ _ _ _ _ _ _ _ (T4.setTop (mkF m 15 #[.val (.ref th), .val (.ref bk), .val (.ref mem), .val (.ref b1)] [(.int (0 : Int32)), (.ref sm)]))
  have Vt5 := (Vsm.ext E1)
  obtain ⟨cl5, Ar5, -, Sz5, -, Hs5, -⟩ := Vt5
  have hin5 := inb_of (j := (0 : Int32)) Sz5 ⟨by decide, by decide⟩
  have hat5 : cl5.slots[((0 : Int32)).toNatClampNeg]? = some (.int (1 : Int32)) := Hs5.at hin5 rfl
  refine own_st (A' := T4.setTop (mkF m 59 #[.val (.ref th), .val (.ref bk), .val (.ref mem), .val (.ref b1)] [(.ref b1)])) (fun tg kt => ?_) ?_
  · show Steps p.tables e below (T4.setTop (mkF m 15 #[.val (.ref th), .val (.ref bk), .val (.ref mem), .val (.ref b1)] [(.int (0 : Int32)), (.ref sm)])) _
    refine X4.iaload hx (j := (0 : Int32)) (v := (.int (1 : Int32))) (own_at_heap eq4 Ar5.1) (State.isArrayOf_alike hZ.alike Ar5.2.1) Ar5.2.2 hin5 hat5 (g := (mkF m 15 #[.val (.ref th), .val (.ref bk), .val (.ref mem), .val (.ref b1)] [(.int (0 : Int32)), (.ref sm)])) rfl rfl (hb hby own_d5_15) _ ?_
    show Steps p.tables e below (T4.setTop (mkF m 16 #[.val (.ref th), .val (.ref bk), .val (.ref mem), .val (.ref b1)] [(.int (1 : Int32))])) _
    refine XS.tswIn X4.here hx rfl (pc0 := 16) (pc' := 58) rfl (hb hby own_d5_16) rfl (by decide) (o := 42) (by decide) (by decide) (by decide) ?_
    show Steps p.tables e below (T4.setTop (mkF m 58 #[.val (.ref th), .val (.ref bk), .val (.ref mem), .val (.ref b1)] [])) _
    refine XS.aloadN X4.here hx rfl (hb hby own_d5_58) rfl rfl ?_
    exact kt
  have Vt6 := V_b1
  obtain ⟨cl6, Ar6, -, Sz6, Nn6, -, -⟩ := Vt6
  refine own_st (A' := T4.setTop (mkF m 75 #[.val (.ref th), .val (.ref bk), .val (.ref mem), .val (.ref b1)] [])) (fun tg kt => ?_) ?_
  · show Steps p.tables e below (T4.setTop (mkF m 59 #[.val (.ref th), .val (.ref bk), .val (.ref mem), .val (.ref b1)] [(.ref b1)])) _
    refine X4.arraylength hx (own_at_heap eq4 Ar6.1) (State.isArrayOf_alike hZ.alike Ar6.2.1) (g := (mkF m 59 #[.val (.ref th), .val (.ref bk), .val (.ref mem), .val (.ref b1)] [(.ref b1)])) rfl rfl (hb hby own_d5_59) _ ?_
    rw [len_of Sz6 Nn6]
    show Steps p.tables e below (T4.setTop (mkF m 60 #[.val (.ref th), .val (.ref bk), .val (.ref mem), .val (.ref b1)] [(.int (8 : Int32))])) _
    refine XS.bipush X4.here hx rfl (hb hby own_d5_60) ?_
    show Steps p.tables e below (T4.setTop (mkF m 62 #[.val (.ref th), .val (.ref bk), .val (.ref mem), .val (.ref b1)] [(.int (8 : Int32)), (.int (8 : Int32))])) _
    refine XS.icmpYes X4.here hx rfl (pc0 := 62) (pc' := 75) rfl (hb hby own_d5_62) rfl (teq ((by decide) : (8 : Int32) = (8 : Int32))).1 (by decide) (by decide) ?_
    exact kt
  obtain ⟨T7, h7, X7, e7, E7, A7, D7, -, st7⟩ := newO X4 hx hZ hown (hw _ (List.mem_of_getElem? (i := 69) rfl)) (hw _ (List.mem_of_getElem? (i := 2) rfl)) (hw _ (List.mem_of_getElem? (i := 3) rfl)) eq4 (g := (mkF m 75 #[.val (.ref th), .val (.ref bk), .val (.ref mem), .val (.ref b1)] [])) rfl (hb hby own_d5_75) (by decide) (by decide)
  obtain ⟨b7, g7⟩ : ∃ z, z = h1.size := ⟨_, rfl⟩
  rw [← g7] at A7 D7 st7
  have g_b7 : n0 ≤ b7 := Nat.le_trans Z1 (Nat.le_of_eq g7.symm)
  have kw_b7 : h0.size ≤ b7 := Nat.le_trans (K1).1 (Nat.le_of_eq g7.symm)
  have ne_mem_b7 : mem ≠ b7 := Nat.ne_of_lt (Nat.lt_of_lt_of_le (Vm.ext E1).lt (Nat.le_of_eq g7.symm))
  have ne_bk_b7 : bk ≠ b7 := Nat.ne_of_lt (Nat.lt_of_lt_of_le (Ebk.ext E1).lt (Nat.le_of_eq g7.symm))
  have ne_sm_b7 : sm ≠ b7 := Nat.ne_of_lt (Nat.lt_of_lt_of_le (Vsm.ext E1).lt (Nat.le_of_eq g7.symm))
  have ne_th_b7 : th ≠ b7 := Nat.ne_of_lt (Nat.lt_of_lt_of_le (F_epc.ext E1).lt (Nat.le_of_eq g7.symm))
  have ne_b1_b7 : b1 ≠ b7 := Nat.ne_of_lt (Nat.lt_of_lt_of_le V_b1.lt (Nat.le_of_eq g7.symm))
  have K7 := (K1).ext E7
  have Z7 : n0 ≤ h7.size := Nat.le_trans Z1 E7.1
  have F_epc_b7 : Fld Z h7 b7 "com/example/tagwire/tagwire/sim/Tag" "epc" "[B" .null := D7 (Or.inr (hw _ (List.mem_of_getElem? (i := 33) rfl))) (ty := (.array .byte)) (by decide)
  have F_pc_b7 : Fld Z h7 b7 "com/example/tagwire/tagwire/sim/Tag" "pc" "I" (.int (0 : Int32)) := D7 (Or.inr (hw _ (List.mem_of_getElem? (i := 35) rfl))) (ty := .int) (by decide)
  have F_rssi_b7 : Fld Z h7 b7 "com/example/tagwire/tagwire/sim/Tag" "rssi" "I" (.int (0 : Int32)) := D7 (Or.inr (hw _ (List.mem_of_getElem? (i := 37) rfl))) (ty := .int) (by decide)
  have F_reserved_b7 : Fld Z h7 b7 "com/example/tagwire/tagwire/sim/Tag" "reserved" "[B" .null := D7 (Or.inr (hw _ (List.mem_of_getElem? (i := 39) rfl))) (ty := (.array .byte)) (by decide)
  have F_tid_b7 : Fld Z h7 b7 "com/example/tagwire/tagwire/sim/Tag" "tid" "[B" .null := D7 (Or.inr (hw _ (List.mem_of_getElem? (i := 41) rfl))) (ty := (.array .byte)) (by decide)
  have F_user_b7 : Fld Z h7 b7 "com/example/tagwire/tagwire/sim/Tag" "user" "[B" .null := D7 (Or.inr (hw _ (List.mem_of_getElem? (i := 43) rfl))) (ty := (.array .byte)) (by decide)
  refine own_st st7 ?_
  show own_Gl _ _ _ _ _ _ _ _ (T7.setTop (mkF m 78 #[.val (.ref th), .val (.ref bk), .val (.ref mem), .val (.ref b1)] [(.ref b7)]))
  refine own_st (A' := T7.setTop (mkF m 80 #[.val (.ref th), .val (.ref bk), .val (.ref mem), .val (.ref b1)] [(.ref th), (.ref b7), (.ref b7)])) (fun tg kt => ?_) ?_
  · show Steps p.tables e below (T7.setTop (mkF m 78 #[.val (.ref th), .val (.ref bk), .val (.ref mem), .val (.ref b1)] [(.ref b7)])) _
    refine XS.dup X7.here hx rfl (hb hby own_d5_78) rfl rfl ?_
    show Steps p.tables e below (T7.setTop (mkF m 79 #[.val (.ref th), .val (.ref bk), .val (.ref mem), .val (.ref b1)] [(.ref b7), (.ref b7)])) _
    refine XS.aloadN X7.here hx rfl (hb hby own_d5_79) rfl rfl ?_
    exact kt
  obtain ⟨T8, X8, e8, st8⟩ := getF X7 hx hZ hown (host := "") (Or.inl (hw _ (List.mem_of_getElem? (i := 32) rfl))) Via.refl e7 ((F_epc.ext E1).ext E7) (g := (mkF m 80 #[.val (.ref th), .val (.ref bk), .val (.ref mem), .val (.ref b1)] [(.ref th), (.ref b7), (.ref b7)])) rfl rfl (hb hby own_d5_80)
  refine own_st st8 ?_
  show own_Gl _ _ _ _ _ _ _ _ (T8.setTop (mkF m 83 #[.val (.ref th), .val (.ref bk), .val (.ref mem), .val (.ref b1)] [(.ref x1), (.ref b7), (.ref b7)]))
  refine own_st (A' := T8.setTop (mkF m 84 #[.val (.ref th), .val (.ref bk), .val (.ref mem), .val (.ref b1)] [(.ref th), (.ref x1), (.ref b7), (.ref b7)])) (fun tg kt => ?_) ?_
  · show Steps p.tables e below (T8.setTop (mkF m 83 #[.val (.ref th), .val (.ref bk), .val (.ref mem), .val (.ref b1)] [(.ref x1), (.ref b7), (.ref b7)])) _
    refine XS.aloadN X8.here hx rfl (hb hby own_d5_83) rfl rfl ?_
    exact kt
  obtain ⟨T9, X9, e9, st9⟩ := getF X8 hx hZ hown (host := "") (Or.inl (hw _ (List.mem_of_getElem? (i := 34) rfl))) Via.refl e8 ((F_pc.ext E1).ext E7) (g := (mkF m 84 #[.val (.ref th), .val (.ref bk), .val (.ref mem), .val (.ref b1)] [(.ref th), (.ref x1), (.ref b7), (.ref b7)])) rfl rfl (hb hby own_d5_84)
  refine own_st st9 ?_
  show own_Gl _ _ _ _ _ _ _ _ (T9.setTop (mkF m 87 #[.val (.ref th), .val (.ref bk), .val (.ref mem), .val (.ref b1)] [(.int p2), (.ref x1), (.ref b7), (.ref b7)]))
  refine own_st (A' := T9.setTop (mkF m 88 #[.val (.ref th), .val (.ref bk), .val (.ref mem), .val (.ref b1)] [(.ref th), (.int p2), (.ref x1), (.ref b7), (.ref b7)])) (fun tg kt => ?_) ?_
  · show Steps p.tables e below (T9.setTop (mkF m 87 #[.val (.ref th), .val (.ref bk), .val (.ref mem), .val (.ref b1)] [(.int p2), (.ref x1), (.ref b7), (.ref b7)])) _
    refine XS.aloadN X9.here hx rfl (hb hby own_d5_87) rfl rfl ?_
    exact kt
  obtain ⟨T10, X10, e10, st10⟩ := getF X9 hx hZ hown (host := "") (Or.inl (hw _ (List.mem_of_getElem? (i := 36) rfl))) Via.refl e9 ((F_rssi.ext E1).ext E7) (g := (mkF m 88 #[.val (.ref th), .val (.ref bk), .val (.ref mem), .val (.ref b1)] [(.ref th), (.int p2), (.ref x1), (.ref b7), (.ref b7)])) rfl rfl (hb hby own_d5_88)
  refine own_st st10 ?_
  show own_Gl _ _ _ _ _ _ _ _ (T10.setTop (mkF m 91 #[.val (.ref th), .val (.ref bk), .val (.ref mem), .val (.ref b1)] [(.int p3), (.int p2), (.ref x1), (.ref b7), (.ref b7)]))
  refine own_st (A' := T10.setTop (mkF m 93 #[.val (.ref th), .val (.ref bk), .val (.ref mem), .val (.ref b1)] [(.ref th), (.ref b1), (.int p3), (.int p2), (.ref x1), (.ref b7), (.ref b7)])) (fun tg kt => ?_) ?_
  · show Steps p.tables e below (T10.setTop (mkF m 91 #[.val (.ref th), .val (.ref bk), .val (.ref mem), .val (.ref b1)] [(.int p3), (.int p2), (.ref x1), (.ref b7), (.ref b7)])) _
    refine XS.aloadN X10.here hx rfl (hb hby own_d5_91) rfl rfl ?_
    show Steps p.tables e below (T10.setTop (mkF m 92 #[.val (.ref th), .val (.ref bk), .val (.ref mem), .val (.ref b1)] [(.ref b1), (.int p3), (.int p2), (.ref x1), (.ref b7), (.ref b7)])) _
    refine XS.aloadN X10.here hx rfl (hb hby own_d5_92) rfl rfl ?_
    exact kt
  obtain ⟨T11, X11, e11, st11⟩ := getF X10 hx hZ hown (host := "") (Or.inl (hw _ (List.mem_of_getElem? (i := 40) rfl))) Via.refl e10 ((F_tid.ext E1).ext E7) (g := (mkF m 93 #[.val (.ref th), .val (.ref bk), .val (.ref mem), .val (.ref b1)] [(.ref th), (.ref b1), (.int p3), (.int p2), (.ref x1), (.ref b7), (.ref b7)])) rfl rfl (hb hby own_d5_93)
  refine own_st st11 ?_
  show own_Gl _ _ _ _ _ _ _ _ (T11.setTop (mkF m 96 #[.val (.ref th), .val (.ref bk), .val (.ref mem), .val (.ref b1)] [(.ref x3), (.ref b1), (.int p3), (.int p2), (.ref x1), (.ref b7), (.ref b7)]))
  refine own_st (A' := T11.setTop (mkF m 97 #[.val (.ref th), .val (.ref bk), .val (.ref mem), .val (.ref b1)] [(.ref th), (.ref x3), (.ref b1), (.int p3), (.int p2), (.ref x1), (.ref b7), (.ref b7)])) (fun tg kt => ?_) ?_
  · show Steps p.tables e below (T11.setTop (mkF m 96 #[.val (.ref th), .val (.ref bk), .val (.ref mem), .val (.ref b1)] [(.ref x3), (.ref b1), (.int p3), (.int p2), (.ref x1), (.ref b7), (.ref b7)])) _
    refine XS.aloadN X11.here hx rfl (hb hby own_d5_96) rfl rfl ?_
    exact kt
  obtain ⟨T12, X12, e12, st12⟩ := getF X11 hx hZ hown (host := "") (Or.inl (hw _ (List.mem_of_getElem? (i := 42) rfl))) Via.refl e11 ((F_user.ext E1).ext E7) (g := (mkF m 97 #[.val (.ref th), .val (.ref bk), .val (.ref mem), .val (.ref b1)] [(.ref th), (.ref x3), (.ref b1), (.int p3), (.int p2), (.ref x1), (.ref b7), (.ref b7)])) rfl rfl (hb hby own_d5_97)
  refine own_st st12 ?_
  show own_Gl _ _ _ _ _ _ _ _ (T12.setTop (mkF m 100 #[.val (.ref th), .val (.ref bk), .val (.ref mem), .val (.ref b1)] [(.ref x4), (.ref x3), (.ref b1), (.int p3), (.int p2), (.ref x1), (.ref b7), (.ref b7)]))
  obtain ⟨_, _, ⟨T13, L13, k13, n13⟩, -, X13, ⟨Lc13, hQ13, l13, y13, z13⟩, st13⟩ := X12.specialBack hx (y := (⟨"com/example/tagwire/tagwire/sim/Tag", "<init>", "([BII[B[B[B)V"⟩ : MethodName)) rfl hown (mvT hZ (hw _ (List.mem_of_getElem? (i := 70) rfl))) (mvT hZ (hw _ (List.mem_of_getElem? (i := 71) rfl))) (mvT hZ (hw _ (List.mem_of_getElem? (i := 72) rfl))) (by decide) (backOf (W := 1) (rm7 l Z a0 hw [] b7 x1 p2 p3 b1 x3 x4 h7 n0 Z7 F_epc_b7 F_pc_b7 F_rssi_b7 F_reserved_b7 F_tid_b7 F_user_b7 A7 g_b7) hZ (hw _ (List.mem_of_getElem? (i := 72) rfl)) (hw _ (List.mem_of_getElem? (i := 3) rfl)) (by decide) (by decide)) (g := (mkF m 100 #[.val (.ref th), .val (.ref bk), .val (.ref mem), .val (.ref b1)] [(.ref x4), (.ref x3), (.ref b1), (.int p3), (.int p2), (.ref x1), (.ref b7), (.ref b7)])) rfl (by rw [hml]; rfl) (Steps.refl _) (a := b7) (argsL := [(.ref x1), (.int p2), (.int p3), (.ref b1), (.ref x3), (.ref x4)]) (rest := [(.ref b7)]) (lenOf own_pd5 rfl) rfl (by show 2 * 0 + _ ≤ _; exact Nat.le_of_eq rfl) (hb hby own_d5_100) (fun _ _ => ⟨rfl, e12, (by decide : 2 + 0 ≤ _), (by decide : 14 + 0 ≤ _)⟩)
  dsimp only [Pt.U, Pt.locs, Pt.cells, Pt.slots] at X13 l13 y13 z13 st13 hQ13
  subst l13 y13 z13
  obtain ⟨rfl, Nq13, Kq13, Eq13, Fq13⟩ := hQ13
  have N13 := Fr.app N4 Nq13
  have K13 := (K7).trans Kq13 (allS (Or.inr kw_b7) all0)
  have Z13 : n0 ≤ T13.heap.size := Nat.le_trans Z7 Kq13.1
  refine own_tr st13 ?_
  show own_Gl _ _ _ _ _ _ _ _ (T13.setTop (mkF m 103 #[.val (.ref th), .val (.ref bk), .val (.ref mem), .val (.ref b1)] [(.ref b7)]))
  refine own_st (A' := T13.setTop (mkF m 183 #[.val (.ref th), .val (.ref bk), .val (.ref mem), .val (.ref b1)] [(.ref b7)])) (fun tg kt => ?_) ?_
  · show Steps p.tables e below (T13.setTop (mkF m 103 #[.val (.ref th), .val (.ref bk), .val (.ref mem), .val (.ref b1)] [(.ref b7)])) _
    refine XS.goto X13.here hx rfl (pc0 := 103) (pc' := 183) rfl (hb hby own_d5_103) (by decide) (by decide) ?_
    exact kt
  refine own_ret X13 (v := some (.ref b7)) (fun h => by rw [Bd.returns] at h; cases h) hlk (by decide) (by decide) ?_ (fun fs hr => ?_)
  · show Q5 Z th bk mem sm ks km x1 p2 p3 x3 x4 c0 c1 c2 c3 c4 c5 c6 c7 h0 n0 (some (.ref b7)) T13.heap _
    exact ⟨b7, b1, km, rfl, N13, K13, Eq13, Fq13, ((V_b1.ext E7).keep Kq13 (ninS ne_b1_b7 nin0))⟩
  · show Steps p.tables e below (T13.setTop (mkF m 183 #[.val (.ref th), .val (.ref bk), .val (.ref mem), .val (.ref b1)] [(.ref b7)])) _
    jvm_step X13.here [X13.here.top, hx, (hb hby own_d5_183), X13.method', Bd.returns, Value.isRef, FieldType.isReference]
    first | (intro acts; rw [hr _ acts rfl rfl rfl]) | rw [hr _ _ rfl rfl rfl]
    exact Steps.refl _
theorem own_pd6 : parseMethodDescriptor "([BII)V" = some ⟨[(.array .byte), .int, .int], none⟩ := by decide +kernel
theorem own_pd7 : parseMethodDescriptor "(Lcom/example/tagwire/tagwire/gen2/MemoryBank;[B)Lcom/example/tagwire/tagwire/sim/Tag;" = some ⟨[(.object "com/example/tagwire/tagwire/gen2/MemoryBank"), (.array .byte)], some (.object "com/example/tagwire/tagwire/sim/Tag")⟩ := by decide +kernel
theorem own_ef_rm0 (m : MethodId) (p0 : Int32) (p1 : Int32) (p2 : Int32) (p3 : Int32) (p4 : Int32) : entryFrame m #[(.int p0), (.int p1), (.int p2), (.int p3), (.int p4)] maxLocals = mkF m 0 #[.val (.int p0), .val (.int p1), .val (.int p2), .val (.int p3), .val (.int p4), .unset, .unset, .unset, .unset] [] := by first | (simp [entryFrame, mkF, argsToLocals, Value.category, maxLocals]; done) | rfl
theorem own_pn8 : plainName "com/example/tagwire/tagwire/sim/TagAccessPasswordPinLaw" = true := by first | (simp [plainName, overriddenIn]; done) | decide +kernel
def Q0 (Z : State) (p0 : Int32) (p1 : Int32) (p2 : Int32) (p3 : Int32) (p4 : Int32) (a_RESERVED : Addr) (sm : Addr) (ks : ClassId) (h0 : Heap) (n0 : Nat) (v : Option Value) (h : Heap) (L : List Loc) : Prop := v = some (.int 1) ∧ Fr n0 L
set_option maxRecDepth 65536 in
set_option maxHeartbeats 40000000 in
theorem rm0 (l : Launch) (Z : State) (a0 : Array Value) (hw : ∀ d ∈ tables_1, d.before a0 Z = true) (ws : List Jvm.Cond) (p0 : Int32) (p1 : Int32) (p2 : Int32) (p3 : Int32) (p4 : Int32) (a_RESERVED : Addr) (sm : Addr) (ks : ClassId) (h0 : Heap) (n0 : Nat) (Z0 : n0 ≤ h0.size) (S_RESERVED : Sta Z h0 "com/example/tagwire/tagwire/gen2/MemoryBank" "RESERVED" "Lcom/example/tagwire/tagwire/gen2/MemoryBank;" (.ref a_RESERVED)) (E_RESERVED : Exa Z h0 a_RESERVED "com/example/tagwire/tagwire/gen2/MemoryBank") (F_RESERVED_ordinal : Fld Z h0 a_RESERVED "java/lang/Enum" "ordinal" "I" (.int (0 : Int32))) (S_sm : Sta Z h0 "com/example/tagwire/tagwire/sim/Tag$1" "$SwitchMap$com$example$tagwire$tagwire$gen2$MemoryBank" "[I" (.ref sm)) (Vsm : Arv Z h0 sm ks .int (4 : Int32) [(.int (1 : Int32)), (.int (2 : Int32)), (.int (3 : Int32)), (.int (4 : Int32))] (.int (0 : Int32))) :
    MetFree l x (head1 (Jvm.Cond.code x code maxLocals ret :: ws) room_1) (fun a U => a = #[(.int p0), (.int p1), (.int p2), (.int p3), (.int p4)] ∧ Z.Warmed39 U.vm ∧ U.heap = h0) (fun _ _ _ _ _ => True) (fun _ U o U' => ∃ v L, o = .returned v ∧ Q0 Z p0 p1 p2 p3 p4 a_RESERVED sm ks h0 n0 v U'.heap L ∧ ReturnedEndW U o U' L room_1.cells room_1.slots) := by
  refine MetFree.of_bodySF (plainFor_of_name own_pn8) hisR ?_
  intro p e s m args below meth c s₁ Bd hml0 hP hK
  obtain ⟨rfl, hZ, hh⟩ := hP
  have hx := Bd.exec
  have hby := Bd.bytes
  have hml : c.maxLocals = 9 := hml0
  have hown : s.vm.findClass "com/example/tagwire/tagwire/sim/TagAccessPasswordPinLaw" = some m.cls := findClass_of_methodNamed Bd.named
  have hnm := (name_of_methodNamed Bd.named Bd.method).1
  have hlk : meth.locks = false := BodyLoose.notSynchronized Bd
  have X0 : Stand p l e room_1 (s.setVm s.vm) m #[(.int p0), (.int p1), (.int p2), (.int p3), (.int p4)] below meth c s₁ [] 0 0 := Stand.of_body Bd
  have e0 : s₁.heap = h0 := by rw [← hh, Bd.state]; rfl
  have N0 := Fr.nil n0
  show own_Gl ReturnedEndW p e below s (Q0 Z p0 p1 p2 p3 p4 a_RESERVED sm ks h0 n0) room_1.cells room_1.slots (s₁.setTop (entryFrame m #[(.int p0), (.int p1), (.int p2), (.int p3), (.int p4)] maxLocals))
  rw [own_ef_rm0 m p0 p1 p2 p3 p4]
  have hS0 : s.Since s.vm 0 := State.WarmedH.since (State.WarmedH.refl s) 0
  have hk0 : 0 ≤ h0.size := Nat.zero_le _
  refine own_st (A' := s₁.setTop (mkF m 1 #[.val (.int p0), .val (.int p1), .val (.int p2), .val (.int p3), .val (.int p4), .unset, .unset, .unset, .unset] [(.int (2 : Int32))])) (fun tg kt => ?_) ?_
  · show Steps p.tables e below (s₁.setTop (mkF m 0 #[.val (.int p0), .val (.int p1), .val (.int p2), .val (.int p3), .val (.int p4), .unset, .unset, .unset, .unset] [])) _
    refine XS.iconst X0.here hx rfl (hb hby at_0) ?_
    exact kt
  obtain ⟨T1, h1, k1, X1, e1, E1, A1, B1, st1⟩ := newPE X0 hx hZ (hw _ (List.mem_of_getElem? (i := 0) rfl)) e0 (g := (mkF m 1 #[.val (.int p0), .val (.int p1), .val (.int p2), .val (.int p3), .val (.int p4), .unset, .unset, .unset, .unset] [(.int (2 : Int32))])) rfl (hb hby at_1) rfl (by decide) (cap := 2) (by decide) (by decide) (by decide) (by decide) (ad := "[B") (by decide)
  obtain ⟨b1, g1⟩ : ∃ z, z = h0.size := ⟨_, rfl⟩
  rw [← g1] at A1 B1 st1
  have g_b1 : n0 ≤ b1 := Nat.le_trans Z0 (Nat.le_of_eq g1.symm)
  have kw_b1 : h0.size ≤ b1 := Nat.le_trans ((Keep.refl h0 ([] : List Addr))).1 (Nat.le_of_eq g1.symm)
  have K1 := ((Keep.refl h0 ([] : List Addr))).ext E1
  have Z1 : n0 ≤ h1.size := Nat.le_trans Z0 E1.1
  have hk1 := Nat.le_trans hk0 E1.1
  have V_b1 : Arv Z h1 b1 k1 .byte (2 : Int32) [(.int (0 : Int32)), (.int (0 : Int32))] (.int (0 : Int32)) := (Arv.new A1 (by decide)).pad (pad_rep [] (.int (0 : Int32)) 2)
  refine own_st st1 ?_
  show own_Gl _ _ _ _ _ _ _ _ (T1.setTop (mkF m 3 #[.val (.int p0), .val (.int p1), .val (.int p2), .val (.int p3), .val (.int p4), .unset, .unset, .unset, .unset] [(.ref b1)]))
  refine own_st (A' := T1.setTop (mkF m 13 #[.val (.int p0), .val (.int p1), .val (.int p2), .val (.int p3), .val (.int p4), .val (.ref b1), .unset, .unset, .unset] [(.int ((p2 >>> ((8 : Int32) &&& 31)).toInt8.toInt32)), (.int (0 : Int32)), (.ref b1)])) (fun tg kt => ?_) ?_
  · show Steps p.tables e below (T1.setTop (mkF m 3 #[.val (.int p0), .val (.int p1), .val (.int p2), .val (.int p3), .val (.int p4), .unset, .unset, .unset, .unset] [(.ref b1)])) _
    refine XS.astore X1.here hx rfl (hb hby at_3) rfl rfl (l' := #[.val (.int p0), .val (.int p1), .val (.int p2), .val (.int p3), .val (.int p4), .val (.ref b1), .unset, .unset, .unset]) rfl ?_
    show Steps p.tables e below (T1.setTop (mkF m 5 #[.val (.int p0), .val (.int p1), .val (.int p2), .val (.int p3), .val (.int p4), .val (.ref b1), .unset, .unset, .unset] [])) _
    refine XS.aload X1.here hx rfl (hb hby at_5) rfl rfl ?_
    show Steps p.tables e below (T1.setTop (mkF m 7 #[.val (.int p0), .val (.int p1), .val (.int p2), .val (.int p3), .val (.int p4), .val (.ref b1), .unset, .unset, .unset] [(.ref b1)])) _
    refine XS.iconst X1.here hx rfl (hb hby at_7) ?_
    show Steps p.tables e below (T1.setTop (mkF m 8 #[.val (.int p0), .val (.int p1), .val (.int p2), .val (.int p3), .val (.int p4), .val (.ref b1), .unset, .unset, .unset] [(.int (0 : Int32)), (.ref b1)])) _
    refine XS.iloadN X1.here hx rfl (hb hby at_8) rfl ?_
    show Steps p.tables e below (T1.setTop (mkF m 9 #[.val (.int p0), .val (.int p1), .val (.int p2), .val (.int p3), .val (.int p4), .val (.ref b1), .unset, .unset, .unset] [(.int p2), (.int (0 : Int32)), (.ref b1)])) _
    refine XS.bipush X1.here hx rfl (hb hby at_9) ?_
    show Steps p.tables e below (T1.setTop (mkF m 11 #[.val (.int p0), .val (.int p1), .val (.int p2), .val (.int p3), .val (.int p4), .val (.ref b1), .unset, .unset, .unset] [(.int (8 : Int32)), (.int p2), (.int (0 : Int32)), (.ref b1)])) _
    refine XS.ishr X1.here hx rfl (hb hby at_11) rfl ?_
    show Steps p.tables e below (T1.setTop (mkF m 12 #[.val (.int p0), .val (.int p1), .val (.int p2), .val (.int p3), .val (.int p4), .val (.ref b1), .unset, .unset, .unset] [(.int (p2 >>> ((8 : Int32) &&& 31))), (.int (0 : Int32)), (.ref b1)])) _
    refine XS.i2b X1.here hx rfl (hb hby at_12) rfl ?_
    exact kt
  have Vt2 := V_b1
  obtain ⟨cl2, Ar2, qk2, Sz2, Nn2, Hs2, Gs2⟩ := Vt2
  have hin2 := inb_of (j := (0 : Int32)) Sz2 ⟨by decide, by decide⟩
  obtain ⟨T3, h3, X3, e3, W3, st3⟩ := stB X1 hx hZ e1 Ar2 (j := (0 : Int32)) hin2 (g := (mkF m 13 #[.val (.int p0), .val (.int p1), .val (.int p2), .val (.int p3), .val (.int p4), .val (.ref b1), .unset, .unset, .unset] [(.int ((p2 >>> ((8 : Int32) &&& 31)).toInt8.toInt32)), (.int (0 : Int32)), (.ref b1)])) rfl rfl (hb hby at_13)
  have N3 := Fr.snoc X3 N0 g_b1
  have K3 := (K1).wr W3 (Or.inr kw_b1)
  have Z3 : n0 ≤ h3.size := Nat.le_trans Z1 (Keep.of_wr W3).1
  have hk3 := Nat.le_trans hk1 (Keep.of_wr W3).1
  have V3 : Arv Z h3 b1 k1 .byte (2 : Int32) [(.int (nar .byte ((p2 >>> ((8 : Int32) &&& 31)).toInt8.toInt32))), (.int (0 : Int32))] (.int (0 : Int32)) := Arv.set Ar2 qk2 Sz2 Nn2 Hs2 Gs2 (fits_nar_byte _) W3 0 rfl (Nat.le_of_ble_eq_true rfl)
  refine own_st st3 ?_
  show own_Gl _ _ _ _ _ _ _ _ (T3.setTop (mkF m 14 #[.val (.int p0), .val (.int p1), .val (.int p2), .val (.int p3), .val (.int p4), .val (.ref b1), .unset, .unset, .unset] []))
  refine own_st (A' := T3.setTop (mkF m 19 #[.val (.int p0), .val (.int p1), .val (.int p2), .val (.int p3), .val (.int p4), .val (.ref b1), .unset, .unset, .unset] [(.int (p2.toInt8.toInt32)), (.int (1 : Int32)), (.ref b1)])) (fun tg kt => ?_) ?_
  · show Steps p.tables e below (T3.setTop (mkF m 14 #[.val (.int p0), .val (.int p1), .val (.int p2), .val (.int p3), .val (.int p4), .val (.ref b1), .unset, .unset, .unset] [])) _
    refine XS.aload X3.here hx rfl (hb hby at_14) rfl rfl ?_
    show Steps p.tables e below (T3.setTop (mkF m 16 #[.val (.int p0), .val (.int p1), .val (.int p2), .val (.int p3), .val (.int p4), .val (.ref b1), .unset, .unset, .unset] [(.ref b1)])) _
    refine XS.iconst X3.here hx rfl (hb hby at_16) ?_
    show Steps p.tables e below (T3.setTop (mkF m 17 #[.val (.int p0), .val (.int p1), .val (.int p2), .val (.int p3), .val (.int p4), .val (.ref b1), .unset, .unset, .unset] [(.int (1 : Int32)), (.ref b1)])) _
    refine XS.iloadN X3.here hx rfl (hb hby at_17) rfl ?_
    show Steps p.tables e below (T3.setTop (mkF m 18 #[.val (.int p0), .val (.int p1), .val (.int p2), .val (.int p3), .val (.int p4), .val (.ref b1), .unset, .unset, .unset] [(.int p2), (.int (1 : Int32)), (.ref b1)])) _
    refine XS.i2b X3.here hx rfl (hb hby at_18) rfl ?_
    exact kt
  have Vt4 := V3
  obtain ⟨cl4, Ar4, qk4, Sz4, Nn4, Hs4, Gs4⟩ := Vt4
  have hin4 := inb_of (j := (1 : Int32)) Sz4 ⟨by decide, by decide⟩
  obtain ⟨T5, h5, X5, e5, W5, st5⟩ := stB X3 hx hZ e3 Ar4 (j := (1 : Int32)) hin4 (g := (mkF m 19 #[.val (.int p0), .val (.int p1), .val (.int p2), .val (.int p3), .val (.int p4), .val (.ref b1), .unset, .unset, .unset] [(.int (p2.toInt8.toInt32)), (.int (1 : Int32)), (.ref b1)])) rfl rfl (hb hby at_19)
  have N5 := Fr.snoc X5 N3 g_b1
  have K5 := (K3).wr W5 (Or.inr kw_b1)
  have Z5 : n0 ≤ h5.size := Nat.le_trans Z3 (Keep.of_wr W5).1
  have hk5 := Nat.le_trans hk3 (Keep.of_wr W5).1
  have V5 : Arv Z h5 b1 k1 .byte (2 : Int32) [(.int (nar .byte ((p2 >>> ((8 : Int32) &&& 31)).toInt8.toInt32))), (.int (nar .byte (p2.toInt8.toInt32)))] (.int (0 : Int32)) := Arv.set Ar4 qk4 Sz4 Nn4 Hs4 Gs4 (fits_nar_byte _) W5 1 rfl (Nat.le_of_ble_eq_true rfl)
  refine own_st st5 ?_
  show own_Gl _ _ _ _ _ _ _ _ (T5.setTop (mkF m 20 #[.val (.int p0), .val (.int p1), .val (.int p2), .val (.int p3), .val (.int p4), .val (.ref b1), .unset, .unset, .unset] []))
  obtain ⟨T6, h6, X6, e6, E6, A6, D6, -, st6⟩ := newO X5 hx hZ hown (hw _ (List.mem_of_getElem? (i := 1) rfl)) (hw _ (List.mem_of_getElem? (i := 2) rfl)) (hw _ (List.mem_of_getElem? (i := 3) rfl)) e5 (g := (mkF m 20 #[.val (.int p0), .val (.int p1), .val (.int p2), .val (.int p3), .val (.int p4), .val (.ref b1), .unset, .unset, .unset] [])) rfl (hb hby at_20) (by decide) (by decide)
  obtain ⟨b6, g6⟩ : ∃ z, z = h5.size := ⟨_, rfl⟩
  rw [← g6] at A6 D6 st6
  have g_b6 : n0 ≤ b6 := Nat.le_trans Z5 (Nat.le_of_eq g6.symm)
  have kw_b6 : h0.size ≤ b6 := Nat.le_trans (K5).1 (Nat.le_of_eq g6.symm)
  have ne_b1_b6 : b1 ≠ b6 := Nat.ne_of_lt (Nat.lt_of_lt_of_le ((B1.wr W3).wr W5).lt (Nat.le_of_eq g6.symm))
  have K6 := (K5).ext E6
  have Z6 : n0 ≤ h6.size := Nat.le_trans Z5 E6.1
  have hk6 := Nat.le_trans hk5 E6.1
  have F_epc_b6 : Fld Z h6 b6 "com/example/tagwire/tagwire/sim/Tag" "epc" "[B" .null := D6 (Or.inr (hw _ (List.mem_of_getElem? (i := 33) rfl))) (ty := (.array .byte)) (by decide)
  have F_pc_b6 : Fld Z h6 b6 "com/example/tagwire/tagwire/sim/Tag" "pc" "I" (.int (0 : Int32)) := D6 (Or.inr (hw _ (List.mem_of_getElem? (i := 35) rfl))) (ty := .int) (by decide)
  have F_rssi_b6 : Fld Z h6 b6 "com/example/tagwire/tagwire/sim/Tag" "rssi" "I" (.int (0 : Int32)) := D6 (Or.inr (hw _ (List.mem_of_getElem? (i := 37) rfl))) (ty := .int) (by decide)
  have F_reserved_b6 : Fld Z h6 b6 "com/example/tagwire/tagwire/sim/Tag" "reserved" "[B" .null := D6 (Or.inr (hw _ (List.mem_of_getElem? (i := 39) rfl))) (ty := (.array .byte)) (by decide)
  have F_tid_b6 : Fld Z h6 b6 "com/example/tagwire/tagwire/sim/Tag" "tid" "[B" .null := D6 (Or.inr (hw _ (List.mem_of_getElem? (i := 41) rfl))) (ty := (.array .byte)) (by decide)
  have F_user_b6 : Fld Z h6 b6 "com/example/tagwire/tagwire/sim/Tag" "user" "[B" .null := D6 (Or.inr (hw _ (List.mem_of_getElem? (i := 43) rfl))) (ty := (.array .byte)) (by decide)
  refine own_st st6 ?_
  show own_Gl _ _ _ _ _ _ _ _ (T6.setTop (mkF m 23 #[.val (.int p0), .val (.int p1), .val (.int p2), .val (.int p3), .val (.int p4), .val (.ref b1), .unset, .unset, .unset] [(.ref b6)]))
  refine own_st (A' := T6.setTop (mkF m 35 #[.val (.int p0), .val (.int p1), .val (.int p2), .val (.int p3), .val (.int p4), .val (.ref b1), .unset, .unset, .unset] [(.int ((p3 >>> ((16 : Int32) &&& 31)).toInt8.toInt32)), (.int (p3 &&& (65535 : Int32))), (.ref b1), (.ref b6), (.ref b6)])) (fun tg kt => ?_) ?_
  · show Steps p.tables e below (T6.setTop (mkF m 23 #[.val (.int p0), .val (.int p1), .val (.int p2), .val (.int p3), .val (.int p4), .val (.ref b1), .unset, .unset, .unset] [(.ref b6)])) _
    refine XS.dup X6.here hx rfl (hb hby at_23) rfl rfl ?_
    show Steps p.tables e below (T6.setTop (mkF m 24 #[.val (.int p0), .val (.int p1), .val (.int p2), .val (.int p3), .val (.int p4), .val (.ref b1), .unset, .unset, .unset] [(.ref b6), (.ref b6)])) _
    refine XS.aload X6.here hx rfl (hb hby at_24) rfl rfl ?_
    show Steps p.tables e below (T6.setTop (mkF m 26 #[.val (.int p0), .val (.int p1), .val (.int p2), .val (.int p3), .val (.int p4), .val (.ref b1), .unset, .unset, .unset] [(.ref b1), (.ref b6), (.ref b6)])) _
    refine XS.iloadN X6.here hx rfl (hb hby at_26) rfl ?_
    show Steps p.tables e below (T6.setTop (mkF m 27 #[.val (.int p0), .val (.int p1), .val (.int p2), .val (.int p3), .val (.int p4), .val (.ref b1), .unset, .unset, .unset] [(.int p3), (.ref b1), (.ref b6), (.ref b6)])) _
    refine X6.ldcInt hx hown (mvT hZ (hw _ (List.mem_of_getElem? (i := 4) rfl))) (g := (mkF m 27 #[.val (.int p0), .val (.int p1), .val (.int p2), .val (.int p3), .val (.int p4), .val (.ref b1), .unset, .unset, .unset] [(.int p3), (.ref b1), (.ref b6), (.ref b6)])) rfl (hb hby at_27) _ ?_
    show Steps p.tables e below (T6.setTop (mkF m 29 #[.val (.int p0), .val (.int p1), .val (.int p2), .val (.int p3), .val (.int p4), .val (.ref b1), .unset, .unset, .unset] [(.int (65535 : Int32)), (.int p3), (.ref b1), (.ref b6), (.ref b6)])) _
    refine XS.iand X6.here hx rfl (hb hby at_29) rfl ?_
    show Steps p.tables e below (T6.setTop (mkF m 30 #[.val (.int p0), .val (.int p1), .val (.int p2), .val (.int p3), .val (.int p4), .val (.ref b1), .unset, .unset, .unset] [(.int (p3 &&& (65535 : Int32))), (.ref b1), (.ref b6), (.ref b6)])) _
    refine XS.iloadN X6.here hx rfl (hb hby at_30) rfl ?_
    show Steps p.tables e below (T6.setTop (mkF m 31 #[.val (.int p0), .val (.int p1), .val (.int p2), .val (.int p3), .val (.int p4), .val (.ref b1), .unset, .unset, .unset] [(.int p3), (.int (p3 &&& (65535 : Int32))), (.ref b1), (.ref b6), (.ref b6)])) _
    refine XS.bipush X6.here hx rfl (hb hby at_31) ?_
    show Steps p.tables e below (T6.setTop (mkF m 33 #[.val (.int p0), .val (.int p1), .val (.int p2), .val (.int p3), .val (.int p4), .val (.ref b1), .unset, .unset, .unset] [(.int (16 : Int32)), (.int p3), (.int (p3 &&& (65535 : Int32))), (.ref b1), (.ref b6), (.ref b6)])) _
    refine XS.ishr X6.here hx rfl (hb hby at_33) rfl ?_
    show Steps p.tables e below (T6.setTop (mkF m 34 #[.val (.int p0), .val (.int p1), .val (.int p2), .val (.int p3), .val (.int p4), .val (.ref b1), .unset, .unset, .unset] [(.int (p3 >>> ((16 : Int32) &&& 31))), (.int (p3 &&& (65535 : Int32))), (.ref b1), (.ref b6), (.ref b6)])) _
    refine XS.i2b X6.here hx rfl (hb hby at_34) rfl ?_
    exact kt
  obtain ⟨_, _, ⟨T7, L7, k7, n7⟩, -, X7, hSq7, hgq7, ⟨Lc7, hQ7, l7, y7, z7⟩, st7⟩ := X6.specialBackS hx (y := (⟨"com/example/tagwire/tagwire/sim/Tag", "<init>", "([BII)V"⟩ : MethodName)) rfl hown (mvT hZ (hw _ (List.mem_of_getElem? (i := 5) rfl))) (mvT hZ (hw _ (List.mem_of_getElem? (i := 6) rfl))) (mvT hZ (hw _ (List.mem_of_getElem? (i := 7) rfl))) (by decide) (backOfS (W := 1) (rm1 l Z a0 hw [] b6 b1 (p3 &&& (65535 : Int32)) ((p3 >>> ((16 : Int32) &&& 31)).toInt8.toInt32) k1 (.int (nar .byte ((p2 >>> ((8 : Int32) &&& 31)).toInt8.toInt32))) (.int (nar .byte (p2.toInt8.toInt32))) h6 n0 Z6 F_epc_b6 F_pc_b6 F_rssi_b6 F_reserved_b6 F_tid_b6 F_user_b6 A6 g_b6 (V5.ext E6) (((B1.wr W3).wr W5).ext E6) (Ne.symm ne_b1_b6) (own_p1 _) (own_p2 _) (own_r1 _) (own_r2 _)) hZ (hw _ (List.mem_of_getElem? (i := 7) rfl)) (hw _ (List.mem_of_getElem? (i := 3) rfl)) (by decide) (by decide)) (g := (mkF m 35 #[.val (.int p0), .val (.int p1), .val (.int p2), .val (.int p3), .val (.int p4), .val (.ref b1), .unset, .unset, .unset] [(.int ((p3 >>> ((16 : Int32) &&& 31)).toInt8.toInt32)), (.int (p3 &&& (65535 : Int32))), (.ref b1), (.ref b6), (.ref b6)])) rfl (by rw [hml]; rfl) (Steps.refl _) (a := b6) (argsL := [(.ref b1), (.int (p3 &&& (65535 : Int32))), (.int ((p3 >>> ((16 : Int32) &&& 31)).toInt8.toInt32))]) (rest := [(.ref b6)]) (lenOf own_pd6 rfl) rfl (by show 2 * 0 + _ ≤ _; exact Nat.le_of_eq rfl) (hb hby at_35) (fun _ _ => ⟨rfl, e6, (by decide : 2 + 6 ≤ _), (by decide : 8 + 26 ≤ _)⟩)
  dsimp only [Pt.U, Pt.locs, Pt.cells, Pt.slots] at X7 l7 y7 z7 st7 hQ7 hSq7 hgq7
  subst l7 y7 z7
  replace X7 : Stand p l e _ (s.setVm T7.vm) m _ below meth c T7 _ _ _ := X7
  have hS7 : s.Since T7.vm T7.heap.size := hS0.trans hSq7 (Nat.le_trans hk6 (by rw [← e6]; exact hgq7))
  have hZ7 : Z.Warmed39 (s.setVm T7.vm).vm := State.Warmed39.trans (t := (s.setVm s.vm)) hZ hSq7.1
  have hown7 : (s.setVm T7.vm).vm.findClass "com/example/tagwire/tagwire/sim/TagAccessPasswordPinLaw" = some m.cls := by rw [show (s.setVm T7.vm).vm = T7.vm from rfl, hSq7.1.alike.findClass]; exact hown
  have hk7 : T7.heap.size ≤ T7.heap.size := Nat.le_refl _
  obtain ⟨rfl, Nq7, x1, x2, x3, x4, kr, Kq7, Eq7, F1_7, F2_7, F3_7, F4_7, F5_7, F6_7, Vq7, kw7⟩ := hQ7
  have N7 := Fr.app N5 Nq7
  have K7 := (K6).trans Kq7 (allS (Or.inr kw_b6) all0)
  have Z7 : n0 ≤ T7.heap.size := Nat.le_trans Z6 Kq7.1
  refine own_tr st7 ?_
  show own_Gl _ _ _ _ _ _ _ _ (T7.setTop (mkF m 38 #[.val (.int p0), .val (.int p1), .val (.int p2), .val (.int p3), .val (.int p4), .val (.ref b1), .unset, .unset, .unset] [(.ref b6)]))
  refine own_st (A' := T7.setTop (mkF m 44 #[.val (.int p0), .val (.int p1), .val (.int p2), .val (.int p3), .val (.int p4), .val (.ref b1), .val (.ref b6), .unset, .unset] [(.int (p4 &&& (1 : Int32)))])) (fun tg kt => ?_) ?_
  · show Steps p.tables e below (T7.setTop (mkF m 38 #[.val (.int p0), .val (.int p1), .val (.int p2), .val (.int p3), .val (.int p4), .val (.ref b1), .unset, .unset, .unset] [(.ref b6)])) _
    refine XS.astore X7.here hx rfl (hb hby at_38) rfl rfl (l' := #[.val (.int p0), .val (.int p1), .val (.int p2), .val (.int p3), .val (.int p4), .val (.ref b1), .val (.ref b6), .unset, .unset]) rfl ?_
    show Steps p.tables e below (T7.setTop (mkF m 40 #[.val (.int p0), .val (.int p1), .val (.int p2), .val (.int p3), .val (.int p4), .val (.ref b1), .val (.ref b6), .unset, .unset] [])) _
    refine XS.iload X7.here hx rfl (hb hby at_40) rfl ?_
    show Steps p.tables e below (T7.setTop (mkF m 42 #[.val (.int p0), .val (.int p1), .val (.int p2), .val (.int p3), .val (.int p4), .val (.ref b1), .val (.ref b6), .unset, .unset] [(.int p4)])) _
    refine XS.iconst X7.here hx rfl (hb hby at_42) ?_
    show Steps p.tables e below (T7.setTop (mkF m 43 #[.val (.int p0), .val (.int p1), .val (.int p2), .val (.int p3), .val (.int p4), .val (.ref b1), .val (.ref b6), .unset, .unset] [(.int (1 : Int32)), (.int p4)])) _
    refine XS.iand X7.here hx rfl (hb hby at_43) rfl ?_
    exact kt
  by_cases hc44_8 : (p4 &&& (1 : Int32)) = (0 : Int32)
  · refine own_st (A' := T7.setTop (mkF m 49 #[.val (.int p0), .val (.int p1), .val (.int p2), .val (.int p3), .val (.int p4), .val (.ref b1), .val (.ref b6), .unset, .unset] [(.ref b6)])) (fun tg kt => ?_) ?_
    · show Steps p.tables e below (T7.setTop (mkF m 44 #[.val (.int p0), .val (.int p1), .val (.int p2), .val (.int p3), .val (.int p4), .val (.ref b1), .val (.ref b6), .unset, .unset] [(.int (p4 &&& (1 : Int32)))])) _
      refine XS.ifNo X7.here hx rfl (hb hby at_44) rfl ((if0 _ _).trans (teq hc44_8).2) ?_
      show Steps p.tables e below (T7.setTop (mkF m 47 #[.val (.int p0), .val (.int p1), .val (.int p2), .val (.int p3), .val (.int p4), .val (.ref b1), .val (.ref b6), .unset, .unset] [])) _
      refine XS.aload X7.here hx rfl (hb hby at_47) rfl rfl ?_
      exact kt
    obtain ⟨cq9, kq9, q9a, q9b, q9c⟩ := isOf hZ7 rfl Eq7
    obtain ⟨_, _, ⟨T9, L9, k9, n9⟩, -, X9, ⟨Lc9, hQ9, l9, y9, z9⟩, st9⟩ := X7.virtualBack hx (y := (⟨"com/example/tagwire/tagwire/sim/Tag", "accessPassword", "()I"⟩ : MethodName)) (z := (⟨"com/example/tagwire/tagwire/sim/Tag", "accessPassword", "()I"⟩ : MethodName)) hown7 (mvT hZ7 (hw _ (List.mem_of_getElem? (i := 44) rfl))) (mvT hZ7 (hw _ (List.mem_of_getElem? (i := 45) rfl))) (notFace_of_selects (args := #[]) (mvT hZ7 (hw _ (List.mem_of_getElem? (i := 47) rfl)))) (mvT hZ7 (hw _ (List.mem_of_getElem? (i := 47) rfl))) (mvT hZ7 (hw _ (List.mem_of_getElem? (i := 46) rfl))) (by decide) (backOf (W := 0) (rm4 l Z a0 hw [] b6 x2 kr (0 : Int32) (0 : Int32) (0 : Int32) (0 : Int32) (0 : Int32) (0 : Int32) (0 : Int32) (0 : Int32) T7.heap n0 Z7 F4_7 Vq7) hZ7 (hw _ (List.mem_of_getElem? (i := 48) rfl)) (hw _ (List.mem_of_getElem? (i := 3) rfl)) (by decide) (by decide)) q9a q9c (g := (mkF m 49 #[.val (.int p0), .val (.int p1), .val (.int p2), .val (.int p3), .val (.int p4), .val (.ref b1), .val (.ref b6), .unset, .unset] [(.ref b6)])) rfl (by rw [hml]; rfl) (Steps.refl _) (argsL := []) (rest := []) (lenOf own_pd4 rfl) rfl (by show 2 * 0 + _ ≤ _; exact Nat.le_of_eq rfl) (hb hby at_49) (fun _ _ => ⟨rfl, rfl, (by decide : 8 + 0 ≤ _), (by decide : 34 + 0 ≤ _)⟩)
    dsimp only [Pt.U, Pt.locs, Pt.cells, Pt.slots] at X9 l9 y9 z9 st9 hQ9
    subst l9 y9 z9
    unfold Q4 at hQ9; rw [show own_pw (0 : Int32) (0 : Int32) (0 : Int32) (0 : Int32) = (0 : Int32) from by decide] at hQ9
    obtain ⟨rfl, Nq9, eq9⟩ := hQ9
    have N9 := Fr.app N7 Nq9
    refine own_tr st9 ?_
    show own_Gl _ _ _ _ _ _ _ _ (T9.setTop (mkF m 52 #[.val (.int p0), .val (.int p1), .val (.int p2), .val (.int p3), .val (.int p4), .val (.ref b1), .val (.ref b6), .unset, .unset] [(.int (0 : Int32))]))
    refine own_st (A' := T9.setTop (mkF m 60 #[.val (.int p0), .val (.int p1), .val (.int p2), .val (.int p3), .val (.int p4), .val (.ref b1), .val (.ref b6), .unset, .unset] [(.int (1 : Int32))])) (fun tg kt => ?_) ?_
    · show Steps p.tables e below (T9.setTop (mkF m 52 #[.val (.int p0), .val (.int p1), .val (.int p2), .val (.int p3), .val (.int p4), .val (.ref b1), .val (.ref b6), .unset, .unset] [(.int (0 : Int32))])) _
      refine XS.ifNo X9.here hx rfl (hb hby at_52) rfl ((if0 _ _).trans (teq ((by decide) : (0 : Int32) = (0 : Int32))).2) ?_
      show Steps p.tables e below (T9.setTop (mkF m 55 #[.val (.int p0), .val (.int p1), .val (.int p2), .val (.int p3), .val (.int p4), .val (.ref b1), .val (.ref b6), .unset, .unset] [])) _
      refine XS.iconst X9.here hx rfl (hb hby at_55) ?_
      show Steps p.tables e below (T9.setTop (mkF m 56 #[.val (.int p0), .val (.int p1), .val (.int p2), .val (.int p3), .val (.int p4), .val (.ref b1), .val (.ref b6), .unset, .unset] [(.int (1 : Int32))])) _
      refine XS.goto X9.here hx rfl (pc0 := 56) (pc' := 60) rfl (hb hby at_56) (by decide) (by decide) ?_
      exact kt
    refine own_retW X9 hS7 (by rw [eq9]; exact hk7) (v := some (.int (1 : Int32))) (fun h => by rw [Bd.returns] at h; cases h) hlk (by decide) (by decide) ?_ (fun fs hr => ?_)
    · show Q0 Z p0 p1 p2 p3 p4 a_RESERVED sm ks h0 n0 (some (.int (1 : Int32))) T9.heap _
      rw [eq9]
      exact ⟨rfl, N9⟩
    · show Steps p.tables e below (T9.setTop (mkF m 60 #[.val (.int p0), .val (.int p1), .val (.int p2), .val (.int p3), .val (.int p4), .val (.ref b1), .val (.ref b6), .unset, .unset] [(.int (1 : Int32))])) _
      exact retN X9 hx (t := .boolean) Bd.returns (by simp) (hb hby at_60) hr
  · refine own_st (A' := T7.setTop (mkF m 63 #[.val (.int p0), .val (.int p1), .val (.int p2), .val (.int p3), .val (.int p4), .val (.ref b1), .val (.ref b6), .unset, .unset] [(.int (8 : Int32))])) (fun tg kt => ?_) ?_
    · show Steps p.tables e below (T7.setTop (mkF m 44 #[.val (.int p0), .val (.int p1), .val (.int p2), .val (.int p3), .val (.int p4), .val (.ref b1), .val (.ref b6), .unset, .unset] [(.int (p4 &&& (1 : Int32)))])) _
      refine XS.ifYes X7.here hx rfl (pc0 := 44) (pc' := 61) rfl (hb hby at_44) rfl ((if0 _ _).trans (feq hc44_8).2) (by decide) (by decide) ?_
      show Steps p.tables e below (T7.setTop (mkF m 61 #[.val (.int p0), .val (.int p1), .val (.int p2), .val (.int p3), .val (.int p4), .val (.ref b1), .val (.ref b6), .unset, .unset] [])) _
      refine XS.bipush X7.here hx rfl (hb hby at_61) ?_
      exact kt
    obtain ⟨T10, h10, k10, X10, e10, E10, A10, B10, st10⟩ := newPE X7 hx hZ7 (hw _ (List.mem_of_getElem? (i := 0) rfl)) rfl (g := (mkF m 63 #[.val (.int p0), .val (.int p1), .val (.int p2), .val (.int p3), .val (.int p4), .val (.ref b1), .val (.ref b6), .unset, .unset] [(.int (8 : Int32))])) rfl (hb hby at_63) rfl (by decide) (cap := 8) (by decide) (by decide) (by decide) (by decide) (ad := "[B") (by decide)
    obtain ⟨b10, g10⟩ : ∃ z, z = T7.heap.size := ⟨_, rfl⟩
    rw [← g10] at A10 B10 st10
    have g_b10 : n0 ≤ b10 := Nat.le_trans Z7 (Nat.le_of_eq g10.symm)
    have kw_b10 : h0.size ≤ b10 := Nat.le_trans (K7).1 (Nat.le_of_eq g10.symm)
    have ne_b1_b10 : b1 ≠ b10 := Nat.ne_of_lt (Nat.lt_of_lt_of_le ((((B1.wr W3).wr W5).ext E6).keep Kq7).lt (Nat.le_of_eq g10.symm))
    have ne_b6_b10 : b6 ≠ b10 := Nat.ne_of_lt (Nat.lt_of_lt_of_le Eq7.lt (Nat.le_of_eq g10.symm))
    have ne_x2_b10 : x2 ≠ b10 := Nat.ne_of_lt (Nat.lt_of_lt_of_le Vq7.lt (Nat.le_of_eq g10.symm))
    have K10 := (K7).ext E10
    have Z10 : n0 ≤ h10.size := Nat.le_trans Z7 E10.1
    have hk10 := Nat.le_trans hk7 E10.1
    have V_b10 : Arv Z h10 b10 k10 .byte (8 : Int32) [(.int (0 : Int32)), (.int (0 : Int32)), (.int (0 : Int32)), (.int (0 : Int32)), (.int (0 : Int32)), (.int (0 : Int32)), (.int (0 : Int32)), (.int (0 : Int32))] (.int (0 : Int32)) := (Arv.new A10 (by decide)).pad (pad_rep [] (.int (0 : Int32)) 8)
    refine own_st st10 ?_
    show own_Gl _ _ _ _ _ _ _ _ (T10.setTop (mkF m 65 #[.val (.int p0), .val (.int p1), .val (.int p2), .val (.int p3), .val (.int p4), .val (.ref b1), .val (.ref b6), .unset, .unset] [(.ref b10)]))
    refine own_st (A' := T10.setTop (mkF m 75 #[.val (.int p0), .val (.int p1), .val (.int p2), .val (.int p3), .val (.int p4), .val (.ref b1), .val (.ref b6), .val (.ref b10), .unset] [(.int (((p1.toUInt32 >>> ((24 : Int32) &&& 31).toUInt32).toInt32).toInt8.toInt32)), (.int (0 : Int32)), (.ref b10)])) (fun tg kt => ?_) ?_
    · show Steps p.tables e below (T10.setTop (mkF m 65 #[.val (.int p0), .val (.int p1), .val (.int p2), .val (.int p3), .val (.int p4), .val (.ref b1), .val (.ref b6), .unset, .unset] [(.ref b10)])) _
      refine XS.astore X10.here hx rfl (hb hby at_65) rfl rfl (l' := #[.val (.int p0), .val (.int p1), .val (.int p2), .val (.int p3), .val (.int p4), .val (.ref b1), .val (.ref b6), .val (.ref b10), .unset]) rfl ?_
      show Steps p.tables e below (T10.setTop (mkF m 67 #[.val (.int p0), .val (.int p1), .val (.int p2), .val (.int p3), .val (.int p4), .val (.ref b1), .val (.ref b6), .val (.ref b10), .unset] [])) _
      refine XS.aload X10.here hx rfl (hb hby at_67) rfl rfl ?_
      show Steps p.tables e below (T10.setTop (mkF m 69 #[.val (.int p0), .val (.int p1), .val (.int p2), .val (.int p3), .val (.int p4), .val (.ref b1), .val (.ref b6), .val (.ref b10), .unset] [(.ref b10)])) _
      refine XS.iconst X10.here hx rfl (hb hby at_69) ?_
      show Steps p.tables e below (T10.setTop (mkF m 70 #[.val (.int p0), .val (.int p1), .val (.int p2), .val (.int p3), .val (.int p4), .val (.ref b1), .val (.ref b6), .val (.ref b10), .unset] [(.int (0 : Int32)), (.ref b10)])) _
      refine XS.iloadN X10.here hx rfl (hb hby at_70) rfl ?_
      show Steps p.tables e below (T10.setTop (mkF m 71 #[.val (.int p0), .val (.int p1), .val (.int p2), .val (.int p3), .val (.int p4), .val (.ref b1), .val (.ref b6), .val (.ref b10), .unset] [(.int p1), (.int (0 : Int32)), (.ref b10)])) _
      refine XS.bipush X10.here hx rfl (hb hby at_71) ?_
      show Steps p.tables e below (T10.setTop (mkF m 73 #[.val (.int p0), .val (.int p1), .val (.int p2), .val (.int p3), .val (.int p4), .val (.ref b1), .val (.ref b6), .val (.ref b10), .unset] [(.int (24 : Int32)), (.int p1), (.int (0 : Int32)), (.ref b10)])) _
      refine XS.iushr X10.here hx rfl (hb hby at_73) rfl ?_
      show Steps p.tables e below (T10.setTop (mkF m 74 #[.val (.int p0), .val (.int p1), .val (.int p2), .val (.int p3), .val (.int p4), .val (.ref b1), .val (.ref b6), .val (.ref b10), .unset] [(.int ((p1.toUInt32 >>> ((24 : Int32) &&& 31).toUInt32).toInt32)), (.int (0 : Int32)), (.ref b10)])) _
      refine XS.i2b X10.here hx rfl (hb hby at_74) rfl ?_
      exact kt
    have Vt11 := V_b10
    obtain ⟨cl11, Ar11, qk11, Sz11, Nn11, Hs11, Gs11⟩ := Vt11
    have hin11 := inb_of (j := (0 : Int32)) Sz11 ⟨by decide, by decide⟩
    obtain ⟨T12, h12, X12, e12, W12, st12⟩ := stB X10 hx hZ7 e10 Ar11 (j := (0 : Int32)) hin11 (g := (mkF m 75 #[.val (.int p0), .val (.int p1), .val (.int p2), .val (.int p3), .val (.int p4), .val (.ref b1), .val (.ref b6), .val (.ref b10), .unset] [(.int (((p1.toUInt32 >>> ((24 : Int32) &&& 31).toUInt32).toInt32).toInt8.toInt32)), (.int (0 : Int32)), (.ref b10)])) rfl rfl (hb hby at_75)
    have N12 := Fr.snoc X12 N7 g_b10
    have K12 := (K10).wr W12 (Or.inr kw_b10)
    have Z12 : n0 ≤ h12.size := Nat.le_trans Z10 (Keep.of_wr W12).1
    have hk12 := Nat.le_trans hk10 (Keep.of_wr W12).1
    have V12 : Arv Z h12 b10 k10 .byte (8 : Int32) [(.int (nar .byte (((p1.toUInt32 >>> ((24 : Int32) &&& 31).toUInt32).toInt32).toInt8.toInt32))), (.int (0 : Int32)), (.int (0 : Int32)), (.int (0 : Int32)), (.int (0 : Int32)), (.int (0 : Int32)), (.int (0 : Int32)), (.int (0 : Int32))] (.int (0 : Int32)) := Arv.set Ar11 qk11 Sz11 Nn11 Hs11 Gs11 (fits_nar_byte _) W12 0 rfl (Nat.le_of_ble_eq_true rfl)
    have Fa13 := ((((V5.ext E6).keep Kq7 (ninS ne_b1_b6 nin0)).ext E10).other W12 ne_b1_b10)
    refine own_st st12 ?_
    show own_Gl _ _ _ _ _ _ _ _ (T12.setTop (mkF m 76 #[.val (.int p0), .val (.int p1), .val (.int p2), .val (.int p3), .val (.int p4), .val (.ref b1), .val (.ref b6), .val (.ref b10), .unset] []))
    refine own_st (A' := T12.setTop (mkF m 84 #[.val (.int p0), .val (.int p1), .val (.int p2), .val (.int p3), .val (.int p4), .val (.ref b1), .val (.ref b6), .val (.ref b10), .unset] [(.int (((p1.toUInt32 >>> ((16 : Int32) &&& 31).toUInt32).toInt32).toInt8.toInt32)), (.int (1 : Int32)), (.ref b10)])) (fun tg kt => ?_) ?_
    · show Steps p.tables e below (T12.setTop (mkF m 76 #[.val (.int p0), .val (.int p1), .val (.int p2), .val (.int p3), .val (.int p4), .val (.ref b1), .val (.ref b6), .val (.ref b10), .unset] [])) _
      refine XS.aload X12.here hx rfl (hb hby at_76) rfl rfl ?_
      show Steps p.tables e below (T12.setTop (mkF m 78 #[.val (.int p0), .val (.int p1), .val (.int p2), .val (.int p3), .val (.int p4), .val (.ref b1), .val (.ref b6), .val (.ref b10), .unset] [(.ref b10)])) _
      refine XS.iconst X12.here hx rfl (hb hby at_78) ?_
      show Steps p.tables e below (T12.setTop (mkF m 79 #[.val (.int p0), .val (.int p1), .val (.int p2), .val (.int p3), .val (.int p4), .val (.ref b1), .val (.ref b6), .val (.ref b10), .unset] [(.int (1 : Int32)), (.ref b10)])) _
      refine XS.iloadN X12.here hx rfl (hb hby at_79) rfl ?_
      show Steps p.tables e below (T12.setTop (mkF m 80 #[.val (.int p0), .val (.int p1), .val (.int p2), .val (.int p3), .val (.int p4), .val (.ref b1), .val (.ref b6), .val (.ref b10), .unset] [(.int p1), (.int (1 : Int32)), (.ref b10)])) _
      refine XS.bipush X12.here hx rfl (hb hby at_80) ?_
      show Steps p.tables e below (T12.setTop (mkF m 82 #[.val (.int p0), .val (.int p1), .val (.int p2), .val (.int p3), .val (.int p4), .val (.ref b1), .val (.ref b6), .val (.ref b10), .unset] [(.int (16 : Int32)), (.int p1), (.int (1 : Int32)), (.ref b10)])) _
      refine XS.iushr X12.here hx rfl (hb hby at_82) rfl ?_
      show Steps p.tables e below (T12.setTop (mkF m 83 #[.val (.int p0), .val (.int p1), .val (.int p2), .val (.int p3), .val (.int p4), .val (.ref b1), .val (.ref b6), .val (.ref b10), .unset] [(.int ((p1.toUInt32 >>> ((16 : Int32) &&& 31).toUInt32).toInt32)), (.int (1 : Int32)), (.ref b10)])) _
      refine XS.i2b X12.here hx rfl (hb hby at_83) rfl ?_
      exact kt
    have Vt14 := V12
    obtain ⟨cl14, Ar14, qk14, Sz14, Nn14, Hs14, Gs14⟩ := Vt14
    have hin14 := inb_of (j := (1 : Int32)) Sz14 ⟨by decide, by decide⟩
    obtain ⟨T15, h15, X15, e15, W15, st15⟩ := stB X12 hx hZ7 e12 Ar14 (j := (1 : Int32)) hin14 (g := (mkF m 84 #[.val (.int p0), .val (.int p1), .val (.int p2), .val (.int p3), .val (.int p4), .val (.ref b1), .val (.ref b6), .val (.ref b10), .unset] [(.int (((p1.toUInt32 >>> ((16 : Int32) &&& 31).toUInt32).toInt32).toInt8.toInt32)), (.int (1 : Int32)), (.ref b10)])) rfl rfl (hb hby at_84)
    have N15 := Fr.snoc X15 N12 g_b10
    have K15 := (K12).wr W15 (Or.inr kw_b10)
    have Z15 : n0 ≤ h15.size := Nat.le_trans Z12 (Keep.of_wr W15).1
    have hk15 := Nat.le_trans hk12 (Keep.of_wr W15).1
    have V15 : Arv Z h15 b10 k10 .byte (8 : Int32) [(.int (nar .byte (((p1.toUInt32 >>> ((24 : Int32) &&& 31).toUInt32).toInt32).toInt8.toInt32))), (.int (nar .byte (((p1.toUInt32 >>> ((16 : Int32) &&& 31).toUInt32).toInt32).toInt8.toInt32))), (.int (0 : Int32)), (.int (0 : Int32)), (.int (0 : Int32)), (.int (0 : Int32)), (.int (0 : Int32)), (.int (0 : Int32))] (.int (0 : Int32)) := Arv.set Ar14 qk14 Sz14 Nn14 Hs14 Gs14 (fits_nar_byte _) W15 1 rfl (Nat.le_of_ble_eq_true rfl)
    have Fa16 := (((((((B1.wr W3).wr W5).ext E6).keep Kq7).ext E10).wr W12).wr W15)
    have Fa17 := (((F1_7.ext E10).other W12 (Or.inl ne_b6_b10)).other W15 (Or.inl ne_b6_b10))
    have Fa18 := (((F2_7.ext E10).other W12 (Or.inl ne_b6_b10)).other W15 (Or.inl ne_b6_b10))
    have Fa19 := (((F3_7.ext E10).other W12 (Or.inl ne_b6_b10)).other W15 (Or.inl ne_b6_b10))
    have Fa20 := (((F4_7.ext E10).other W12 (Or.inl ne_b6_b10)).other W15 (Or.inl ne_b6_b10))
    have Fa21 := (((F5_7.ext E10).other W12 (Or.inl ne_b6_b10)).other W15 (Or.inl ne_b6_b10))
    have Fa22 := (((F6_7.ext E10).other W12 (Or.inl ne_b6_b10)).other W15 (Or.inl ne_b6_b10))
    refine own_st st15 ?_
    show own_Gl _ _ _ _ _ _ _ _ (T15.setTop (mkF m 85 #[.val (.int p0), .val (.int p1), .val (.int p2), .val (.int p3), .val (.int p4), .val (.ref b1), .val (.ref b6), .val (.ref b10), .unset] []))
    refine own_st (A' := T15.setTop (mkF m 93 #[.val (.int p0), .val (.int p1), .val (.int p2), .val (.int p3), .val (.int p4), .val (.ref b1), .val (.ref b6), .val (.ref b10), .unset] [(.int (((p1.toUInt32 >>> ((8 : Int32) &&& 31).toUInt32).toInt32).toInt8.toInt32)), (.int (2 : Int32)), (.ref b10)])) (fun tg kt => ?_) ?_
    · show Steps p.tables e below (T15.setTop (mkF m 85 #[.val (.int p0), .val (.int p1), .val (.int p2), .val (.int p3), .val (.int p4), .val (.ref b1), .val (.ref b6), .val (.ref b10), .unset] [])) _
      refine XS.aload X15.here hx rfl (hb hby at_85) rfl rfl ?_
      show Steps p.tables e below (T15.setTop (mkF m 87 #[.val (.int p0), .val (.int p1), .val (.int p2), .val (.int p3), .val (.int p4), .val (.ref b1), .val (.ref b6), .val (.ref b10), .unset] [(.ref b10)])) _
      refine XS.iconst X15.here hx rfl (hb hby at_87) ?_
      show Steps p.tables e below (T15.setTop (mkF m 88 #[.val (.int p0), .val (.int p1), .val (.int p2), .val (.int p3), .val (.int p4), .val (.ref b1), .val (.ref b6), .val (.ref b10), .unset] [(.int (2 : Int32)), (.ref b10)])) _
      refine XS.iloadN X15.here hx rfl (hb hby at_88) rfl ?_
      show Steps p.tables e below (T15.setTop (mkF m 89 #[.val (.int p0), .val (.int p1), .val (.int p2), .val (.int p3), .val (.int p4), .val (.ref b1), .val (.ref b6), .val (.ref b10), .unset] [(.int p1), (.int (2 : Int32)), (.ref b10)])) _
      refine XS.bipush X15.here hx rfl (hb hby at_89) ?_
      show Steps p.tables e below (T15.setTop (mkF m 91 #[.val (.int p0), .val (.int p1), .val (.int p2), .val (.int p3), .val (.int p4), .val (.ref b1), .val (.ref b6), .val (.ref b10), .unset] [(.int (8 : Int32)), (.int p1), (.int (2 : Int32)), (.ref b10)])) _
      refine XS.iushr X15.here hx rfl (hb hby at_91) rfl ?_
      show Steps p.tables e below (T15.setTop (mkF m 92 #[.val (.int p0), .val (.int p1), .val (.int p2), .val (.int p3), .val (.int p4), .val (.ref b1), .val (.ref b6), .val (.ref b10), .unset] [(.int ((p1.toUInt32 >>> ((8 : Int32) &&& 31).toUInt32).toInt32)), (.int (2 : Int32)), (.ref b10)])) _
      refine XS.i2b X15.here hx rfl (hb hby at_92) rfl ?_
      exact kt
    have Vt23 := V15
    obtain ⟨cl23, Ar23, qk23, Sz23, Nn23, Hs23, Gs23⟩ := Vt23
    have hin23 := inb_of (j := (2 : Int32)) Sz23 ⟨by decide, by decide⟩
    obtain ⟨T24, h24, X24, e24, W24, st24⟩ := stB X15 hx hZ7 e15 Ar23 (j := (2 : Int32)) hin23 (g := (mkF m 93 #[.val (.int p0), .val (.int p1), .val (.int p2), .val (.int p3), .val (.int p4), .val (.ref b1), .val (.ref b6), .val (.ref b10), .unset] [(.int (((p1.toUInt32 >>> ((8 : Int32) &&& 31).toUInt32).toInt32).toInt8.toInt32)), (.int (2 : Int32)), (.ref b10)])) rfl rfl (hb hby at_93)
    have N24 := Fr.snoc X24 N15 g_b10
    have K24 := (K15).wr W24 (Or.inr kw_b10)
    have Z24 : n0 ≤ h24.size := Nat.le_trans Z15 (Keep.of_wr W24).1
    have hk24 := Nat.le_trans hk15 (Keep.of_wr W24).1
    have V24 : Arv Z h24 b10 k10 .byte (8 : Int32) [(.int (nar .byte (((p1.toUInt32 >>> ((24 : Int32) &&& 31).toUInt32).toInt32).toInt8.toInt32))), (.int (nar .byte (((p1.toUInt32 >>> ((16 : Int32) &&& 31).toUInt32).toInt32).toInt8.toInt32))), (.int (nar .byte (((p1.toUInt32 >>> ((8 : Int32) &&& 31).toUInt32).toInt32).toInt8.toInt32))), (.int (0 : Int32)), (.int (0 : Int32)), (.int (0 : Int32)), (.int (0 : Int32)), (.int (0 : Int32))] (.int (0 : Int32)) := Arv.set Ar23 qk23 Sz23 Nn23 Hs23 Gs23 (fits_nar_byte _) W24 2 rfl (Nat.le_of_ble_eq_true rfl)
    have Fa25 := ((((Vq7.ext E10).other W12 ne_x2_b10).other W15 ne_x2_b10).other W24 ne_x2_b10)
    refine own_st st24 ?_
    show own_Gl _ _ _ _ _ _ _ _ (T24.setTop (mkF m 94 #[.val (.int p0), .val (.int p1), .val (.int p2), .val (.int p3), .val (.int p4), .val (.ref b1), .val (.ref b6), .val (.ref b10), .unset] []))
    refine own_st (A' := T24.setTop (mkF m 99 #[.val (.int p0), .val (.int p1), .val (.int p2), .val (.int p3), .val (.int p4), .val (.ref b1), .val (.ref b6), .val (.ref b10), .unset] [(.int (p1.toInt8.toInt32)), (.int (3 : Int32)), (.ref b10)])) (fun tg kt => ?_) ?_
    · show Steps p.tables e below (T24.setTop (mkF m 94 #[.val (.int p0), .val (.int p1), .val (.int p2), .val (.int p3), .val (.int p4), .val (.ref b1), .val (.ref b6), .val (.ref b10), .unset] [])) _
      refine XS.aload X24.here hx rfl (hb hby at_94) rfl rfl ?_
      show Steps p.tables e below (T24.setTop (mkF m 96 #[.val (.int p0), .val (.int p1), .val (.int p2), .val (.int p3), .val (.int p4), .val (.ref b1), .val (.ref b6), .val (.ref b10), .unset] [(.ref b10)])) _
      refine XS.iconst X24.here hx rfl (hb hby at_96) ?_
      show Steps p.tables e below (T24.setTop (mkF m 97 #[.val (.int p0), .val (.int p1), .val (.int p2), .val (.int p3), .val (.int p4), .val (.ref b1), .val (.ref b6), .val (.ref b10), .unset] [(.int (3 : Int32)), (.ref b10)])) _
      refine XS.iloadN X24.here hx rfl (hb hby at_97) rfl ?_
      show Steps p.tables e below (T24.setTop (mkF m 98 #[.val (.int p0), .val (.int p1), .val (.int p2), .val (.int p3), .val (.int p4), .val (.ref b1), .val (.ref b6), .val (.ref b10), .unset] [(.int p1), (.int (3 : Int32)), (.ref b10)])) _
      refine XS.i2b X24.here hx rfl (hb hby at_98) rfl ?_
      exact kt
    have Vt26 := V24
    obtain ⟨cl26, Ar26, qk26, Sz26, Nn26, Hs26, Gs26⟩ := Vt26
    have hin26 := inb_of (j := (3 : Int32)) Sz26 ⟨by decide, by decide⟩
    obtain ⟨T27, h27, X27, e27, W27, st27⟩ := stB X24 hx hZ7 e24 Ar26 (j := (3 : Int32)) hin26 (g := (mkF m 99 #[.val (.int p0), .val (.int p1), .val (.int p2), .val (.int p3), .val (.int p4), .val (.ref b1), .val (.ref b6), .val (.ref b10), .unset] [(.int (p1.toInt8.toInt32)), (.int (3 : Int32)), (.ref b10)])) rfl rfl (hb hby at_99)
    have N27 := Fr.snoc X27 N24 g_b10
    have K27 := (K24).wr W27 (Or.inr kw_b10)
    have Z27 : n0 ≤ h27.size := Nat.le_trans Z24 (Keep.of_wr W27).1
    have hk27 := Nat.le_trans hk24 (Keep.of_wr W27).1
    have V27 : Arv Z h27 b10 k10 .byte (8 : Int32) [(.int (nar .byte (((p1.toUInt32 >>> ((24 : Int32) &&& 31).toUInt32).toInt32).toInt8.toInt32))), (.int (nar .byte (((p1.toUInt32 >>> ((16 : Int32) &&& 31).toUInt32).toInt32).toInt8.toInt32))), (.int (nar .byte (((p1.toUInt32 >>> ((8 : Int32) &&& 31).toUInt32).toInt32).toInt8.toInt32))), (.int (nar .byte (p1.toInt8.toInt32))), (.int (0 : Int32)), (.int (0 : Int32)), (.int (0 : Int32)), (.int (0 : Int32))] (.int (0 : Int32)) := Arv.set Ar26 qk26 Sz26 Nn26 Hs26 Gs26 (fits_nar_byte _) W27 3 rfl (Nat.le_of_ble_eq_true rfl)
    have Fa28 := (((Fa13.other W15 ne_b1_b10).other W24 ne_b1_b10).other W27 ne_b1_b10)
    have Fa29 := ((Fa17.other W24 (Or.inl ne_b6_b10)).other W27 (Or.inl ne_b6_b10))
    have Fa30 := ((Fa18.other W24 (Or.inl ne_b6_b10)).other W27 (Or.inl ne_b6_b10))
    have Fa31 := ((Fa19.other W24 (Or.inl ne_b6_b10)).other W27 (Or.inl ne_b6_b10))
    have Fa32 := ((Fa20.other W24 (Or.inl ne_b6_b10)).other W27 (Or.inl ne_b6_b10))
    have Fa33 := ((Fa21.other W24 (Or.inl ne_b6_b10)).other W27 (Or.inl ne_b6_b10))
    have Fa34 := ((Fa22.other W24 (Or.inl ne_b6_b10)).other W27 (Or.inl ne_b6_b10))
    refine own_st st27 ?_
    show own_Gl _ _ _ _ _ _ _ _ (T27.setTop (mkF m 100 #[.val (.int p0), .val (.int p1), .val (.int p2), .val (.int p3), .val (.int p4), .val (.ref b1), .val (.ref b6), .val (.ref b10), .unset] []))
    refine own_st (A' := T27.setTop (mkF m 108 #[.val (.int p0), .val (.int p1), .val (.int p2), .val (.int p3), .val (.int p4), .val (.ref b1), .val (.ref b6), .val (.ref b10), .unset] [(.int (((p0.toUInt32 >>> ((24 : Int32) &&& 31).toUInt32).toInt32).toInt8.toInt32)), (.int (4 : Int32)), (.ref b10)])) (fun tg kt => ?_) ?_
    · show Steps p.tables e below (T27.setTop (mkF m 100 #[.val (.int p0), .val (.int p1), .val (.int p2), .val (.int p3), .val (.int p4), .val (.ref b1), .val (.ref b6), .val (.ref b10), .unset] [])) _
      refine XS.aload X27.here hx rfl (hb hby at_100) rfl rfl ?_
      show Steps p.tables e below (T27.setTop (mkF m 102 #[.val (.int p0), .val (.int p1), .val (.int p2), .val (.int p3), .val (.int p4), .val (.ref b1), .val (.ref b6), .val (.ref b10), .unset] [(.ref b10)])) _
      refine XS.iconst X27.here hx rfl (hb hby at_102) ?_
      show Steps p.tables e below (T27.setTop (mkF m 103 #[.val (.int p0), .val (.int p1), .val (.int p2), .val (.int p3), .val (.int p4), .val (.ref b1), .val (.ref b6), .val (.ref b10), .unset] [(.int (4 : Int32)), (.ref b10)])) _
      refine XS.iloadN X27.here hx rfl (hb hby at_103) rfl ?_
      show Steps p.tables e below (T27.setTop (mkF m 104 #[.val (.int p0), .val (.int p1), .val (.int p2), .val (.int p3), .val (.int p4), .val (.ref b1), .val (.ref b6), .val (.ref b10), .unset] [(.int p0), (.int (4 : Int32)), (.ref b10)])) _
      refine XS.bipush X27.here hx rfl (hb hby at_104) ?_
      show Steps p.tables e below (T27.setTop (mkF m 106 #[.val (.int p0), .val (.int p1), .val (.int p2), .val (.int p3), .val (.int p4), .val (.ref b1), .val (.ref b6), .val (.ref b10), .unset] [(.int (24 : Int32)), (.int p0), (.int (4 : Int32)), (.ref b10)])) _
      refine XS.iushr X27.here hx rfl (hb hby at_106) rfl ?_
      show Steps p.tables e below (T27.setTop (mkF m 107 #[.val (.int p0), .val (.int p1), .val (.int p2), .val (.int p3), .val (.int p4), .val (.ref b1), .val (.ref b6), .val (.ref b10), .unset] [(.int ((p0.toUInt32 >>> ((24 : Int32) &&& 31).toUInt32).toInt32)), (.int (4 : Int32)), (.ref b10)])) _
      refine XS.i2b X27.here hx rfl (hb hby at_107) rfl ?_
      exact kt
    have Vt35 := V27
    obtain ⟨cl35, Ar35, qk35, Sz35, Nn35, Hs35, Gs35⟩ := Vt35
    have hin35 := inb_of (j := (4 : Int32)) Sz35 ⟨by decide, by decide⟩
    obtain ⟨T36, h36, X36, e36, W36, st36⟩ := stB X27 hx hZ7 e27 Ar35 (j := (4 : Int32)) hin35 (g := (mkF m 108 #[.val (.int p0), .val (.int p1), .val (.int p2), .val (.int p3), .val (.int p4), .val (.ref b1), .val (.ref b6), .val (.ref b10), .unset] [(.int (((p0.toUInt32 >>> ((24 : Int32) &&& 31).toUInt32).toInt32).toInt8.toInt32)), (.int (4 : Int32)), (.ref b10)])) rfl rfl (hb hby at_108)
    have N36 := Fr.snoc X36 N27 g_b10
    have K36 := (K27).wr W36 (Or.inr kw_b10)
    have Z36 : n0 ≤ h36.size := Nat.le_trans Z27 (Keep.of_wr W36).1
    have hk36 := Nat.le_trans hk27 (Keep.of_wr W36).1
    have V36 : Arv Z h36 b10 k10 .byte (8 : Int32) [(.int (nar .byte (((p1.toUInt32 >>> ((24 : Int32) &&& 31).toUInt32).toInt32).toInt8.toInt32))), (.int (nar .byte (((p1.toUInt32 >>> ((16 : Int32) &&& 31).toUInt32).toInt32).toInt8.toInt32))), (.int (nar .byte (((p1.toUInt32 >>> ((8 : Int32) &&& 31).toUInt32).toInt32).toInt8.toInt32))), (.int (nar .byte (p1.toInt8.toInt32))), (.int (nar .byte (((p0.toUInt32 >>> ((24 : Int32) &&& 31).toUInt32).toInt32).toInt8.toInt32))), (.int (0 : Int32)), (.int (0 : Int32)), (.int (0 : Int32))] (.int (0 : Int32)) := Arv.set Ar35 qk35 Sz35 Nn35 Hs35 Gs35 (fits_nar_byte _) W36 4 rfl (Nat.le_of_ble_eq_true rfl)
    refine own_st st36 ?_
    show own_Gl _ _ _ _ _ _ _ _ (T36.setTop (mkF m 109 #[.val (.int p0), .val (.int p1), .val (.int p2), .val (.int p3), .val (.int p4), .val (.ref b1), .val (.ref b6), .val (.ref b10), .unset] []))
    refine own_st (A' := T36.setTop (mkF m 117 #[.val (.int p0), .val (.int p1), .val (.int p2), .val (.int p3), .val (.int p4), .val (.ref b1), .val (.ref b6), .val (.ref b10), .unset] [(.int (((p0.toUInt32 >>> ((16 : Int32) &&& 31).toUInt32).toInt32).toInt8.toInt32)), (.int (5 : Int32)), (.ref b10)])) (fun tg kt => ?_) ?_
    · show Steps p.tables e below (T36.setTop (mkF m 109 #[.val (.int p0), .val (.int p1), .val (.int p2), .val (.int p3), .val (.int p4), .val (.ref b1), .val (.ref b6), .val (.ref b10), .unset] [])) _
      refine XS.aload X36.here hx rfl (hb hby at_109) rfl rfl ?_
      show Steps p.tables e below (T36.setTop (mkF m 111 #[.val (.int p0), .val (.int p1), .val (.int p2), .val (.int p3), .val (.int p4), .val (.ref b1), .val (.ref b6), .val (.ref b10), .unset] [(.ref b10)])) _
      refine XS.iconst X36.here hx rfl (hb hby at_111) ?_
      show Steps p.tables e below (T36.setTop (mkF m 112 #[.val (.int p0), .val (.int p1), .val (.int p2), .val (.int p3), .val (.int p4), .val (.ref b1), .val (.ref b6), .val (.ref b10), .unset] [(.int (5 : Int32)), (.ref b10)])) _
      refine XS.iloadN X36.here hx rfl (hb hby at_112) rfl ?_
      show Steps p.tables e below (T36.setTop (mkF m 113 #[.val (.int p0), .val (.int p1), .val (.int p2), .val (.int p3), .val (.int p4), .val (.ref b1), .val (.ref b6), .val (.ref b10), .unset] [(.int p0), (.int (5 : Int32)), (.ref b10)])) _
      refine XS.bipush X36.here hx rfl (hb hby at_113) ?_
      show Steps p.tables e below (T36.setTop (mkF m 115 #[.val (.int p0), .val (.int p1), .val (.int p2), .val (.int p3), .val (.int p4), .val (.ref b1), .val (.ref b6), .val (.ref b10), .unset] [(.int (16 : Int32)), (.int p0), (.int (5 : Int32)), (.ref b10)])) _
      refine XS.iushr X36.here hx rfl (hb hby at_115) rfl ?_
      show Steps p.tables e below (T36.setTop (mkF m 116 #[.val (.int p0), .val (.int p1), .val (.int p2), .val (.int p3), .val (.int p4), .val (.ref b1), .val (.ref b6), .val (.ref b10), .unset] [(.int ((p0.toUInt32 >>> ((16 : Int32) &&& 31).toUInt32).toInt32)), (.int (5 : Int32)), (.ref b10)])) _
      refine XS.i2b X36.here hx rfl (hb hby at_116) rfl ?_
      exact kt
    have Vt37 := V36
    obtain ⟨cl37, Ar37, qk37, Sz37, Nn37, Hs37, Gs37⟩ := Vt37
    have hin37 := inb_of (j := (5 : Int32)) Sz37 ⟨by decide, by decide⟩
    obtain ⟨T38, h38, X38, e38, W38, st38⟩ := stB X36 hx hZ7 e36 Ar37 (j := (5 : Int32)) hin37 (g := (mkF m 117 #[.val (.int p0), .val (.int p1), .val (.int p2), .val (.int p3), .val (.int p4), .val (.ref b1), .val (.ref b6), .val (.ref b10), .unset] [(.int (((p0.toUInt32 >>> ((16 : Int32) &&& 31).toUInt32).toInt32).toInt8.toInt32)), (.int (5 : Int32)), (.ref b10)])) rfl rfl (hb hby at_117)
    have N38 := Fr.snoc X38 N36 g_b10
    have K38 := (K36).wr W38 (Or.inr kw_b10)
    have Z38 : n0 ≤ h38.size := Nat.le_trans Z36 (Keep.of_wr W38).1
    have hk38 := Nat.le_trans hk36 (Keep.of_wr W38).1
    have V38 : Arv Z h38 b10 k10 .byte (8 : Int32) [(.int (nar .byte (((p1.toUInt32 >>> ((24 : Int32) &&& 31).toUInt32).toInt32).toInt8.toInt32))), (.int (nar .byte (((p1.toUInt32 >>> ((16 : Int32) &&& 31).toUInt32).toInt32).toInt8.toInt32))), (.int (nar .byte (((p1.toUInt32 >>> ((8 : Int32) &&& 31).toUInt32).toInt32).toInt8.toInt32))), (.int (nar .byte (p1.toInt8.toInt32))), (.int (nar .byte (((p0.toUInt32 >>> ((24 : Int32) &&& 31).toUInt32).toInt32).toInt8.toInt32))), (.int (nar .byte (((p0.toUInt32 >>> ((16 : Int32) &&& 31).toUInt32).toInt32).toInt8.toInt32))), (.int (0 : Int32)), (.int (0 : Int32))] (.int (0 : Int32)) := Arv.set Ar37 qk37 Sz37 Nn37 Hs37 Gs37 (fits_nar_byte _) W38 5 rfl (Nat.le_of_ble_eq_true rfl)
    have Fa39 := (((((((Eq7.ext E10).wr W12).wr W15).wr W24).wr W27).wr W36).wr W38)
    have Fa40 := ((Fa29.other W36 (Or.inl ne_b6_b10)).other W38 (Or.inl ne_b6_b10))
    have Fa41 := ((Fa30.other W36 (Or.inl ne_b6_b10)).other W38 (Or.inl ne_b6_b10))
    have Fa42 := ((Fa31.other W36 (Or.inl ne_b6_b10)).other W38 (Or.inl ne_b6_b10))
    have Fa43 := ((Fa32.other W36 (Or.inl ne_b6_b10)).other W38 (Or.inl ne_b6_b10))
    have Fa44 := ((Fa33.other W36 (Or.inl ne_b6_b10)).other W38 (Or.inl ne_b6_b10))
    have Fa45 := ((Fa34.other W36 (Or.inl ne_b6_b10)).other W38 (Or.inl ne_b6_b10))
    have Fa46 := (((Fa25.other W27 ne_x2_b10).other W36 ne_x2_b10).other W38 ne_x2_b10)
    refine own_st st38 ?_
    show own_Gl _ _ _ _ _ _ _ _ (T38.setTop (mkF m 118 #[.val (.int p0), .val (.int p1), .val (.int p2), .val (.int p3), .val (.int p4), .val (.ref b1), .val (.ref b6), .val (.ref b10), .unset] []))
    refine own_st (A' := T38.setTop (mkF m 127 #[.val (.int p0), .val (.int p1), .val (.int p2), .val (.int p3), .val (.int p4), .val (.ref b1), .val (.ref b6), .val (.ref b10), .unset] [(.int (((p0.toUInt32 >>> ((8 : Int32) &&& 31).toUInt32).toInt32).toInt8.toInt32)), (.int (6 : Int32)), (.ref b10)])) (fun tg kt => ?_) ?_
    · show Steps p.tables e below (T38.setTop (mkF m 118 #[.val (.int p0), .val (.int p1), .val (.int p2), .val (.int p3), .val (.int p4), .val (.ref b1), .val (.ref b6), .val (.ref b10), .unset] [])) _
      refine XS.aload X38.here hx rfl (hb hby at_118) rfl rfl ?_
      show Steps p.tables e below (T38.setTop (mkF m 120 #[.val (.int p0), .val (.int p1), .val (.int p2), .val (.int p3), .val (.int p4), .val (.ref b1), .val (.ref b6), .val (.ref b10), .unset] [(.ref b10)])) _
      refine XS.bipush X38.here hx rfl (hb hby at_120) ?_
      show Steps p.tables e below (T38.setTop (mkF m 122 #[.val (.int p0), .val (.int p1), .val (.int p2), .val (.int p3), .val (.int p4), .val (.ref b1), .val (.ref b6), .val (.ref b10), .unset] [(.int (6 : Int32)), (.ref b10)])) _
      refine XS.iloadN X38.here hx rfl (hb hby at_122) rfl ?_
      show Steps p.tables e below (T38.setTop (mkF m 123 #[.val (.int p0), .val (.int p1), .val (.int p2), .val (.int p3), .val (.int p4), .val (.ref b1), .val (.ref b6), .val (.ref b10), .unset] [(.int p0), (.int (6 : Int32)), (.ref b10)])) _
      refine XS.bipush X38.here hx rfl (hb hby at_123) ?_
      show Steps p.tables e below (T38.setTop (mkF m 125 #[.val (.int p0), .val (.int p1), .val (.int p2), .val (.int p3), .val (.int p4), .val (.ref b1), .val (.ref b6), .val (.ref b10), .unset] [(.int (8 : Int32)), (.int p0), (.int (6 : Int32)), (.ref b10)])) _
      refine XS.iushr X38.here hx rfl (hb hby at_125) rfl ?_
      show Steps p.tables e below (T38.setTop (mkF m 126 #[.val (.int p0), .val (.int p1), .val (.int p2), .val (.int p3), .val (.int p4), .val (.ref b1), .val (.ref b6), .val (.ref b10), .unset] [(.int ((p0.toUInt32 >>> ((8 : Int32) &&& 31).toUInt32).toInt32)), (.int (6 : Int32)), (.ref b10)])) _
      refine XS.i2b X38.here hx rfl (hb hby at_126) rfl ?_
      exact kt
    have Vt47 := V38
    obtain ⟨cl47, Ar47, qk47, Sz47, Nn47, Hs47, Gs47⟩ := Vt47
    have hin47 := inb_of (j := (6 : Int32)) Sz47 ⟨by decide, by decide⟩
    obtain ⟨T48, h48, X48, e48, W48, st48⟩ := stB X38 hx hZ7 e38 Ar47 (j := (6 : Int32)) hin47 (g := (mkF m 127 #[.val (.int p0), .val (.int p1), .val (.int p2), .val (.int p3), .val (.int p4), .val (.ref b1), .val (.ref b6), .val (.ref b10), .unset] [(.int (((p0.toUInt32 >>> ((8 : Int32) &&& 31).toUInt32).toInt32).toInt8.toInt32)), (.int (6 : Int32)), (.ref b10)])) rfl rfl (hb hby at_127)
    have N48 := Fr.snoc X48 N38 g_b10
    have K48 := (K38).wr W48 (Or.inr kw_b10)
    have Z48 : n0 ≤ h48.size := Nat.le_trans Z38 (Keep.of_wr W48).1
    have hk48 := Nat.le_trans hk38 (Keep.of_wr W48).1
    have V48 : Arv Z h48 b10 k10 .byte (8 : Int32) [(.int (nar .byte (((p1.toUInt32 >>> ((24 : Int32) &&& 31).toUInt32).toInt32).toInt8.toInt32))), (.int (nar .byte (((p1.toUInt32 >>> ((16 : Int32) &&& 31).toUInt32).toInt32).toInt8.toInt32))), (.int (nar .byte (((p1.toUInt32 >>> ((8 : Int32) &&& 31).toUInt32).toInt32).toInt8.toInt32))), (.int (nar .byte (p1.toInt8.toInt32))), (.int (nar .byte (((p0.toUInt32 >>> ((24 : Int32) &&& 31).toUInt32).toInt32).toInt8.toInt32))), (.int (nar .byte (((p0.toUInt32 >>> ((16 : Int32) &&& 31).toUInt32).toInt32).toInt8.toInt32))), (.int (nar .byte (((p0.toUInt32 >>> ((8 : Int32) &&& 31).toUInt32).toInt32).toInt8.toInt32))), (.int (0 : Int32))] (.int (0 : Int32)) := Arv.set Ar47 qk47 Sz47 Nn47 Hs47 Gs47 (fits_nar_byte _) W48 6 rfl (Nat.le_of_ble_eq_true rfl)
    have Fa49 := (((Fa28.other W36 ne_b1_b10).other W38 ne_b1_b10).other W48 ne_b1_b10)
    have Fa50 := (((((((B10.wr W12).wr W15).wr W24).wr W27).wr W36).wr W38).wr W48)
    refine own_st st48 ?_
    show own_Gl _ _ _ _ _ _ _ _ (T48.setTop (mkF m 128 #[.val (.int p0), .val (.int p1), .val (.int p2), .val (.int p3), .val (.int p4), .val (.ref b1), .val (.ref b6), .val (.ref b10), .unset] []))
    refine own_st (A' := T48.setTop (mkF m 134 #[.val (.int p0), .val (.int p1), .val (.int p2), .val (.int p3), .val (.int p4), .val (.ref b1), .val (.ref b6), .val (.ref b10), .unset] [(.int (p0.toInt8.toInt32)), (.int (7 : Int32)), (.ref b10)])) (fun tg kt => ?_) ?_
    · show Steps p.tables e below (T48.setTop (mkF m 128 #[.val (.int p0), .val (.int p1), .val (.int p2), .val (.int p3), .val (.int p4), .val (.ref b1), .val (.ref b6), .val (.ref b10), .unset] [])) _
      refine XS.aload X48.here hx rfl (hb hby at_128) rfl rfl ?_
      show Steps p.tables e below (T48.setTop (mkF m 130 #[.val (.int p0), .val (.int p1), .val (.int p2), .val (.int p3), .val (.int p4), .val (.ref b1), .val (.ref b6), .val (.ref b10), .unset] [(.ref b10)])) _
      refine XS.bipush X48.here hx rfl (hb hby at_130) ?_
      show Steps p.tables e below (T48.setTop (mkF m 132 #[.val (.int p0), .val (.int p1), .val (.int p2), .val (.int p3), .val (.int p4), .val (.ref b1), .val (.ref b6), .val (.ref b10), .unset] [(.int (7 : Int32)), (.ref b10)])) _
      refine XS.iloadN X48.here hx rfl (hb hby at_132) rfl ?_
      show Steps p.tables e below (T48.setTop (mkF m 133 #[.val (.int p0), .val (.int p1), .val (.int p2), .val (.int p3), .val (.int p4), .val (.ref b1), .val (.ref b6), .val (.ref b10), .unset] [(.int p0), (.int (7 : Int32)), (.ref b10)])) _
      refine XS.i2b X48.here hx rfl (hb hby at_133) rfl ?_
      exact kt
    have Vt51 := V48
    obtain ⟨cl51, Ar51, qk51, Sz51, Nn51, Hs51, Gs51⟩ := Vt51
    have hin51 := inb_of (j := (7 : Int32)) Sz51 ⟨by decide, by decide⟩
    obtain ⟨T52, h52, X52, e52, W52, st52⟩ := stB X48 hx hZ7 e48 Ar51 (j := (7 : Int32)) hin51 (g := (mkF m 134 #[.val (.int p0), .val (.int p1), .val (.int p2), .val (.int p3), .val (.int p4), .val (.ref b1), .val (.ref b6), .val (.ref b10), .unset] [(.int (p0.toInt8.toInt32)), (.int (7 : Int32)), (.ref b10)])) rfl rfl (hb hby at_134)
    have N52 := Fr.snoc X52 N48 g_b10
    have K52 := (K48).wr W52 (Or.inr kw_b10)
    have Z52 : n0 ≤ h52.size := Nat.le_trans Z48 (Keep.of_wr W52).1
    have hk52 := Nat.le_trans hk48 (Keep.of_wr W52).1
    have V52 : Arv Z h52 b10 k10 .byte (8 : Int32) [(.int (nar .byte (((p1.toUInt32 >>> ((24 : Int32) &&& 31).toUInt32).toInt32).toInt8.toInt32))), (.int (nar .byte (((p1.toUInt32 >>> ((16 : Int32) &&& 31).toUInt32).toInt32).toInt8.toInt32))), (.int (nar .byte (((p1.toUInt32 >>> ((8 : Int32) &&& 31).toUInt32).toInt32).toInt8.toInt32))), (.int (nar .byte (p1.toInt8.toInt32))), (.int (nar .byte (((p0.toUInt32 >>> ((24 : Int32) &&& 31).toUInt32).toInt32).toInt8.toInt32))), (.int (nar .byte (((p0.toUInt32 >>> ((16 : Int32) &&& 31).toUInt32).toInt32).toInt8.toInt32))), (.int (nar .byte (((p0.toUInt32 >>> ((8 : Int32) &&& 31).toUInt32).toInt32).toInt8.toInt32))), (.int (nar .byte (p0.toInt8.toInt32)))] (.int (0 : Int32)) := Arv.set Ar51 qk51 Sz51 Nn51 Hs51 Gs51 (fits_nar_byte _) W52 7 rfl (Nat.le_of_ble_eq_true rfl)
    have Fa53 := ((Fa40.other W48 (Or.inl ne_b6_b10)).other W52 (Or.inl ne_b6_b10))
    have Fa54 := ((Fa41.other W48 (Or.inl ne_b6_b10)).other W52 (Or.inl ne_b6_b10))
    have Fa55 := ((Fa42.other W48 (Or.inl ne_b6_b10)).other W52 (Or.inl ne_b6_b10))
    have Fa56 := ((Fa43.other W48 (Or.inl ne_b6_b10)).other W52 (Or.inl ne_b6_b10))
    have Fa57 := ((Fa44.other W48 (Or.inl ne_b6_b10)).other W52 (Or.inl ne_b6_b10))
    have Fa58 := ((Fa45.other W48 (Or.inl ne_b6_b10)).other W52 (Or.inl ne_b6_b10))
    refine own_st st52 ?_
    show own_Gl _ _ _ _ _ _ _ _ (T52.setTop (mkF m 135 #[.val (.int p0), .val (.int p1), .val (.int p2), .val (.int p3), .val (.int p4), .val (.ref b1), .val (.ref b6), .val (.ref b10), .unset] []))
    refine own_st (A' := T52.setTop (mkF m 137 #[.val (.int p0), .val (.int p1), .val (.int p2), .val (.int p3), .val (.int p4), .val (.ref b1), .val (.ref b6), .val (.ref b10), .unset] [(.ref b6)])) (fun tg kt => ?_) ?_
    · show Steps p.tables e below (T52.setTop (mkF m 135 #[.val (.int p0), .val (.int p1), .val (.int p2), .val (.int p3), .val (.int p4), .val (.ref b1), .val (.ref b6), .val (.ref b10), .unset] [])) _
      refine XS.aload X52.here hx rfl (hb hby at_135) rfl rfl ?_
      exact kt
    obtain ⟨T59, X59, e59, st59⟩ := getS2 X52 hx hZ7 hown7 (host := "") (Or.inl (hw _ (List.mem_of_getElem? (i := 49) rfl))) Via.refl e52 (S_RESERVED.ext (own_kext K52)) (g := (mkF m 137 #[.val (.int p0), .val (.int p1), .val (.int p2), .val (.int p3), .val (.int p4), .val (.ref b1), .val (.ref b6), .val (.ref b10), .unset] [(.ref b6)])) rfl (hb hby at_137)
    refine own_st st59 ?_
    show own_Gl _ _ _ _ _ _ _ _ (T59.setTop (mkF m 140 #[.val (.int p0), .val (.int p1), .val (.int p2), .val (.int p3), .val (.int p4), .val (.ref b1), .val (.ref b6), .val (.ref b10), .unset] [(.ref a_RESERVED), (.ref b6)]))
    refine own_st (A' := T59.setTop (mkF m 142 #[.val (.int p0), .val (.int p1), .val (.int p2), .val (.int p3), .val (.int p4), .val (.ref b1), .val (.ref b6), .val (.ref b10), .unset] [(.ref b10), (.ref a_RESERVED), (.ref b6)])) (fun tg kt => ?_) ?_
    · show Steps p.tables e below (T59.setTop (mkF m 140 #[.val (.int p0), .val (.int p1), .val (.int p2), .val (.int p3), .val (.int p4), .val (.ref b1), .val (.ref b6), .val (.ref b10), .unset] [(.ref a_RESERVED), (.ref b6)])) _
      refine XS.aload X59.here hx rfl (hb hby at_140) rfl rfl ?_
      exact kt
    obtain ⟨cq60, kq60, q60a, q60b, q60c⟩ := isOf hZ7 e59 ((Fa39.wr W48).wr W52)
    obtain ⟨_, _, ⟨T60, L60, k60, n60⟩, -, X60, ⟨Lc60, hQ60, l60, y60, z60⟩, st60⟩ := X59.virtualBack hx (y := (⟨"com/example/tagwire/tagwire/sim/Tag", "withMemory", "(Lcom/example/tagwire/tagwire/gen2/MemoryBank;[B)Lcom/example/tagwire/tagwire/sim/Tag;"⟩ : MethodName)) (z := (⟨"com/example/tagwire/tagwire/sim/Tag", "withMemory", "(Lcom/example/tagwire/tagwire/gen2/MemoryBank;[B)Lcom/example/tagwire/tagwire/sim/Tag;"⟩ : MethodName)) hown7 (mvT hZ7 (hw _ (List.mem_of_getElem? (i := 52) rfl))) (mvT hZ7 (hw _ (List.mem_of_getElem? (i := 53) rfl))) (notFace_of_selects (args := #[]) (mvT hZ7 (hw _ (List.mem_of_getElem? (i := 55) rfl)))) (mvT hZ7 (hw _ (List.mem_of_getElem? (i := 55) rfl))) (mvT hZ7 (hw _ (List.mem_of_getElem? (i := 54) rfl))) (by decide) (backOf (W := 0) (rm5 l Z a0 hw [] b6 a_RESERVED b10 sm ks k10 x1 (p3 &&& (65535 : Int32)) ((p3 >>> ((16 : Int32) &&& 31)).toInt8.toInt32) x3 x4 (nar .byte (((p1.toUInt32 >>> ((24 : Int32) &&& 31).toUInt32).toInt32).toInt8.toInt32)) (nar .byte (((p1.toUInt32 >>> ((16 : Int32) &&& 31).toUInt32).toInt32).toInt8.toInt32)) (nar .byte (((p1.toUInt32 >>> ((8 : Int32) &&& 31).toUInt32).toInt32).toInt8.toInt32)) (nar .byte (p1.toInt8.toInt32)) (nar .byte (((p0.toUInt32 >>> ((24 : Int32) &&& 31).toUInt32).toInt32).toInt8.toInt32)) (nar .byte (((p0.toUInt32 >>> ((16 : Int32) &&& 31).toUInt32).toInt32).toInt8.toInt32)) (nar .byte (((p0.toUInt32 >>> ((8 : Int32) &&& 31).toUInt32).toInt32).toInt8.toInt32)) (nar .byte (p0.toInt8.toInt32)) h52 n0 Z52 (S_sm.ext (own_kext K52)) (Arv.ext Vsm (own_kext K52)) (E_RESERVED.ext (own_kext K52)) (F_RESERVED_ordinal.ext (own_kext K52)) V52 (Fa50.wr W52) Fa53 Fa54 Fa55 Fa57 Fa58) hZ7 (hw _ (List.mem_of_getElem? (i := 56) rfl)) (hw _ (List.mem_of_getElem? (i := 3) rfl)) (by decide) (by decide)) q60a q60c (g := (mkF m 142 #[.val (.int p0), .val (.int p1), .val (.int p2), .val (.int p3), .val (.int p4), .val (.ref b1), .val (.ref b6), .val (.ref b10), .unset] [(.ref b10), (.ref a_RESERVED), (.ref b6)])) rfl (by rw [hml]; rfl) (Steps.refl _) (argsL := [(.ref a_RESERVED), (.ref b10)]) (rest := []) (lenOf own_pd7 rfl) rfl (by show 2 * 0 + _ ≤ _; exact Nat.le_of_eq rfl) (hb hby at_142) (fun _ _ => ⟨rfl, e59, (by decide : 9 + 2 ≤ _), (by decide : 42 + 14 ≤ _)⟩)
    dsimp only [Pt.U, Pt.locs, Pt.cells, Pt.slots] at X60 l60 y60 z60 st60 hQ60
    subst l60 y60 z60
    obtain ⟨nt, y2, kr2, rfl, Nq60, Kq60, Eq60, Fq60, Vq60⟩ := hQ60
    have N60 := Fr.app N52 Nq60
    have Fa61 := (((((((Fa16.wr W24).wr W27).wr W36).wr W38).wr W48).wr W52).keep Kq60)
    have Fa62 := (((Fa46.other W48 ne_x2_b10).other W52 ne_x2_b10).keep Kq60 nin0)
    have Z60 : n0 ≤ T60.heap.size := Nat.le_trans Z52 Kq60.1
    have hk60 := Nat.le_trans hk52 Kq60.1
    refine own_tr st60 ?_
    show own_Gl _ _ _ _ _ _ _ _ (T60.setTop (mkF m 145 #[.val (.int p0), .val (.int p1), .val (.int p2), .val (.int p3), .val (.int p4), .val (.ref b1), .val (.ref b6), .val (.ref b10), .unset] [(.ref nt)]))
    refine own_st (A' := T60.setTop (mkF m 149 #[.val (.int p0), .val (.int p1), .val (.int p2), .val (.int p3), .val (.int p4), .val (.ref b1), .val (.ref b6), .val (.ref b10), .val (.ref nt)] [(.ref nt)])) (fun tg kt => ?_) ?_
    · show Steps p.tables e below (T60.setTop (mkF m 145 #[.val (.int p0), .val (.int p1), .val (.int p2), .val (.int p3), .val (.int p4), .val (.ref b1), .val (.ref b6), .val (.ref b10), .unset] [(.ref nt)])) _
      refine XS.astore X60.here hx rfl (hb hby at_145) rfl rfl (l' := #[.val (.int p0), .val (.int p1), .val (.int p2), .val (.int p3), .val (.int p4), .val (.ref b1), .val (.ref b6), .val (.ref b10), .val (.ref nt)]) rfl ?_
      show Steps p.tables e below (T60.setTop (mkF m 147 #[.val (.int p0), .val (.int p1), .val (.int p2), .val (.int p3), .val (.int p4), .val (.ref b1), .val (.ref b6), .val (.ref b10), .val (.ref nt)] [])) _
      refine XS.aload X60.here hx rfl (hb hby at_147) rfl rfl ?_
      exact kt
    obtain ⟨cq63, kq63, q63a, q63b, q63c⟩ := isOf hZ7 rfl Eq60
    obtain ⟨_, _, ⟨T63, L63, k63, n63⟩, -, X63, ⟨Lc63, hQ63, l63, y63, z63⟩, st63⟩ := X60.virtualBack hx (y := (⟨"com/example/tagwire/tagwire/sim/Tag", "accessPassword", "()I"⟩ : MethodName)) (z := (⟨"com/example/tagwire/tagwire/sim/Tag", "accessPassword", "()I"⟩ : MethodName)) hown7 (mvT hZ7 (hw _ (List.mem_of_getElem? (i := 44) rfl))) (mvT hZ7 (hw _ (List.mem_of_getElem? (i := 45) rfl))) (notFace_of_selects (args := #[]) (mvT hZ7 (hw _ (List.mem_of_getElem? (i := 47) rfl)))) (mvT hZ7 (hw _ (List.mem_of_getElem? (i := 47) rfl))) (mvT hZ7 (hw _ (List.mem_of_getElem? (i := 46) rfl))) (by decide) (backOf (W := 0) (rm4 l Z a0 hw [] nt y2 kr2 (nar .byte (((p1.toUInt32 >>> ((24 : Int32) &&& 31).toUInt32).toInt32).toInt8.toInt32)) (nar .byte (((p1.toUInt32 >>> ((16 : Int32) &&& 31).toUInt32).toInt32).toInt8.toInt32)) (nar .byte (((p1.toUInt32 >>> ((8 : Int32) &&& 31).toUInt32).toInt32).toInt8.toInt32)) (nar .byte (p1.toInt8.toInt32)) (nar .byte (((p0.toUInt32 >>> ((24 : Int32) &&& 31).toUInt32).toInt32).toInt8.toInt32)) (nar .byte (((p0.toUInt32 >>> ((16 : Int32) &&& 31).toUInt32).toInt32).toInt8.toInt32)) (nar .byte (((p0.toUInt32 >>> ((8 : Int32) &&& 31).toUInt32).toInt32).toInt8.toInt32)) (nar .byte (p0.toInt8.toInt32)) T60.heap n0 Z60 Fq60 Vq60) hZ7 (hw _ (List.mem_of_getElem? (i := 48) rfl)) (hw _ (List.mem_of_getElem? (i := 3) rfl)) (by decide) (by decide)) q63a q63c (g := (mkF m 149 #[.val (.int p0), .val (.int p1), .val (.int p2), .val (.int p3), .val (.int p4), .val (.ref b1), .val (.ref b6), .val (.ref b10), .val (.ref nt)] [(.ref nt)])) rfl (by rw [hml]; rfl) (Steps.refl _) (argsL := []) (rest := []) (lenOf own_pd4 rfl) rfl (by show 2 * 0 + _ ≤ _; exact Nat.le_of_eq rfl) (hb hby at_149) (fun _ _ => ⟨rfl, rfl, (by decide : 11 + 0 ≤ _), (by decide : 56 + 0 ≤ _)⟩)
    dsimp only [Pt.U, Pt.locs, Pt.cells, Pt.slots] at X63 l63 y63 z63 st63 hQ63
    subst l63 y63 z63
    unfold Q4 at hQ63; rw [show own_pw (nar .byte (((p0.toUInt32 >>> ((24 : Int32) &&& 31).toUInt32).toInt32).toInt8.toInt32)) (nar .byte (((p0.toUInt32 >>> ((16 : Int32) &&& 31).toUInt32).toInt32).toInt8.toInt32)) (nar .byte (((p0.toUInt32 >>> ((8 : Int32) &&& 31).toUInt32).toInt32).toInt8.toInt32)) (nar .byte (p0.toInt8.toInt32)) = p0 from own_pw_eq p0] at hQ63
    obtain ⟨rfl, Nq63, eq63⟩ := hQ63
    have N63 := Fr.app N60 Nq63
    refine own_tr st63 ?_
    show own_Gl _ _ _ _ _ _ _ _ (T63.setTop (mkF m 152 #[.val (.int p0), .val (.int p1), .val (.int p2), .val (.int p3), .val (.int p4), .val (.ref b1), .val (.ref b6), .val (.ref b10), .val (.ref nt)] [(.int p0)]))
    refine own_st (A' := T63.setTop (mkF m 158 #[.val (.int p0), .val (.int p1), .val (.int p2), .val (.int p3), .val (.int p4), .val (.ref b1), .val (.ref b6), .val (.ref b10), .val (.ref nt)] [(.ref b6)])) (fun tg kt => ?_) ?_
    · show Steps p.tables e below (T63.setTop (mkF m 152 #[.val (.int p0), .val (.int p1), .val (.int p2), .val (.int p3), .val (.int p4), .val (.ref b1), .val (.ref b6), .val (.ref b10), .val (.ref nt)] [(.int p0)])) _
      refine XS.iloadN X63.here hx rfl (hb hby at_152) rfl ?_
      show Steps p.tables e below (T63.setTop (mkF m 153 #[.val (.int p0), .val (.int p1), .val (.int p2), .val (.int p3), .val (.int p4), .val (.ref b1), .val (.ref b6), .val (.ref b10), .val (.ref nt)] [(.int p0), (.int p0)])) _
      refine XS.icmpNo X63.here hx rfl (hb hby at_153) rfl (teq (rfl : p0 = p0)).2 ?_
      show Steps p.tables e below (T63.setTop (mkF m 156 #[.val (.int p0), .val (.int p1), .val (.int p2), .val (.int p3), .val (.int p4), .val (.ref b1), .val (.ref b6), .val (.ref b10), .val (.ref nt)] [])) _
      refine XS.aload X63.here hx rfl (hb hby at_156) rfl rfl ?_
      exact kt
    obtain ⟨cq64, kq64, q64a, q64b, q64c⟩ := isOf hZ7 eq63 (((Fa39.wr W48).wr W52).keep Kq60)
    obtain ⟨_, _, ⟨T64, L64, k64, n64⟩, -, X64, ⟨Lc64, hQ64, l64, y64, z64⟩, st64⟩ := X63.virtualBack hx (y := (⟨"com/example/tagwire/tagwire/sim/Tag", "accessPassword", "()I"⟩ : MethodName)) (z := (⟨"com/example/tagwire/tagwire/sim/Tag", "accessPassword", "()I"⟩ : MethodName)) hown7 (mvT hZ7 (hw _ (List.mem_of_getElem? (i := 44) rfl))) (mvT hZ7 (hw _ (List.mem_of_getElem? (i := 45) rfl))) (notFace_of_selects (args := #[]) (mvT hZ7 (hw _ (List.mem_of_getElem? (i := 47) rfl)))) (mvT hZ7 (hw _ (List.mem_of_getElem? (i := 47) rfl))) (mvT hZ7 (hw _ (List.mem_of_getElem? (i := 46) rfl))) (by decide) (backOf (W := 0) (rm4 l Z a0 hw [] b6 x2 kr (0 : Int32) (0 : Int32) (0 : Int32) (0 : Int32) (0 : Int32) (0 : Int32) (0 : Int32) (0 : Int32) T60.heap n0 Z60 (Fa56.keep Kq60 nin0) Fa62) hZ7 (hw _ (List.mem_of_getElem? (i := 48) rfl)) (hw _ (List.mem_of_getElem? (i := 3) rfl)) (by decide) (by decide)) q64a q64c (g := (mkF m 158 #[.val (.int p0), .val (.int p1), .val (.int p2), .val (.int p3), .val (.int p4), .val (.ref b1), .val (.ref b6), .val (.ref b10), .val (.ref nt)] [(.ref b6)])) rfl (by rw [hml]; rfl) (Steps.refl _) (argsL := []) (rest := []) (lenOf own_pd4 rfl) rfl (by show 2 * 0 + _ ≤ _; exact Nat.le_of_eq rfl) (hb hby at_158) (fun _ _ => ⟨rfl, eq63, (by decide : 11 + 0 ≤ _), (by decide : 56 + 0 ≤ _)⟩)
    dsimp only [Pt.U, Pt.locs, Pt.cells, Pt.slots] at X64 l64 y64 z64 st64 hQ64
    subst l64 y64 z64
    unfold Q4 at hQ64; rw [show own_pw (0 : Int32) (0 : Int32) (0 : Int32) (0 : Int32) = (0 : Int32) from by decide] at hQ64
    obtain ⟨rfl, Nq64, eq64⟩ := hQ64
    have N64 := Fr.app N63 Nq64
    refine own_tr st64 ?_
    show own_Gl _ _ _ _ _ _ _ _ (T64.setTop (mkF m 161 #[.val (.int p0), .val (.int p1), .val (.int p2), .val (.int p3), .val (.int p4), .val (.ref b1), .val (.ref b6), .val (.ref b10), .val (.ref nt)] [(.int (0 : Int32))]))
    refine own_st (A' := T64.setTop (mkF m 169 #[.val (.int p0), .val (.int p1), .val (.int p2), .val (.int p3), .val (.int p4), .val (.ref b1), .val (.ref b6), .val (.ref b10), .val (.ref nt)] [(.int (1 : Int32))])) (fun tg kt => ?_) ?_
    · show Steps p.tables e below (T64.setTop (mkF m 161 #[.val (.int p0), .val (.int p1), .val (.int p2), .val (.int p3), .val (.int p4), .val (.ref b1), .val (.ref b6), .val (.ref b10), .val (.ref nt)] [(.int (0 : Int32))])) _
      refine XS.ifNo X64.here hx rfl (hb hby at_161) rfl ((if0 _ _).trans (teq ((by decide) : (0 : Int32) = (0 : Int32))).2) ?_
      show Steps p.tables e below (T64.setTop (mkF m 164 #[.val (.int p0), .val (.int p1), .val (.int p2), .val (.int p3), .val (.int p4), .val (.ref b1), .val (.ref b6), .val (.ref b10), .val (.ref nt)] [])) _
      refine XS.iconst X64.here hx rfl (hb hby at_164) ?_
      show Steps p.tables e below (T64.setTop (mkF m 165 #[.val (.int p0), .val (.int p1), .val (.int p2), .val (.int p3), .val (.int p4), .val (.ref b1), .val (.ref b6), .val (.ref b10), .val (.ref nt)] [(.int (1 : Int32))])) _
      refine XS.goto X64.here hx rfl (pc0 := 165) (pc' := 169) rfl (hb hby at_165) (by decide) (by decide) ?_
      exact kt
    refine own_retW X64 hS7 (by rw [eq64]; exact hk60) (v := some (.int (1 : Int32))) (fun h => by rw [Bd.returns] at h; cases h) hlk (by decide) (by decide) ?_ (fun fs hr => ?_)
    · show Q0 Z p0 p1 p2 p3 p4 a_RESERVED sm ks h0 n0 (some (.int (1 : Int32))) T64.heap _
      rw [eq64]
      exact ⟨rfl, N64⟩
    · show Steps p.tables e below (T64.setTop (mkF m 169 #[.val (.int p0), .val (.int p1), .val (.int p2), .val (.int p3), .val (.int p4), .val (.ref b1), .val (.ref b6), .val (.ref b10), .val (.ref nt)] [(.int (1 : Int32))])) _
      exact retN X64 hx (t := .boolean) Bd.returns (by simp) (hb hby at_169) hr
set_option maxRecDepth 65536 in
set_option maxHeartbeats 40000000 in
theorem comes_1 {Post : Tables → Env → Array Value → State → Outcome → State → Prop} (hpost : ∀ tb e args s v u, (limb_1_1.after args s (.returned v) u = true ∧ limb_1_2.after args s (.returned v) u = true ∧ True) → ReturnedEndW s (.returned v) u (Jvm.fieldLocs frame_1_writes args s ++ Jvm.arrayLocs frame_1_arrays args s ++ Jvm.staticLocs frame_1_statics s) 32 1216 → Post tb e args s (.returned v) u) :
    ArmFor flags0 classFile x code maxLocals ret World_1 tables_1 room_1 Calls_1 rest_1 Pre_1 Post := by
  intro l hfl _ _ p e ha hc hk s m args below hf hA hF happ hP
  obtain ⟨hcalls, hrest, hpre⟩ := hP
  obtain ⟨-, -, -, hnamed, -, -, -, hat⟩ := (Spec.applies_iff hf).mp happ
  obtain ⟨hg, hn⟩ := and_e (Cond.before_iff.mp (show (Jvm.Cond.and given_1 narrow_1).before args s = true from hpre))
  obtain ⟨gg1, gg2⟩ := and_e hg
  obtain ⟨gg3, gg4⟩ := and_e gg2
  obtain ⟨gg5, gg6⟩ := and_e gg4
  obtain ⟨gg7, gg8⟩ := and_e gg6
  obtain ⟨gg9, gg10⟩ := and_e gg8
  obtain ⟨w0, w1, w2, w3, w4, rfl⟩ : ∃ w0 w1 w2 w3 w4 : Value, args = #[w0, w1, w2, w3, w4] := by
    have hs : args.size = 5 := by simpa [Cond.value, given_1] using gg1
    obtain ⟨L⟩ := args
    match L, hs with
    | [w0, w1, w2, w3, w4], _ => exact ⟨w0, w1, w2, w3, w4, rfl⟩
  have hw := fun d (hd : d ∈ tables_1) => atoms_spec (ws := Jvm.Cond.code x code maxLocals ret :: tables_1) hat d (List.mem_cons_of_mem _ hd)
  have hfit : Fit s := fun {y c} hc i hi => by
    obtain ⟨ha, rfl⟩ := Array.getElem?_eq_some_iff.mp hc
    have q := List.all_eq_true.mp ((Array.all_eq_true_iff_forall_mem.mp hF) _ (Array.getElem_mem ha)) i (List.mem_range.mpr hi)
    simpa [Array.getElem?_eq_getElem hi] using q
  obtain ⟨i0, ei0⟩ := is_v gg3
  obtain rfl : w0 = (.int i0) := Option.some.inj ei0
  obtain ⟨i1, ei1⟩ := is_v gg5
  obtain rfl : w1 = (.int i1) := Option.some.inj ei1
  obtain ⟨i2, ei2⟩ := is_v gg7
  obtain rfl : w2 = (.int i2) := Option.some.inj ei2
  obtain ⟨i3, ei3⟩ := is_v gg9
  obtain rfl : w3 = (.int i3) := Option.some.inj ei3
  obtain ⟨i4, ei4⟩ := is_v gg10
  obtain rfl : w4 = (.int i4) := Option.some.inj ei4
  obtain ⟨nn1, nn2⟩ := and_e hn
  obtain ⟨nn3, nn4⟩ := and_e nn2
  obtain ⟨nn5, nn6⟩ := and_e nn4
  obtain ⟨nn7, nn8⟩ := and_e nn6
  obtain ⟨nn9, nn10⟩ := and_e nn8
  obtain ⟨nn11, nn12⟩ := and_e nn10
  obtain ⟨nn13, nn14⟩ := and_e nn12
  obtain ⟨a_RESERVED, ev_RESERVED⟩ := exa_v nn1
  have S_RESERVED : Sta s s.heap "com/example/tagwire/tagwire/gen2/MemoryBank" "RESERVED" "Lcom/example/tagwire/tagwire/gen2/MemoryBank;" (.ref a_RESERVED) := Sta.start ev_RESERVED (Or.inr ⟨(hw _ (List.mem_of_getElem? (i := 50) rfl)), (hw _ (List.mem_of_getElem? (i := 51) rfl))⟩)
  have E_RESERVED : Exa s s.heap a_RESERVED "com/example/tagwire/tagwire/gen2/MemoryBank" := Exa.start ev_RESERVED nn1
  have F_RESERVED_ordinal : Fld s s.heap a_RESERVED "java/lang/Enum" "ordinal" "I" (.int (0 : Int32)) := Fld.start ((fld_at ev_RESERVED).symm.trans (own_eqi nn7))
  obtain ⟨sm, ev_sm⟩ := arr_v nn3
  have S_sm : Sta s s.heap "com/example/tagwire/tagwire/sim/Tag$1" "$SwitchMap$com$example$tagwire$tagwire$gen2$MemoryBank" "[I" (.ref sm) := Sta.start ev_sm (Or.inr ⟨(hw _ (List.mem_of_getElem? (i := 58) rfl)), (hw _ (List.mem_of_getElem? (i := 59) rfl))⟩)
  obtain ⟨csm, Asm⟩ := Arr.start ev_sm nn3
  have lsm := own_len (own_eqi nn5) ev_sm Asm
  have q0 := (elem_in (own_eqi nn9) ev_sm rfl Asm.1).2
  have q1 := (elem_in (own_eqi nn11) ev_sm rfl Asm.1).2
  have q2 := (elem_in (own_eqi nn13) ev_sm rfl Asm.1).2
  have q3 := (elem_in (own_eqi nn14) ev_sm rfl Asm.1).2
  have Vsm : Arv s s.heap sm csm.cls .int (4 : Int32) [(.int (1 : Int32)), (.int (2 : Int32)), (.int (3 : Int32)), (.int (4 : Int32))] (.int (0 : Int32)) := Arv.start hfit Asm lsm.1 lsm.2 (by decide) rfl ⟨q0, q1, q2, q3, trivial⟩
  obtain ⟨n, o, h1, h2, h3, _, L, rfl, ⟨rfl, N⟩, hq⟩ := rm0 l s _ hw tables_1 i0 i1 i2 i3 i4 a_RESERVED sm csm.cls s.heap s.heap.size (Nat.le_refl _) S_RESERVED E_RESERVED F_RESERVED_ordinal S_sm Vsm p e ha hc hk s m _ below hf ((Spec.applies_iff_loose hf).mp happ).1 ⟨rfl, State.Warmed39.refl s, rfl⟩ trivial
  refine ⟨n, _, h1, h2, h3, hpost _ _ _ _ _ _ ⟨Cond.after_iff.mpr rfl, Cond.after_iff.mpr (eq_i res_at (Term.int_eval (1)) rfl), trivial⟩ ⟨hq.1, hq.2.1, hq.2.2.1, (hq.2.2.2.sift fun y hy => Or.inr (N y hy)).mono (by decide) (by decide)⟩⟩
theorem main_1_1 : Claimed_1_1 := comes_1 fun _ _ _ _ _ _ h hF => ⟨h.1, hF⟩
theorem main_1_2 : Claimed_1_2 := comes_1 fun _ _ _ _ _ _ h hF => ⟨h.2.1, hF⟩
end Jvm.Pilot.@@N@@
namespace Jvm.Pilot.@@N@@
open Jvm Jvm.ClassFile Sem Op Lib Jvm.Free Jvm.Stand Jvm.Pilot.@@N@@.Jvm.D
/-! MADE BY PROGRAM (witnessworld.py) out of the Statement's table words and the real class files: 18 classes; the members and pool entries that the words name. The judged class is class 1, her method 1. -/
namespace start1
open Jvm.ClassFile
def u (s : String) : CpInfo := .utf8 (stringToUtf16 s)
/-- a pool by its gaps: so many unusable entries, then the entry; so many at the end -/
def gap : Nat → List CpInfo → List CpInfo
  | 0, r => r
  | n + 1, r => .unusable :: gap n r
def poolList (es : List (Nat × CpInfo)) (last : Nat) : List CpInfo := es.foldr (fun e r => gap e.1 (e.2 :: r)) (gap last [])
def pool (es : List (Nat × CpInfo)) (last : Nat) : Array CpInfo := ⟨poolList es last⟩
def fileOf (pool : Array CpInfo) (this : Nat) (attrs : Array Attribute := #[]) (ms : Array MethodInfo := #[]) (fl : Nat := 33) (sup : Nat := 0) (ifs : Array Nat := #[]) (fds : Array FieldInfo := #[]) : ClassFile where
  minorVersion := 0
  majorVersion := 65
  constantPool := pool
  accessFlags := fl
  thisClass := this
  superClass := sup
  interfaces := ifs
  fields := fds
  methods := ms
  attributes := attrs
def plain (name : String) (sup : Option ClassId) : Class where
  name := name
  kind := .ordinary
  loader := none
  accessFlags := 33
  super := sup
  interfaces := #[]
  cf := none
  fields := #[]
  methods := #[]
  instanceTypes := #[]
  staticTypes := #[]
  resolved := #[]
  callSites := []
  init := .initialized
  statics := none
  mirror := none

def pool0 : Array CpInfo := pool [(5, u "<init>"), (0, u "()V"), (1, .class_ 10), (1, u "java/lang/Object"), (85, u "clone"), (0, u "()Ljava/lang/Object;")] 26

def k0c0 : Code := { maxStack := 0, maxLocals := 1, code := object_method_1_code, exceptionTable := #[], attributes := #[] }
def k0m0 : Method := { name := "<init>", desc := "()V", sig := { parameters := [], returnType := none }, accessFlags := 1, code := some k0c0 }
def k0m1 : Method := { name := "clone", desc := "()Ljava/lang/Object;", sig := { parameters := [], returnType := some (.object "java/lang/Object") }, accessFlags := 260, code := none }
/-- java/lang/Object -/
def k0 : Class := { plain "java/lang/Object" none with
  accessFlags := 33
  interfaces := #[]
  cf := some (fileOf pool0 8 #[] #[{ accessFlags := 1, nameIndex := 5, descriptorIndex := 6, attributes := #[] }, { accessFlags := 260, nameIndex := 96, descriptorIndex := 97, attributes := #[] }] 33 0 #[] #[])
  fields := #[]
  methods := #[k0m0, k0m1]
  instanceTypes := #[]
  staticTypes := #[]
  resolved := Array.replicate 124 none
  statics := none }

def pool1 : Array CpInfo := pool [(2, .class_ 4), (1, u "java/lang/Object"), (0, u "<init>"), (0, u "()V"), (0, .class_ 8), (0, u "com/example/tagwire/tagwire/sim/Tag"), (0, .integer 65535), (0, .methodref 7 11), (0, .nameAndType 5 12), (0, u "([BII)V"), (0, .methodref 7 14), (0, .nameAndType 15 16), (0, u "accessPassword"), (0, u "()I"), (0, .fieldref 18 19), (0, .class_ 20), (0, .nameAndType 21 22), (0, u "com/example/tagwire/tagwire/gen2/MemoryBank"), (0, u "RESERVED"), (0, u "Lcom/example/tagwire/tagwire/gen2/MemoryBank;"), (0, .methodref 7 24), (0, .nameAndType 25 26), (0, u "withMemory"), (0, u "(Lcom/example/tagwire/tagwire/gen2/MemoryBank;[B)Lcom/example/tagwire/tagwire/sim/Tag;"), (0, .class_ 28), (0, u "com/example/tagwire/tagwire/sim/TagAccessPasswordPinLaw"), (2, u "law"), (0, u "(IIIII)Z")] 5

def k1m0 : Method := { name := "<init>", desc := "()V", sig := { parameters := [], returnType := none }, accessFlags := 2, code := none }
def k1c1 : Code := { maxStack := 6, maxLocals := 9, code := code, exceptionTable := #[], attributes := #[] }
def k1m1 : Method := { name := "law", desc := "(IIIII)Z", sig := { parameters := [.int, .int, .int, .int, .int], returnType := some .boolean }, accessFlags := 9, code := some k1c1 }
/-- com/example/tagwire/tagwire/sim/TagAccessPasswordPinLaw -/
def k1 : Class := { plain "com/example/tagwire/tagwire/sim/TagAccessPasswordPinLaw" (some 0) with
  accessFlags := 49
  interfaces := #[]
  cf := some (fileOf pool1 27 #[] #[{ accessFlags := 2, nameIndex := 5, descriptorIndex := 6, attributes := #[] }, { accessFlags := 9, nameIndex := 31, descriptorIndex := 32, attributes := #[] }] 49 2 #[] #[])
  fields := #[]
  methods := #[k1m0, k1m1]
  instanceTypes := #[]
  staticTypes := #[]
  resolved := Array.replicate 38 none
  statics := none }

def pool2 : Array CpInfo := pool [(1, .methodref 2 3), (0, .class_ 4), (0, .nameAndType 5 6), (0, u "java/lang/Object"), (0, u "<init>"), (0, u "()V"), (0, .string 8), (0, u "epc"), (0, .methodref 10 11), (0, .class_ 12), (0, .nameAndType 13 14), (0, u "java/util/Objects"), (0, u "requireNonNull"), (0, u "(Ljava/lang/Object;Ljava/lang/String;)Ljava/lang/Object;"), (0, .class_ 16), (0, u "com/example/tagwire/tagwire/sim/Tag"), (7, .integer 65535), (6, .methodref 32 33), (0, .class_ 34), (0, .nameAndType 35 36), (0, u "[B"), (0, u "clone"), (0, u "()Ljava/lang/Object;"), (0, .fieldref 15 38), (0, .nameAndType 8 34), (0, .fieldref 15 40), (0, .nameAndType 41 42), (0, u "pc"), (0, u "I"), (0, .fieldref 15 44), (0, .nameAndType 45 42), (0, u "rssi"), (0, .fieldref 15 47), (0, .nameAndType 48 34), (0, u "reserved"), (0, .fieldref 15 50), (0, .nameAndType 51 34), (0, u "tid"), (0, .fieldref 15 53), (0, .nameAndType 54 34), (0, u "user"), (0, .fieldref 56 57), (0, .class_ 58), (0, .nameAndType 59 60), (0, u "com/example/tagwire/tagwire/sim/Tag$1"), (0, u "$SwitchMap$com$example$tagwire$tagwire$gen2$MemoryBank"), (0, u "[I"), (0, .methodref 62 63), (0, .class_ 64), (0, .nameAndType 65 66), (0, u "com/example/tagwire/tagwire/gen2/MemoryBank"), (0, u "ordinal"), (0, u "()I"), (7, .methodref 15 75), (0, .nameAndType 5 76), (0, u "([BII[B[B[B)V"), (34, u "withMemory"), (0, u "(Lcom/example/tagwire/tagwire/gen2/MemoryBank;[B)Lcom/example/tagwire/tagwire/sim/Tag;"), (19, u "MAX_EPC_WORDS"), (2, u "RESERVED_LENGTH"), (1, u "ACCESS_PASSWORD_INDEX"), (1, u "EPC_INDEX"), (0, u "([BII)V"), (5, u "accessPassword")] 20

def k2c0 : Code := { maxStack := 3, maxLocals := 4, code := prog_55_method_1_code, exceptionTable := #[], attributes := #[] }
def k2m0 : Method := { name := "<init>", desc := "([BII)V", sig := { parameters := [(.array .byte), .int, .int], returnType := none }, accessFlags := 1, code := some k2c0 }
def k2c1 : Code := { maxStack := 2, maxLocals := 7, code := prog_55_method_2_code, exceptionTable := #[], attributes := #[] }
def k2m1 : Method := { name := "<init>", desc := "([BII[B[B[B)V", sig := { parameters := [(.array .byte), .int, .int, (.array .byte), (.array .byte), (.array .byte)], returnType := none }, accessFlags := 2, code := some k2c1 }
def k2c2 : Code := { maxStack := 9, maxLocals := 4, code := prog_55_method_3_code, exceptionTable := #[], attributes := #[] }
def k2m2 : Method := { name := "withMemory", desc := "(Lcom/example/tagwire/tagwire/gen2/MemoryBank;[B)Lcom/example/tagwire/tagwire/sim/Tag;", sig := { parameters := [(.object "com/example/tagwire/tagwire/gen2/MemoryBank"), (.array .byte)], returnType := some (.object "com/example/tagwire/tagwire/sim/Tag") }, accessFlags := 1, code := some k2c2 }
def k2c3 : Code := { maxStack := 3, maxLocals := 3, code := prog_55_method_9_code, exceptionTable := #[], attributes := #[] }
def k2m3 : Method := { name := "accessPassword", desc := "()I", sig := { parameters := [], returnType := some .int }, accessFlags := 1, code := some k2c3 }
/-- com/example/tagwire/tagwire/sim/Tag -/
def k2 : Class := { plain "com/example/tagwire/tagwire/sim/Tag" (some 0) with
  accessFlags := 49
  interfaces := #[]
  cf := some (fileOf pool2 15 #[.nestMembers #[56]] #[{ accessFlags := 1, nameIndex := 5, descriptorIndex := 140, attributes := #[] }, { accessFlags := 2, nameIndex := 5, descriptorIndex := 76, attributes := #[] }, { accessFlags := 1, nameIndex := 111, descriptorIndex := 112, attributes := #[] }, { accessFlags := 1, nameIndex := 146, descriptorIndex := 66, attributes := #[] }] 49 2 #[] #[{ accessFlags := 25, nameIndex := 132, descriptorIndex := 42, attributes := #[] }, { accessFlags := 25, nameIndex := 135, descriptorIndex := 42, attributes := #[] }, { accessFlags := 26, nameIndex := 137, descriptorIndex := 42, attributes := #[] }, { accessFlags := 26, nameIndex := 139, descriptorIndex := 42, attributes := #[] }, { accessFlags := 18, nameIndex := 8, descriptorIndex := 34, attributes := #[] }, { accessFlags := 18, nameIndex := 41, descriptorIndex := 42, attributes := #[] }, { accessFlags := 18, nameIndex := 45, descriptorIndex := 42, attributes := #[] }, { accessFlags := 18, nameIndex := 48, descriptorIndex := 34, attributes := #[] }, { accessFlags := 18, nameIndex := 51, descriptorIndex := 34, attributes := #[] }, { accessFlags := 18, nameIndex := 54, descriptorIndex := 34, attributes := #[] }])
  fields := #[{ name := "MAX_EPC_WORDS", type := .int, accessFlags := 25, slot := 0, constantValue := 0 }, { name := "RESERVED_LENGTH", type := .int, accessFlags := 25, slot := 1, constantValue := 0 }, { name := "ACCESS_PASSWORD_INDEX", type := .int, accessFlags := 26, slot := 2, constantValue := 0 }, { name := "EPC_INDEX", type := .int, accessFlags := 26, slot := 3, constantValue := 0 }, { name := "epc", type := (.array .byte), accessFlags := 18, slot := 0, constantValue := 0 }, { name := "pc", type := .int, accessFlags := 18, slot := 1, constantValue := 0 }, { name := "rssi", type := .int, accessFlags := 18, slot := 2, constantValue := 0 }, { name := "reserved", type := (.array .byte), accessFlags := 18, slot := 3, constantValue := 0 }, { name := "tid", type := (.array .byte), accessFlags := 18, slot := 4, constantValue := 0 }, { name := "user", type := (.array .byte), accessFlags := 18, slot := 5, constantValue := 0 }]
  methods := #[k2m0, k2m1, k2m2, k2m3]
  instanceTypes := #[(.array .byte), .int, .int, (.array .byte), (.array .byte), (.array .byte)]
  staticTypes := #[.int, .int, .int, .int]
  resolved := Array.replicate 167 none
  statics := none }

def pool3 : Array CpInfo := pool [(1, .class_ 2), (0, u "java/io/Serializable"), (0, .class_ 4), (0, u "java/lang/Object")] 2

/-- java/io/Serializable -/
def k3 : Class := { plain "java/io/Serializable" (some 0) with
  accessFlags := 1537
  interfaces := #[]
  cf := some (fileOf pool3 1 #[] #[] 1537 3 #[] #[])
  fields := #[]
  methods := #[]
  instanceTypes := #[]
  staticTypes := #[]
  resolved := Array.replicate 7 none
  statics := none }

def pool4 : Array CpInfo := pool [(1, .class_ 2), (0, u "java/lang/Comparable"), (0, .class_ 4), (0, u "java/lang/Object")] 7

/-- java/lang/Comparable -/
def k4 : Class := { plain "java/lang/Comparable" (some 0) with
  accessFlags := 1537
  interfaces := #[]
  cf := some (fileOf pool4 1 #[] #[] 1537 3 #[] #[])
  fields := #[]
  methods := #[]
  instanceTypes := #[]
  staticTypes := #[]
  resolved := Array.replicate 12 none
  statics := none }

def pool5 : Array CpInfo := pool [(2, .class_ 4), (1, u "java/lang/CharSequence"), (42, .class_ 48), (0, u "java/lang/CharSequence$1CodePointIterator"), (10, .class_ 60), (0, u "java/lang/CharSequence$1CharIterator"), (5, .class_ 67), (0, u "java/lang/Object")] 63

/-- java/lang/CharSequence -/
def k5 : Class := { plain "java/lang/CharSequence" (some 0) with
  accessFlags := 1537
  interfaces := #[]
  cf := some (fileOf pool5 2 #[.nestMembers #[47, 59]] #[] 1537 66 #[] #[])
  fields := #[]
  methods := #[]
  instanceTypes := #[]
  staticTypes := #[]
  resolved := Array.replicate 131 none
  statics := none }

def pool6 : Array CpInfo := pool [(1, .class_ 2), (0, u "java/lang/constant/Constable"), (0, .class_ 4), (0, u "java/lang/Object")] 6

/-- java/lang/constant/Constable -/
def k6 : Class := { plain "java/lang/constant/Constable" (some 0) with
  accessFlags := 1537
  interfaces := #[]
  cf := some (fileOf pool6 1 #[] #[] 1537 3 #[] #[])
  fields := #[]
  methods := #[]
  instanceTypes := #[]
  staticTypes := #[]
  resolved := Array.replicate 11 none
  statics := none }

def pool7 : Array CpInfo := pool [(1, .class_ 2), (0, u "java/lang/constant/ConstantDesc"), (0, .class_ 4), (0, u "java/lang/Object")] 32

/-- java/lang/constant/ConstantDesc -/
def k7 : Class := { plain "java/lang/constant/ConstantDesc" (some 0) with
  accessFlags := 1537
  interfaces := #[]
  cf := some (fileOf pool7 1 #[] #[] 1537 3 #[] #[])
  fields := #[]
  methods := #[]
  instanceTypes := #[]
  staticTypes := #[]
  resolved := Array.replicate 37 none
  statics := none }

def pool8 : Array CpInfo := pool [(2, .class_ 4), (1, u "java/lang/Object"), (0, u "<init>"), (0, u "()V"), (3, .class_ 12), (1, u "java/lang/String"), (0, u "value"), (0, u "[B"), (2, u "coder"), (0, u "B"), (2, u "hash"), (0, u "I"), (2, u "hashIsZero"), (0, u "Z"), (13, u "COMPACT_STRINGS"), (534, .class_ 576), (0, u "java/lang/CharSequence"), (22, u "CASE_INSENSITIVE_ORDER"), (0, u "Ljava/util/Comparator;"), (500, u "serialPersistentFields"), (0, u "[Ljava/io/ObjectStreamField;"), (0, .class_ 1104), (0, u "java/lang/String$CaseInsensitiveComparator"), (1, .class_ 1107), (0, u "java/io/Serializable"), (0, .class_ 1109), (0, u "java/lang/Comparable"), (0, .class_ 1111), (0, u "java/lang/constant/Constable"), (0, .class_ 1113), (0, u "java/lang/constant/ConstantDesc"), (2, u "serialVersionUID"), (0, u "J"), (3, u "REPL"), (0, u "C"), (2, u "LATIN1"), (1, u "UTF16")] 323

def k8m0 : Method := { name := "<init>", desc := "()V", sig := { parameters := [], returnType := none }, accessFlags := 1, code := none }
/-- java/lang/String -/
def k8 : Class := { plain "java/lang/String" (some 0) with
  accessFlags := 49
  interfaces := #[3, 4, 5, 6, 7]
  cf := some (fileOf pool8 10 #[.nestMembers #[1103]] #[{ accessFlags := 1, nameIndex := 5, descriptorIndex := 6, attributes := #[] }] 49 2 #[1106, 1108, 575, 1110, 1112] #[{ accessFlags := 18, nameIndex := 13, descriptorIndex := 14, attributes := #[] }, { accessFlags := 18, nameIndex := 17, descriptorIndex := 18, attributes := #[] }, { accessFlags := 2, nameIndex := 21, descriptorIndex := 22, attributes := #[] }, { accessFlags := 2, nameIndex := 25, descriptorIndex := 26, attributes := #[] }, { accessFlags := 26, nameIndex := 1116, descriptorIndex := 1117, attributes := #[] }, { accessFlags := 24, nameIndex := 40, descriptorIndex := 26, attributes := #[] }, { accessFlags := 26, nameIndex := 1101, descriptorIndex := 1102, attributes := #[] }, { accessFlags := 26, nameIndex := 1121, descriptorIndex := 1122, attributes := #[] }, { accessFlags := 25, nameIndex := 599, descriptorIndex := 600, attributes := #[] }, { accessFlags := 24, nameIndex := 1125, descriptorIndex := 18, attributes := #[] }, { accessFlags := 24, nameIndex := 1127, descriptorIndex := 18, attributes := #[] }])
  fields := #[{ name := "value", type := (.array .byte), accessFlags := 18, slot := 0, constantValue := 0 }, { name := "coder", type := .byte, accessFlags := 18, slot := 1, constantValue := 0 }, { name := "hash", type := .int, accessFlags := 2, slot := 2, constantValue := 0 }, { name := "hashIsZero", type := .boolean, accessFlags := 2, slot := 3, constantValue := 0 }, { name := "serialVersionUID", type := .long, accessFlags := 26, slot := 0, constantValue := 0 }, { name := "COMPACT_STRINGS", type := .boolean, accessFlags := 24, slot := 1, constantValue := 0 }, { name := "serialPersistentFields", type := (.array (.object "java/io/ObjectStreamField")), accessFlags := 26, slot := 2, constantValue := 0 }, { name := "REPL", type := .char, accessFlags := 26, slot := 3, constantValue := 0 }, { name := "CASE_INSENSITIVE_ORDER", type := (.object "java/util/Comparator"), accessFlags := 25, slot := 4, constantValue := 0 }, { name := "LATIN1", type := .byte, accessFlags := 24, slot := 5, constantValue := 0 }, { name := "UTF16", type := .byte, accessFlags := 24, slot := 6, constantValue := 0 }]
  methods := #[k8m0]
  instanceTypes := #[(.array .byte), .byte, .int, .boolean]
  staticTypes := #[.long, .boolean, (.array (.object "java/io/ObjectStreamField")), .char, (.object "java/util/Comparator"), .byte, .byte]
  resolved := Array.replicate 1451 none
  statics := none }

def pool9 : Array CpInfo := pool [(2, .class_ 4), (1, u "java/lang/Object"), (0, u "<init>"), (0, u "()V"), (35, .class_ 44), (1, u "java/util/Objects"), (0, u "requireNonNull"), (48, u "(Ljava/lang/Object;Ljava/lang/String;)Ljava/lang/Object;")] 89

def k9m0 : Method := { name := "<init>", desc := "()V", sig := { parameters := [], returnType := none }, accessFlags := 2, code := none }
def k9c1 : Code := { maxStack := 3, maxLocals := 2, code := jdk_31_method_11_code, exceptionTable := #[], attributes := #[] }
def k9m1 : Method := { name := "requireNonNull", desc := "(Ljava/lang/Object;Ljava/lang/String;)Ljava/lang/Object;", sig := { parameters := [(.object "java/lang/Object"), (.object "java/lang/String")], returnType := some (.object "java/lang/Object") }, accessFlags := 9, code := some k9c1 }
/-- java/util/Objects -/
def k9 : Class := { plain "java/util/Objects" (some 0) with
  accessFlags := 49
  interfaces := #[]
  cf := some (fileOf pool9 42 #[] #[{ accessFlags := 2, nameIndex := 5, descriptorIndex := 6, attributes := #[] }, { accessFlags := 9, nameIndex := 45, descriptorIndex := 94, attributes := #[] }] 49 2 #[] #[])
  fields := #[]
  methods := #[k9m0, k9m1]
  instanceTypes := #[]
  staticTypes := #[]
  resolved := Array.replicate 184 none
  statics := none }

def pool10 : Array CpInfo := pool [(1, .class_ 2), (0, u "java/lang/Cloneable"), (0, .class_ 4), (0, u "java/lang/Object")] 2

/-- java/lang/Cloneable -/
def k10 : Class := { plain "java/lang/Cloneable" (some 0) with
  accessFlags := 1537
  interfaces := #[]
  cf := some (fileOf pool10 1 #[] #[] 1537 3 #[] #[])
  fields := #[]
  methods := #[]
  instanceTypes := #[]
  staticTypes := #[]
  resolved := Array.replicate 7 none
  statics := none }

def pool11 : Array CpInfo := pool [(2, .class_ 4), (1, u "java/lang/Enum"), (0, u "name"), (0, u "Ljava/lang/String;"), (0, .fieldref 2 8), (0, .nameAndType 9 10), (0, u "ordinal"), (0, u "I"), (1, .class_ 14), (1, u "java/lang/Object"), (4, u "hash"), (86, .class_ 108), (1, u "java/lang/Enum$EnumDesc"), (2, .class_ 112), (0, u "java/lang/constant/Constable"), (0, .class_ 114), (0, u "java/lang/Comparable"), (0, .class_ 116), (0, u "java/io/Serializable"), (9, u "()I")] 77

def k11c0 : Code := { maxStack := 1, maxLocals := 1, code := jdk_37_method_2_code, exceptionTable := #[], attributes := #[] }
def k11m0 : Method := { name := "ordinal", desc := "()I", sig := { parameters := [], returnType := some .int }, accessFlags := 17, code := some k11c0 }
/-- java/lang/Enum -/
def k11 : Class := { plain "java/lang/Enum" (some 0) with
  accessFlags := 1057
  interfaces := #[6, 4, 3]
  cf := some (fileOf pool11 2 #[.nestMembers #[106]] #[{ accessFlags := 17, nameIndex := 9, descriptorIndex := 126, attributes := #[] }] 1057 12 #[111, 113, 115] #[{ accessFlags := 18, nameIndex := 5, descriptorIndex := 6, attributes := #[] }, { accessFlags := 18, nameIndex := 9, descriptorIndex := 10, attributes := #[] }, { accessFlags := 2, nameIndex := 19, descriptorIndex := 10, attributes := #[] }])
  fields := #[{ name := "name", type := (.object "java/lang/String"), accessFlags := 18, slot := 0, constantValue := 0 }, { name := "ordinal", type := .int, accessFlags := 18, slot := 1, constantValue := 0 }, { name := "hash", type := .int, accessFlags := 2, slot := 2, constantValue := 0 }]
  methods := #[k11m0]
  instanceTypes := #[(.object "java/lang/String"), .int, .int]
  staticTypes := #[]
  resolved := Array.replicate 204 none
  statics := none }

def pool12 : Array CpInfo := pool [(1, .class_ 2), (0, u "com/example/tagwire/tagwire/gen2/MemoryBank"), (2, u "RESERVED"), (0, u "Lcom/example/tagwire/tagwire/gen2/MemoryBank;"), (2, u "EPC"), (2, u "TID"), (2, u "USER"), (2, u "$VALUES"), (0, u "[Lcom/example/tagwire/tagwire/gen2/MemoryBank;"), (6, .class_ 28), (1, u "java/lang/Enum"), (8, u "code"), (0, u "I"), (2, u "label"), (0, u "Ljava/lang/String;")] 77

/-- com/example/tagwire/tagwire/gen2/MemoryBank -/
def k12 : Class := { plain "com/example/tagwire/tagwire/gen2/MemoryBank" (some 11) with
  accessFlags := 16433
  interfaces := #[]
  cf := some (fileOf pool12 1 #[] #[] 16433 26 #[] #[{ accessFlags := 16409, nameIndex := 5, descriptorIndex := 6, attributes := #[] }, { accessFlags := 16409, nameIndex := 9, descriptorIndex := 6, attributes := #[] }, { accessFlags := 16409, nameIndex := 12, descriptorIndex := 6, attributes := #[] }, { accessFlags := 16409, nameIndex := 15, descriptorIndex := 6, attributes := #[] }, { accessFlags := 18, nameIndex := 37, descriptorIndex := 38, attributes := #[] }, { accessFlags := 18, nameIndex := 41, descriptorIndex := 42, attributes := #[] }, { accessFlags := 4122, nameIndex := 18, descriptorIndex := 19, attributes := #[] }])
  fields := #[{ name := "RESERVED", type := (.object "com/example/tagwire/tagwire/gen2/MemoryBank"), accessFlags := 16409, slot := 0, constantValue := 0 }, { name := "EPC", type := (.object "com/example/tagwire/tagwire/gen2/MemoryBank"), accessFlags := 16409, slot := 1, constantValue := 0 }, { name := "TID", type := (.object "com/example/tagwire/tagwire/gen2/MemoryBank"), accessFlags := 16409, slot := 2, constantValue := 0 }, { name := "USER", type := (.object "com/example/tagwire/tagwire/gen2/MemoryBank"), accessFlags := 16409, slot := 3, constantValue := 0 }, { name := "code", type := .int, accessFlags := 18, slot := 3, constantValue := 0 }, { name := "label", type := (.object "java/lang/String"), accessFlags := 18, slot := 4, constantValue := 0 }, { name := "$VALUES", type := (.array (.object "com/example/tagwire/tagwire/gen2/MemoryBank")), accessFlags := 4122, slot := 4, constantValue := 0 }]
  methods := #[]
  instanceTypes := #[(.object "java/lang/String"), .int, .int, .int, (.object "java/lang/String")]
  staticTypes := #[(.object "com/example/tagwire/tagwire/gen2/MemoryBank"), (.object "com/example/tagwire/tagwire/gen2/MemoryBank"), (.object "com/example/tagwire/tagwire/gen2/MemoryBank"), (.object "com/example/tagwire/tagwire/gen2/MemoryBank"), (.array (.object "com/example/tagwire/tagwire/gen2/MemoryBank"))]
  resolved := Array.replicate 120 none
  statics := some 0 }

def pool13 : Array CpInfo := pool [(8, .class_ 10), (1, u "com/example/tagwire/tagwire/sim/Tag$1"), (0, u "$SwitchMap$com$example$tagwire$tagwire$gen2$MemoryBank"), (0, u "[I"), (19, .class_ 33), (0, u "java/lang/Object"), (8, .class_ 43), (0, u "com/example/tagwire/tagwire/sim/Tag")] 2

/-- com/example/tagwire/tagwire/sim/Tag$1 -/
def k13 : Class := { plain "com/example/tagwire/tagwire/sim/Tag$1" (some 0) with
  accessFlags := 4128
  interfaces := #[]
  cf := some (fileOf pool13 8 #[.nestHost 42] #[] 4128 32 #[] #[{ accessFlags := 4120, nameIndex := 11, descriptorIndex := 12, attributes := #[] }])
  fields := #[{ name := "$SwitchMap$com$example$tagwire$tagwire$gen2$MemoryBank", type := (.array .int), accessFlags := 4120, slot := 0, constantValue := 0 }]
  methods := #[]
  instanceTypes := #[]
  staticTypes := #[(.array .int)]
  resolved := Array.replicate 46 none
  statics := some 1 }

/-- the primitive byte -/
def k14 : Class := { plain "byte" none with kind := .primitive 'B', accessFlags := 0x411 }
/-- [B -/
def k15 : Class := { plain "[B" (some 0) with kind := .array 14 .byte, interfaces := #[10, 3], accessFlags := 1041 }

/-- the primitive int -/
def k16 : Class := { plain "int" none with kind := .primitive 'I', accessFlags := 0x411 }
/-- [I -/
def k17 : Class := { plain "[I" (some 0) with kind := .array 16 .int, interfaces := #[10, 3], accessFlags := 1041 }

def heap : Heap := #[{ cls := 12, slots := #[.ref 2, .null, .null, .null, .null], vm := .statics 12 },
  { cls := 13, slots := #[.ref 3], vm := .statics 13 },
  { cls := 12, slots := #[.null, .int 0, .int 0, .int 0, .null], vm := .none },
  { cls := 17, slots := #[.int 1, .int 2, .int 3, .int 4], vm := .none }]
def classes : Array Class := #[k0, k1, k2, k3, k4, k5, k6, k7, k8, k9, k10, k11, k12, k13, k14, k15, k16, k17]
def interned : List (Array UInt16 × Addr) := []
def slotsUsed : Nat := 15
def theMethod : MethodId := ⟨1, 1⟩
def args0 : Array Value := #[.int 1, .int 2, .int 3, .int 4, .int 5]
def aboutOver (below : List Frame) : State where
  vm := { classes := classes, interned := interned.toArray }
  heap := heap
  slotsUsed := slotsUsed
  threads := #[{ frames := .invoking theMethod args0 :: below }]
def below0 : List Frame := [.native { method := ⟨0, 0⟩, args := #[] }]
def about1 : State := aboutOver below0
def p0 : Program := .bare "" "" ""
def e0 : Env := launch0.env 0 0 0
theorem w_frames : about1.frames = Frame.invoking theMethod args0 :: below0 := rfl
set_option maxRecDepth 65536 in
theorem w_args : argsFit about1.vm theMethod args0 = true := by decide +kernel
set_option maxRecDepth 65536 in
theorem w_heap : heapFits about1 = true := by decide +kernel
set_option maxRecDepth 65536 in
theorem w_runnable : about1.curStatus? = some .runnable := by decide +kernel
set_option maxRecDepth 65536 in
theorem w_alone : about1.alone = true := by decide +kernel
set_option maxRecDepth 65536 in
theorem w_named : about1.methodNamed? x = some theMethod := by decide +kernel
set_option maxRecDepth 65536 in
theorem w_hears : about1.hears theMethod below0 = true := by decide +kernel
set_option maxRecDepth 65536 in
theorem w_ripe : about1.ripe theMethod args0 below0 = true := by decide +kernel
theorem w_running : about1.status = .running := rfl
set_option maxRecDepth 65536 in
theorem w_room : about1.hasRoom e0.platform room_1 = true :=
  launch0.hasRoom_least _ room_1 (by decide +kernel) (by decide +kernel) (by decide +kernel) (by decide +kernel) (by decide +kernel) (by decide +kernel)
theorem allAtoms_all (ts : List Jvm.Cond) (a : Array Jvm.Value) (st : Jvm.State) : (allAtoms ts).before a st = ts.all (fun c => c.before a st) := by
  induction ts with
  | nil => rfl
  | cons c t ih =>
    show (Jvm.Cond.and c (allAtoms t)).before a st = _
    rw [Jvm.Cond.before_and, ih, List.all_cons]
def words1 : List Jvm.Cond := Jvm.Cond.code x code maxLocals ret :: tables_1
/-- a 'code' word, met by the world's own term for the bytes: nothing is compared byte by byte -/
theorem code_word {y : MethodName} {bytes : ByteArray} {mx : Nat} {rt : Option FieldType} {a : Array Value} {s : State} {m : MethodId} {meth : Method} {c : Code} (h1 : s.methodNamed? y = some m) (h2 : s.vm.method? m = some meth) (h3 : meth.code = some c) (h4 : c.code = bytes)
    (h5 : (c.maxLocals == mx && c.exceptionTable.isEmpty && decide (c.maxStack ≤ mostOperands) && decide (meth.sig.returnType = rt) && !meth.locks && decide (parseMethodDescriptor y.desc = some meth.sig)) = true) : (Jvm.Cond.code y bytes mx rt).before a s = true := by
  simp only [Bool.and_eq_true, beq_iff_eq, Bool.not_eq_true', decide_eq_true_eq] at h5
  obtain ⟨⟨⟨⟨⟨g1, g2⟩, g3⟩, g4⟩, g5⟩, g6⟩ := h5
  simp [Cond.before, Cond.holds, Cond.value, h1, h2, h3, h4, g1, g2, g3, g4, g5, g6]
def isCode : Jvm.Cond → Bool
  | .code _ _ _ _ => true
  | _ => false
theorem all_split {L : List Jvm.Cond} {P : Jvm.Cond → Bool} (h1 : L.all (fun c => isCode c || P c) = true) (h2 : ∀ c ∈ L.filter isCode, P c = true) : L.all P = true := by
  refine List.all_eq_true.mpr fun c hc => ?_
  have h := List.all_eq_true.mp h1 c hc
  rcases Bool.eq_false_or_eq_true (isCode c) with hi | hi
  · exact h2 c (List.mem_filter.mpr ⟨hc, hi⟩)
  · simpa [hi] using h
set_option maxRecDepth 65536 in
theorem w_c0 : (Jvm.Cond.code x code maxLocals ret).before args0 about1 = true := code_word (m := ⟨1, 1⟩) (meth := k1m1) (c := k1c1) (by decide +kernel) rfl rfl rfl (by decide +kernel)
set_option maxRecDepth 65536 in
theorem w_c1 : (Jvm.Cond.code ({ cls := "com/example/tagwire/tagwire/sim/Tag", name := "<init>", desc := "([BII)V" } : Jvm.MethodName) prog_55_method_1_code (4 : Nat) (Option.none : Option Jvm.ClassFile.FieldType)).before args0 about1 = true := code_word (m := ⟨2, 0⟩) (meth := k2m0) (c := k2c0) (by decide +kernel) rfl rfl rfl (by decide +kernel)
set_option maxRecDepth 65536 in
theorem w_c2 : (Jvm.Cond.code ({ cls := "java/lang/Object", name := "<init>", desc := "()V" } : Jvm.MethodName) object_method_1_code (1 : Nat) (Option.none : Option Jvm.ClassFile.FieldType)).before args0 about1 = true := code_word (m := ⟨0, 0⟩) (meth := k0m0) (c := k0c0) (by decide +kernel) rfl rfl rfl (by decide +kernel)
set_option maxRecDepth 65536 in
theorem w_c3 : (Jvm.Cond.code ({ cls := "java/util/Objects", name := "requireNonNull", desc := "(Ljava/lang/Object;Ljava/lang/String;)Ljava/lang/Object;" } : Jvm.MethodName) jdk_31_method_11_code (2 : Nat) (Option.some (Jvm.ClassFile.FieldType.object "java/lang/Object"))).before args0 about1 = true := code_word (m := ⟨9, 1⟩) (meth := k9m1) (c := k9c1) (by decide +kernel) rfl rfl rfl (by decide +kernel)
set_option maxRecDepth 65536 in
theorem w_c4 : (Jvm.Cond.code ({ cls := "com/example/tagwire/tagwire/sim/Tag", name := "accessPassword", desc := "()I" } : Jvm.MethodName) prog_55_method_9_code (3 : Nat) (Option.some Jvm.ClassFile.FieldType.int)).before args0 about1 = true := code_word (m := ⟨2, 3⟩) (meth := k2m3) (c := k2c3) (by decide +kernel) rfl rfl rfl (by decide +kernel)
set_option maxRecDepth 65536 in
theorem w_c5 : (Jvm.Cond.code ({ cls := "com/example/tagwire/tagwire/sim/Tag", name := "withMemory", desc := "(Lcom/example/tagwire/tagwire/gen2/MemoryBank;[B)Lcom/example/tagwire/tagwire/sim/Tag;" } : Jvm.MethodName) prog_55_method_3_code (4 : Nat) (Option.some (Jvm.ClassFile.FieldType.object "com/example/tagwire/tagwire/sim/Tag"))).before args0 about1 = true := code_word (m := ⟨2, 2⟩) (meth := k2m2) (c := k2c2) (by decide +kernel) rfl rfl rfl (by decide +kernel)
set_option maxRecDepth 65536 in
theorem w_c6 : (Jvm.Cond.code ({ cls := "java/lang/Enum", name := "ordinal", desc := "()I" } : Jvm.MethodName) jdk_37_method_2_code (1 : Nat) (Option.some Jvm.ClassFile.FieldType.int)).before args0 about1 = true := code_word (m := ⟨11, 0⟩) (meth := k11m0) (c := k11c0) (by decide +kernel) rfl rfl rfl (by decide +kernel)
set_option maxRecDepth 65536 in
theorem w_c7 : (Jvm.Cond.code ({ cls := "com/example/tagwire/tagwire/sim/Tag", name := "<init>", desc := "([BII[B[B[B)V" } : Jvm.MethodName) prog_55_method_2_code (7 : Nat) (Option.none : Option Jvm.ClassFile.FieldType)).before args0 about1 = true := code_word (m := ⟨2, 1⟩) (meth := k2m1) (c := k2c1) (by decide +kernel) rfl rfl rfl (by decide +kernel)
def codes1 : List Jvm.Cond := [Jvm.Cond.code x code maxLocals ret, Jvm.Cond.code ({ cls := "com/example/tagwire/tagwire/sim/Tag", name := "<init>", desc := "([BII)V" } : Jvm.MethodName) prog_55_method_1_code (4 : Nat) (Option.none : Option Jvm.ClassFile.FieldType), Jvm.Cond.code ({ cls := "java/lang/Object", name := "<init>", desc := "()V" } : Jvm.MethodName) object_method_1_code (1 : Nat) (Option.none : Option Jvm.ClassFile.FieldType), Jvm.Cond.code ({ cls := "java/util/Objects", name := "requireNonNull", desc := "(Ljava/lang/Object;Ljava/lang/String;)Ljava/lang/Object;" } : Jvm.MethodName) jdk_31_method_11_code (2 : Nat) (Option.some (Jvm.ClassFile.FieldType.object "java/lang/Object")), Jvm.Cond.code ({ cls := "com/example/tagwire/tagwire/sim/Tag", name := "accessPassword", desc := "()I" } : Jvm.MethodName) prog_55_method_9_code (3 : Nat) (Option.some Jvm.ClassFile.FieldType.int), Jvm.Cond.code ({ cls := "com/example/tagwire/tagwire/sim/Tag", name := "withMemory", desc := "(Lcom/example/tagwire/tagwire/gen2/MemoryBank;[B)Lcom/example/tagwire/tagwire/sim/Tag;" } : Jvm.MethodName) prog_55_method_3_code (4 : Nat) (Option.some (Jvm.ClassFile.FieldType.object "com/example/tagwire/tagwire/sim/Tag")), Jvm.Cond.code ({ cls := "java/lang/Enum", name := "ordinal", desc := "()I" } : Jvm.MethodName) jdk_37_method_2_code (1 : Nat) (Option.some Jvm.ClassFile.FieldType.int), Jvm.Cond.code ({ cls := "com/example/tagwire/tagwire/sim/Tag", name := "<init>", desc := "([BII[B[B[B)V" } : Jvm.MethodName) prog_55_method_2_code (7 : Nat) (Option.none : Option Jvm.ClassFile.FieldType)]
set_option maxRecDepth 65536 in
theorem codes_eq : words1.filter isCode = codes1 := rfl
theorem w_codes : ∀ c ∈ words1.filter isCode, c.before args0 about1 = true := by
  rw [codes_eq]
  intro c hc
  simp only [codes1, List.mem_cons, List.not_mem_nil, or_false] at hc
  rcases hc with rfl | rfl | rfl | rfl | rfl | rfl | rfl | rfl
  · exact w_c0
  · exact w_c1
  · exact w_c2
  · exact w_c3
  · exact w_c4
  · exact w_c5
  · exact w_c6
  · exact w_c7
set_option maxRecDepth 65536 in
theorem w_t1 : (words1.take 24).all (fun c => isCode c || c.before args0 about1) = true := by decide +kernel
set_option maxRecDepth 65536 in
theorem w_t2 : ((words1.drop 24).take 24).all (fun c => isCode c || c.before args0 about1) = true := by decide +kernel
set_option maxRecDepth 65536 in
theorem w_t3 : (((words1.drop 24).drop 24).take 24).all (fun c => isCode c || c.before args0 about1) = true := by decide +kernel
set_option maxRecDepth 65536 in
theorem w_t4 : (((words1.drop 24).drop 24).drop 24).all (fun c => isCode c || c.before args0 about1) = true := by decide +kernel
theorem w_tables : (allAtoms (Jvm.Cond.code x code maxLocals ret :: tables_1)).before args0 about1 = true := by
  rw [allAtoms_all]
  show words1.all (fun c => c.before args0 about1) = true
  refine all_split ?_ w_codes
  rw [← List.take_append_drop 24 words1, List.all_append, w_t1, ← List.take_append_drop 24 (words1.drop 24), List.all_append, w_t2, ← List.take_append_drop 24 ((words1.drop 24).drop 24), List.all_append, w_t3, w_t4]
  rfl
set_option maxRecDepth 65536 in
theorem w_case : (Jvm.Cond.and given_1 narrow_1).before args0 about1 = true := by decide +kernel
theorem w_applies : (headSpec (Jvm.Cond.code x code maxLocals ret :: tables_1) room_1).applies x e0.platform about1 = true :=
  (Spec.applies_iff w_frames).mpr ⟨w_running, w_runnable, w_alone, w_named, w_hears, w_ripe, w_room, w_tables⟩
theorem atStart : AtStart classFile x code maxLocals ret World_1 tables_1 room_1 Calls_1 rest_1 Pre_1 launch0 p0 e0 about1 theMethod args0 below0 :=
  ⟨lists_1, trivial, launch0.admits_env _ _ _, launch0.least_env, fairChoices_fair.cas, fairChoices_fair.clock, w_frames, w_args, w_heap, w_applies, trivial, trivial, w_case⟩
end start1
theorem witness_1 : WitnessClaimed_1 := ⟨start1.p0, start1.e0, start1.about1, start1.theMethod, start1.args0, start1.below0, start1.atStart⟩
end Jvm.Pilot.@@N@@
