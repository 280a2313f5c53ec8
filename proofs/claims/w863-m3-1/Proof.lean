import JvmDerived
import JvmDerived.Pilot.@@N@@Statement
import JvmDerived.Pilot.@@N@@Code
set_option linter.unusedVariables false
set_option linter.unusedSimpArgs false
@@BLOCK:NumsL.lean.txt@@
namespace Jvm.RoadKit
open Sem ClassFile Op Lib Jvm.Stand Jvm.Free Jvm.LawKit
section New
variable {p : Program} {l : Launch} {e : Env} {R : Room} {s : State} {m : MethodId} {args : Array Value} {below : List Frame} {meth : Method} {c : Code} {T : State} {locs : List Loc} {cells slots : Nat}
theorem retI (X : Stand p l e R s m args below meth c T locs cells slots) (hx : p.tables.exec = Jvm.exec) {pc : Nat} {Ls : Array Slot} {z : Int32} {rest : List Value} (hret : meth.sig.returnType = some .int) (hd : decode c.code pc = .ok (.ireturn, 1)) {fs : List Frame}
    (hl : ∀ (f : JFrame) (acts : List Action), f.method = m → f.locked = none → f.entered = [] → (doReturn e (T.setTop f) acts (some (.int z))).1 = T.setFrames fs) : Steps p.tables e below (T.setTop (mkF m pc Ls (.int z :: rest))) (T.setFrames fs) := by
  have hm' : T.vm.method? m = some meth := X.method'
  have hn : narrow .int (.int z) = .int z := rfl
  show Steps p.tables e below (T.setTop { method := m, pc := pc, locals := Ls, stack := _ :: rest, locked := none }) _
  jvm_step X.here [X.here.top, hx, hd, hm', hret, hn]
  first | (intro acts; rw [hl _ acts rfl rfl rfl]) | rw [hl _ _ rfl rfl rfl]
  exact Steps.refl _
end New
end Jvm.RoadKit
namespace Jvm.Pilot.@@N@@
open Jvm Jvm.ClassFile Sem Op Lib Jvm.Free Jvm.Stand Jvm.LawKit Jvm.RoadKit Bundle Jvm.Pilot.@@N@@.Jvm.D
/-- what is still to be run from the state A on: it ends, returned, and Q says what it leaves -/
def own_Gl (FE : State → Outcome → State → List Loc → Nat → Nat → Prop) (p : Program) (e : Env) (below : List Frame) (s : State) (Q : Option Value → Heap → List Loc → Prop) (C N : Nat) (A : State) : Prop :=
  ∃ s₂ o, Steps p.tables e below A s₂ ∧ s₂.status = .running ∧ Ended s₂ below o ∧ ∃ v L, o = .returned v ∧ Q v s₂.heap L ∧ FE s o s₂ L C N
theorem own_st {FE : State → Outcome → State → List Loc → Nat → Nat → Prop} {p : Program} {e : Env} {below : List Frame} {s : State} {Q : Option Value → Heap → List Loc → Prop} {C N : Nat} {A A' : State} (h : ∀ t, Steps p.tables e below A' t → Steps p.tables e below A t) (k : own_Gl FE p e below s Q C N A') : own_Gl FE p e below s Q C N A := by
  obtain ⟨s2, o, h1, r⟩ := k
  exact ⟨s2, o, h _ h1, r⟩
theorem own_tr {FE : State → Outcome → State → List Loc → Nat → Nat → Prop} {p : Program} {e : Env} {below : List Frame} {s : State} {Q : Option Value → Heap → List Loc → Prop} {C N : Nat} {A A' : State} (h : Steps p.tables e below A A') (k : own_Gl FE p e below s Q C N A') : own_Gl FE p e below s Q C N A := by
  obtain ⟨s2, o, h1, r⟩ := k
  exact ⟨s2, o, h.trans h1, r⟩
theorem own_ret {p : Program} {l : Launch} {e : Env} {R : Room} {s : State} {m : MethodId} {args : Array Value} {below : List Frame} {meth : Method} {c : Code} {T : State} {locs : List Loc} {cells slots : Nat} {Q : Option Value → Heap → List Loc → Prop} {C N : Nat} {A : State}
    (X : Stand p l e R s m args below meth c T locs cells slots) {v : Option Value} (hv : meth.sig.returnType = none → v = none) (hlocks : meth.locks = false) (hC : cells ≤ C) (hN : slots ≤ N) (q : Q v T.heap locs)
    (h : ∀ fs, (∀ (f : JFrame) (acts : List Action), f.method = m → f.locked = none → f.entered = [] → (doReturn e (T.setTop f) acts v).1 = T.setFrames fs) → Steps p.tables e below A (T.setFrames fs)) : own_Gl FrameEnd p e below s Q C N A := by
  obtain ⟨fs, hr, hrun, hended, hW, hsame⟩ := X.leave (v := v) hv hlocks
  exact ⟨_, _, h fs hr, hrun, hended, v, locs, rfl, q, ⟨v, rfl⟩, hW, hsame.mono hC hN⟩
theorem own_retW {p : Program} {l : Launch} {e : Env} {R : Room} {s : State} {vm0 : Vm} {m : MethodId} {args : Array Value} {below : List Frame} {meth : Method} {c : Code} {T : State} {locs : List Loc} {cells slots : Nat} {Q : Option Value → Heap → List Loc → Prop} {C N : Nat} {A : State}
    (X : Stand p l e R (s.setVm vm0) m args below meth c T locs cells slots) {k0 : Nat} (hS : s.Since vm0 k0) (hk : k0 ≤ T.heap.size) {v : Option Value} (hv : meth.sig.returnType = none → v = none) (hlocks : meth.locks = false) (hC : cells ≤ C) (hN : slots ≤ N) (q : Q v T.heap locs)
    (h : ∀ fs, (∀ (f : JFrame) (acts : List Action), f.method = m → f.locked = none → f.entered = [] → (doReturn e (T.setTop f) acts v).1 = T.setFrames fs) → Steps p.tables e below A (T.setFrames fs)) : own_Gl ReturnedEndW p e below s Q C N A := by
  obtain ⟨fs, hr, hrun, hended, h1, h2, h3, h4⟩ := X.leaveW hS hk (v := v) hv hlocks
  exact ⟨_, _, h fs hr, hrun, hended, v, locs, rfl, q, h1, h2, h3, h4.mono hC hN⟩
theorem own_at_heap {T : State} {h : Heap} {a : Addr} {cl : Cell} (e : T.heap = h) (q : h[a]? = some cl) : T.heap[a]? = some cl := by rw [e]; exact q
theorem own_kext {h0 h : Heap} (K : Keep h0 h ([] : List Addr)) : Ext h0 h := ⟨K.1, fun a c q => K.2.1 a c q nin0⟩
def own_FEH (Z : State) (EL : List (String × Nat)) (s : State) (o : Outcome) (t : State) (L : List Loc) (k n : Nat) : Prop := CHr Z EL s.vm s.heap t.vm t.heap ∧ ReturnedEndW s o t L k n
theorem own_retH {Z : State} {EL : List (String × Nat)} {a0 : Array Value} {p : Program} {l : Launch} {e : Env} {R : Room} {s : State} {vm0 : Vm} {m : MethodId} {args : Array Value} {below : List Frame} {meth : Method} {c : Code} {T : State} {locs : List Loc} {cells slots : Nat} {Q : Option Value → Heap → List Loc → Prop} {C N : Nat} {A : State} {h : Heap}
    (X : Stand p l e R (s.setVm vm0) m args below meth c T locs cells slots) {k0 : Nat} (hS : s.Since vm0 k0) (hk : k0 ≤ T.heap.size) (hZ : Z.Warmed39 vm0) (hEL : EW Z a0 EL) (eT : T.heap = h) (hR : CHr Z EL s.vm s.heap vm0 h) {v : Option Value} (hv : meth.sig.returnType = none → v = none) (hlocks : meth.locks = false) (hC : cells ≤ C) (hN : slots ≤ N) (q : Q v T.heap locs)
    (h' : ∀ fs, (∀ (f : JFrame) (acts : List Action), f.method = m → f.locked = none → f.entered = [] → (doReturn e (T.setTop f) acts v).1 = T.setFrames fs) → Steps p.tables e below A (T.setFrames fs)) : own_Gl (own_FEH Z EL) p e below s Q C N A := by
  obtain ⟨fs, hr, hrun, hended, h1, h2, h3, h4⟩ := X.leaveW hS hk (v := v) hv hlocks
  subst eT
  exact ⟨_, _, h' fs hr, hrun, hended, v, locs, rfl, q, (show CHr Z EL s.vm s.heap T.vm T.heap from hR.trans (CHv.at X hZ hEL hR.1)), h1, h2, h3, h4.mono hC hN⟩
theorem own_lgt {x y : Int64} (h : y < x) : (0 : Int32) < lcmpW x y := by rw [lcW]; exact (lc_gt _ _).mpr h
theorem own_ngt {x y : Int64} (h : ¬ y < x) : ¬ (0 : Int32) < lcmpW x y := by rw [lcW]; exact fun q => h ((lc_gt _ _).mp q)
theorem own_llt {x y : Int64} (h : x < y) : lcmpW x y < (0 : Int32) := by rw [lcW]; exact (lc_lt _ _).mpr h
theorem own_nlt {x y : Int64} (h : ¬ x < y) : ¬ lcmpW x y < (0 : Int32) := by rw [lcW]; exact fun q => h ((lc_lt _ _).mp q)
theorem own_leq {x y : Int64} (h : x = y) : lcmpW x y = (0 : Int32) := by rw [lcW]; exact (lc_eq _ _).mpr h
theorem own_neq {x y : Int64} (h : ¬ x = y) : ¬ lcmpW x y = (0 : Int32) := by rw [lcW]; exact fun q => h ((lc_eq _ _).mp q)
theorem own_lrem {p : Program} {l : Launch} {e : Env} {R : Room} {s : State} {m : MethodId} {args : Array Value} {below : List Frame} {meth : Method} {c : Code} {T : State} {locs : List Loc} {cells slots : Nat} {g : JFrame} {target : State} (X : Stand p l e R s m args below meth c T locs cells slots) (hx : p.tables.exec = Jvm.exec) (hg : g.method = m) {x y : Int64} {rest : List Value} (hd : decode c.code g.pc = .ok (.lrem, 1)) (hs : g.stack = .long y :: .long x :: rest) (hy : y ≠ 0)
    (hr : Steps p.tables e below (T.setTop { g with pc := g.pc + 1, stack := .long (x - (x / y) * y) :: rest }) target) : Steps p.tables e below (T.setTop g) target := XS.lrem X.here hx hg hd hs hy hr
theorem own_m31 (x : Int32) : (x &&& (2147483647 : Int32)).toInt = x.toInt % 2 ^ 31 := Jvm.Kit.i32_mask x 2147483647 (k := 31) (by decide) (by decide)
theorem own_rem (x k : Int32) (n : Nat) (hk : k.toInt = n) (hn : 0 < n) : 0 ≤ ((x &&& (2147483647 : Int32)) % k).toInt ∧ ((x &&& (2147483647 : Int32)) % k).toInt < n := by
  have m := own_m31 x
  rw [Jvm.Kit.i32_rem_nonneg (by rw [m]; omega), hk]
  exact ⟨Int.emod_nonneg _ (by omega), Int.emod_lt_of_pos _ (by omega)⟩
theorem own_split6 {z : Int32} (h0 : 0 ≤ z.toInt) (h1 : z.toInt < 6) : z = (0 : Int32) ∨ z = (1 : Int32) ∨ z = (2 : Int32) ∨ z = (3 : Int32) ∨ z = (4 : Int32) ∨ z = (5 : Int32) := by
  have e : ∀ k : Int32, z.toInt = k.toInt → z = k := fun k h => Int32.toInt_inj.mp h
  have q : z.toInt = 0 ∨ z.toInt = 1 ∨ z.toInt = 2 ∨ z.toInt = 3 ∨ z.toInt = 4 ∨ z.toInt = 5 := by omega
  rcases q with h | h | h | h | h | h
  · exact Or.inl (e 0 (h.trans (by decide)))
  · exact Or.inr (Or.inl (e 1 (h.trans (by decide))))
  · exact Or.inr (Or.inr (Or.inl (e 2 (h.trans (by decide)))))
  · exact Or.inr (Or.inr (Or.inr (Or.inl (e 3 (h.trans (by decide))))))
  · exact Or.inr (Or.inr (Or.inr (Or.inr (Or.inl (e 4 (h.trans (by decide)))))))
  · exact Or.inr (Or.inr (Or.inr (Or.inr (Or.inr (e 5 (h.trans (by decide)))))))
theorem own_split3 {z : Int32} (h0 : 0 ≤ z.toInt) (h1 : z.toInt < 3) : z = (0 : Int32) ∨ z = (1 : Int32) ∨ z = (2 : Int32) := by
  have e : ∀ k : Int32, z.toInt = k.toInt → z = k := fun k h => Int32.toInt_inj.mp h
  have q : z.toInt = 0 ∨ z.toInt = 1 ∨ z.toInt = 2 := by omega
  rcases q with h | h | h
  · exact Or.inl (e 0 (h.trans (by decide)))
  · exact Or.inr (Or.inl (e 1 (h.trans (by decide))))
  · exact Or.inr (Or.inr (e 2 (h.trans (by decide))))
theorem own_split2 {z : Int32} (h0 : 0 ≤ z.toInt) (h1 : z.toInt < 2) : z = (0 : Int32) ∨ z = (1 : Int32) := by
  have e : ∀ k : Int32, z.toInt = k.toInt → z = k := fun k h => Int32.toInt_inj.mp h
  have q : z.toInt = 0 ∨ z.toInt = 1 := by omega
  rcases q with h | h
  · exact Or.inl (e 0 (h.trans (by decide)))
  · exact Or.inr (e 1 (h.trans (by decide)))
theorem own_split1 {z : Int32} (h0 : 0 ≤ z.toInt) (h1 : z.toInt < 1) : z = (0 : Int32) := Int32.toInt_inj.mp ((show z.toInt = 0 by omega).trans (by decide))
def own_at (xs : List Int32) (j : Int32) : Int32 := xs.getD j.toNatClampNeg 0
def own_put (xs : List Int32) (j v : Int32) : List Int32 := xs.set j.toNatClampNeg v
abbrev own_in (j : Int32) : Prop := 0 ≤ j.toInt ∧ j.toInt < 3
/-- members, positions, size -/
abbrev own_D := List Int32 × List Int32 × Int32
def own_D0 : own_D := ([0, 0, 0], [-1, -1, -1], 0)
def own_add (D : own_D) (x : Int32) : own_D := (own_put D.1 D.2.2 x, own_put D.2.1 x D.2.2, D.2.2 + 1)
def own_del (D : own_D) (x : Int32) : own_D := (own_put D.1 (own_at D.2.1 x) (own_at D.1 (D.2.2 - 1)), own_put (own_put D.2.1 (own_at D.1 (D.2.2 - 1)) (own_at D.2.1 x)) x (-1), D.2.2 - 1)
def own_rat (xs : List Int32) (sz r : Int32) : List Int32 := own_put xs r (own_at xs (sz - 1))
abbrev own_okA (D : own_D) (x : Int32) : Prop := own_in D.2.2 ∧ own_in x
abbrev own_okR (D : own_D) (x : Int32) : Prop := own_in x ∧ own_in (D.2.2 - 1) ∧ own_in (own_at D.2.1 x) ∧ own_in (own_at D.1 (D.2.2 - 1))
def own_con (ps : List Int32) (j : Int32) : Int32 := if own_at ps j < 0 then 0 else 1
def own_ins (xs : List Int32) (sz j : Int32) : Int32 := if 0 < sz then (if own_at xs 0 = j then 1 else if 1 < sz then (if own_at xs 1 = j then 1 else if 2 < sz then (if own_at xs 2 = j then 1 else 0) else 0) else if 2 < sz then (if own_at xs 2 = j then 1 else 0) else 0) else if 1 < sz then (if own_at xs 1 = j then 1 else if 2 < sz then (if own_at xs 2 = j then 1 else 0) else 0) else if 2 < sz then (if own_at xs 2 = j then 1 else 0) else 0
abbrev own_fin (D : own_D) (sz : Int32) (mm : List Int32) : Prop := D.2.2 = sz ∧ (0 < sz → own_at D.1 0 = own_at mm 0) ∧ (1 < sz → own_at D.1 1 = own_at mm 1) ∧ own_con D.2.1 0 = own_ins mm sz 0 ∧ own_con D.2.1 1 = own_ins mm sz 1 ∧ own_con D.2.1 2 = own_ins mm sz 2
abbrev own_perm (a b c : Int32) : Prop := (a = 0 ∧ b = 1 ∧ c = 2) ∨ (a = 0 ∧ b = 2 ∧ c = 1) ∨ (a = 1 ∧ b = 2 ∧ c = 0) ∨ (a = 1 ∧ b = 0 ∧ c = 2) ∨ (a = 2 ∧ b = 0 ∧ c = 1) ∨ (a = 2 ∧ b = 1 ∧ c = 0)
def own_ai (Z : State) (h : Heap) (a : Addr) (k : ClassId) (xs : List Int32) : Prop := Arv Z h a k .int (3 : Int32) (xs.map Value.int) (.int (0 : Int32)) ∧ xs.length = 3
theorem own_ai.lt {Z : State} {h : Heap} {a : Addr} {k : ClassId} {xs : List Int32} (F : own_ai Z h a k xs) : a < h.size := Arv.lt F.1
theorem own_ai.ext {Z : State} {h h' : Heap} {a : Addr} {k : ClassId} {xs : List Int32} (F : own_ai Z h a k xs) (E : Ext h h') : own_ai Z h' a k xs := ⟨Arv.ext F.1 E, F.2⟩
theorem own_ai.other {Z : State} {h h' : Heap} {a b : Addr} {sl : Nat} {v : Value} {k : ClassId} {xs : List Int32} (F : own_ai Z h b k xs) (W : Wr h h' a sl v) (q : b ≠ a) : own_ai Z h' b k xs := ⟨Arv.other F.1 W q, F.2⟩
theorem own_ai.keep {Z : State} {h h' : Heap} {a : Addr} {ws : List Addr} {k : ClassId} {xs : List Int32} (F : own_ai Z h a k xs) (K : Keep h h' ws) (q : a ∉ ws) : own_ai Z h' a k xs := ⟨Arv.keep F.1 K q, F.2⟩
theorem own_inb {j : Int32} (b : own_in j) : ¬ j < 0 ∧ j < 3 := by
  have c3 : (3 : Int32).toInt = 3 := by decide
  rw [Int32.lt_iff_toInt_lt, Int32.lt_iff_toInt_lt, Int32.toInt_zero, c3]
  exact ⟨by omega, by omega⟩
theorem own_inn {j : Int32} (b : own_in j) : j.toNatClampNeg < 3 := by rw [← Int32.toNat_toInt]; omega
theorem own_getD (xs : List Int32) (n : Nat) : (xs.map Value.int).getD n (.int 0) = .int (xs.getD n 0) := by
  simp only [List.getD_eq_getElem?_getD, List.getElem?_map]
  cases xs[n]? <;> rfl
theorem own_ai_ld {Z : State} {h : Heap} {a : Addr} {k : ClassId} {xs : List Int32} (A : own_ai Z h a k xs) {j : Int32} (b : own_in j) : ∃ cl, Arr Z h a cl .int ∧ ¬ (j < 0 ∨ cl.slots.size ≤ j.toNatClampNeg) ∧ cl.slots[j.toNatClampNeg]? = some (.int (own_at xs j)) := by
  obtain ⟨⟨cl, Ar, q, S, N, H, G⟩, hl⟩ := A
  have hin := inb_of S (own_inb b)
  exact ⟨cl, Ar, hin, H.at hin (own_getD xs _)⟩
theorem own_ai_st {Z : State} {h : Heap} {a : Addr} {k : ClassId} {xs : List Int32} (A : own_ai Z h a k xs) {j : Int32} (b : own_in j) : ∃ cl, Arr Z h a cl .int ∧ ¬ (j < 0 ∨ cl.slots.size ≤ j.toNatClampNeg) ∧ ∀ (h' : Heap) (v : Int32), Wr h h' a j.toNatClampNeg (.int v) → own_ai Z h' a k (own_put xs j v) := by
  obtain ⟨⟨cl, Ar, q, S, N, H, G⟩, hl⟩ := A
  refine ⟨cl, Ar, inb_of S (own_inb b), fun h' v W => ⟨?_, by unfold own_put; rw [List.length_set]; exact hl⟩⟩
  have q := Arv.set Ar q S N H G (v := .int v) rfl W j.toNatClampNeg rfl (by rw [List.length_map, hl]; exact own_inn b)
  unfold own_put
  rw [List.map_set]
  exact q
def own_IS (Z : State) (h : Heap) (th am ap : Addr) (ka kp : ClassId) (D : own_D) : Prop := Exa Z h th "com/example/slotpack/slotpack/IndexSet" ∧ Fld Z h th "com/example/slotpack/slotpack/IndexSet" "members" "[I" (.ref am) ∧ Fld Z h th "com/example/slotpack/slotpack/IndexSet" "positions" "[I" (.ref ap) ∧ Fld Z h th "com/example/slotpack/slotpack/IndexSet" "size" "I" (.int D.2.2) ∧ own_ai Z h am ka D.1 ∧ own_ai Z h ap kp D.2.1
def own_geo (n0 : Nat) (th am ap : Addr) : Prop := n0 ≤ th ∧ n0 ≤ am ∧ n0 ≤ ap ∧ th ≠ am ∧ th ≠ ap ∧ am ≠ ap
theorem own_perm_a (p : Int32) (h : p = 0 ∨ p = 1 ∨ p = 2 ∨ p = 3 ∨ p = 4 ∨ p = 5) : (p &&& (1 : Int32) = (0 : Int32) → own_perm (p / (2 : Int32)) ((p / (2 : Int32) + (1 : Int32)) % (3 : Int32)) ((p / (2 : Int32) + (2 : Int32)) % (3 : Int32))) ∧ (¬ p &&& (1 : Int32) = (0 : Int32) → own_perm (p / (2 : Int32)) ((p / (2 : Int32) + (2 : Int32)) % (3 : Int32)) ((p / (2 : Int32) + (1 : Int32)) % (3 : Int32))) := by
  rcases h with rfl | rfl | rfl | rfl | rfl | rfl
  all_goals refine ⟨fun h => ?_, fun h => ?_⟩
  all_goals first | exact absurd h (by decide) | exact absurd (by decide) h | exact Or.inl ⟨by decide, by decide, by decide⟩ | exact Or.inr (Or.inl ⟨by decide, by decide, by decide⟩) | exact Or.inr (Or.inr (Or.inl ⟨by decide, by decide, by decide⟩)) | exact Or.inr (Or.inr (Or.inr (Or.inl ⟨by decide, by decide, by decide⟩))) | exact Or.inr (Or.inr (Or.inr (Or.inr (Or.inl ⟨by decide, by decide, by decide⟩)))) | exact Or.inr (Or.inr (Or.inr (Or.inr (Or.inr ⟨by decide, by decide, by decide⟩))))
theorem own_d3_0 : decode jdk_65_method_103_code 0 = .ok (.iconst 0, 1) := by decide +kernel
theorem own_d3_1 : decode jdk_65_method_103_code 1 = .ok (.istore_n 2, 1) := by decide +kernel
theorem own_d3_2 : decode jdk_65_method_103_code 2 = .ok (.aload_n 0, 1) := by decide +kernel
theorem own_d3_3 : decode jdk_65_method_103_code 3 = .ok (.arraylength, 1) := by decide +kernel
theorem own_d3_4 : decode jdk_65_method_103_code 4 = .ok (.istore_n 3, 1) := by decide +kernel
theorem own_d3_5 : decode jdk_65_method_103_code 5 = .ok (.iload_n 2, 1) := by decide +kernel
theorem own_d3_6 : decode jdk_65_method_103_code 6 = .ok (.iload_n 3, 1) := by decide +kernel
theorem own_d3_7 : decode jdk_65_method_103_code 7 = .ok (.if_icmp .ge 13, 3) := by decide +kernel
theorem own_d3_10 : decode jdk_65_method_103_code 10 = .ok (.aload_n 0, 1) := by decide +kernel
theorem own_d3_11 : decode jdk_65_method_103_code 11 = .ok (.iload_n 2, 1) := by decide +kernel
theorem own_d3_12 : decode jdk_65_method_103_code 12 = .ok (.iload_n 1, 1) := by decide +kernel
theorem own_d3_13 : decode jdk_65_method_103_code 13 = .ok (.iastore, 1) := by decide +kernel
theorem own_d3_14 : decode jdk_65_method_103_code 14 = .ok (.iinc 2 1, 3) := by decide +kernel
theorem own_d3_17 : decode jdk_65_method_103_code 17 = .ok (.goto (-12), 3) := by decide +kernel
theorem own_d3_20 : decode jdk_65_method_103_code 20 = .ok (.return_, 1) := by decide +kernel
theorem own_ef_rm3 (m : MethodId) (ar : Addr) (pv : Int32) : entryFrame m #[(.ref ar), (.int pv)] 4 = mkF m 0 #[.val (.ref ar), .val (.int pv), .unset, .unset] [] := by first | (simp [entryFrame, mkF, argsToLocals, Value.category]; done) | rfl
theorem own_pn0 : plainName "java/util/Arrays" = true := by first | (simp [plainName, overriddenIn]; done) | decide +kernel
def Q3 (Z : State) (ar : Addr) (pv : Int32) (k : ClassId) (xs : List Int32) (h0 : Heap) (n0 : Nat) (v : Option Value) (h : Heap) (L : List Loc) : Prop := v = none ∧ Fr n0 L ∧ Keep h0 h [ar] ∧ own_ai Z h ar k (own_put (own_put (own_put xs 0 pv) 1 pv) 2 pv)
set_option maxRecDepth 65536 in
set_option maxHeartbeats 40000000 in
theorem rm3 (l : Launch) (Z : State) (a0 : Array Value) (hw : ∀ d ∈ tables_1, d.before a0 Z = true) (ws : List Jvm.Cond) (ar : Addr) (pv : Int32) (k : ClassId) (xs : List Int32) (h0 : Heap) (n0 : Nat) (Z0 : n0 ≤ h0.size) (Va : own_ai Z h0 ar k xs) (gar : n0 ≤ ar) :
    MetFree l (⟨"java/util/Arrays", "fill", "([II)V"⟩ : MethodName) (head1 (Jvm.Cond.code (⟨"java/util/Arrays", "fill", "([II)V"⟩ : MethodName) jdk_65_method_103_code 4 none :: ws) ({ frames := 0, cells := 0, slots := 0, locals := 0 } : Room)) (fun a U => a = #[(.ref ar), (.int pv)] ∧ Z.Warmed39 U.vm ∧ U.heap = h0) (fun _ _ _ _ _ => True) (fun _ U o U' => ∃ v L, o = .returned v ∧ Q3 Z ar pv k xs h0 n0 v U'.heap L ∧ FrameEnd U o U' L ({ frames := 0, cells := 0, slots := 0, locals := 0 } : Room).cells ({ frames := 0, cells := 0, slots := 0, locals := 0 } : Room).slots) := by
  refine MetFree.of_bodySF (plainFor_of_name own_pn0) hisR ?_
  intro p e s m args below meth c s₁ Bd hml0 hP hK
  obtain ⟨rfl, hZ, hh⟩ := hP
  have hx := Bd.exec
  have hby := Bd.bytes
  have hml : c.maxLocals = 4 := hml0
  have hown : s.vm.findClass "java/util/Arrays" = some m.cls := findClass_of_methodNamed Bd.named
  have hnm := (name_of_methodNamed Bd.named Bd.method).1
  have hlk : meth.locks = false := BodyLoose.notSynchronized Bd
  have X0 : Stand p l e ({ frames := 0, cells := 0, slots := 0, locals := 0 } : Room) s m #[(.ref ar), (.int pv)] below meth c s₁ [] 0 0 := Stand.of_body Bd
  have e0 : s₁.heap = h0 := by rw [← hh, Bd.state]; rfl
  have N0 := Fr.nil n0
  show own_Gl FrameEnd p e below s (Q3 Z ar pv k xs h0 n0) ({ frames := 0, cells := 0, slots := 0, locals := 0 } : Room).cells ({ frames := 0, cells := 0, slots := 0, locals := 0 } : Room).slots (s₁.setTop (entryFrame m #[(.ref ar), (.int pv)] 4))
  rw [own_ef_rm3 m ar pv]
  refine own_st (A' := s₁.setTop (mkF m 3 #[.val (.ref ar), .val (.int pv), .val (.int (0 : Int32)), .unset] [(.ref ar)])) (fun tg kt => ?_) ?_
  · show Steps p.tables e below (s₁.setTop (mkF m 0 #[.val (.ref ar), .val (.int pv), .unset, .unset] [])) _
    refine XS.iconst X0.here hx rfl (hb hby own_d3_0) ?_
    show Steps p.tables e below (s₁.setTop (mkF m 1 #[.val (.ref ar), .val (.int pv), .unset, .unset] [(.int (0 : Int32))])) _
    refine XS.istoreN X0.here hx rfl (hb hby own_d3_1) rfl (l' := #[.val (.ref ar), .val (.int pv), .val (.int (0 : Int32)), .unset]) rfl ?_
    show Steps p.tables e below (s₁.setTop (mkF m 2 #[.val (.ref ar), .val (.int pv), .val (.int (0 : Int32)), .unset] [])) _
    refine XS.aloadN X0.here hx rfl (hb hby own_d3_2) rfl rfl ?_
    exact kt
  have Vt1 := Va.1
  obtain ⟨cl1, Ar1, -, Sz1, Nn1, -, -⟩ := Vt1
  refine own_st (A' := s₁.setTop (mkF m 13 #[.val (.ref ar), .val (.int pv), .val (.int (0 : Int32)), .val (.int (3 : Int32))] [(.int pv), (.int (0 : Int32)), (.ref ar)])) (fun tg kt => ?_) ?_
  · show Steps p.tables e below (s₁.setTop (mkF m 3 #[.val (.ref ar), .val (.int pv), .val (.int (0 : Int32)), .unset] [(.ref ar)])) _
    refine X0.arraylength hx (own_at_heap e0 Ar1.1) (State.isArrayOf_alike hZ.alike Ar1.2.1) (g := (mkF m 3 #[.val (.ref ar), .val (.int pv), .val (.int (0 : Int32)), .unset] [(.ref ar)])) rfl rfl (hb hby own_d3_3) _ ?_
    rw [len_of Sz1 Nn1]
    show Steps p.tables e below (s₁.setTop (mkF m 4 #[.val (.ref ar), .val (.int pv), .val (.int (0 : Int32)), .unset] [(.int (3 : Int32))])) _
    refine XS.istoreN X0.here hx rfl (hb hby own_d3_4) rfl (l' := #[.val (.ref ar), .val (.int pv), .val (.int (0 : Int32)), .val (.int (3 : Int32))]) rfl ?_
    show Steps p.tables e below (s₁.setTop (mkF m 5 #[.val (.ref ar), .val (.int pv), .val (.int (0 : Int32)), .val (.int (3 : Int32))] [])) _
    refine XS.iloadN X0.here hx rfl (hb hby own_d3_5) rfl ?_
    show Steps p.tables e below (s₁.setTop (mkF m 6 #[.val (.ref ar), .val (.int pv), .val (.int (0 : Int32)), .val (.int (3 : Int32))] [(.int (0 : Int32))])) _
    refine XS.iloadN X0.here hx rfl (hb hby own_d3_6) rfl ?_
    show Steps p.tables e below (s₁.setTop (mkF m 7 #[.val (.ref ar), .val (.int pv), .val (.int (0 : Int32)), .val (.int (3 : Int32))] [(.int (3 : Int32)), (.int (0 : Int32))])) _
    refine XS.icmpNo X0.here hx rfl (hb hby own_d3_7) rfl (tlt ((by decide) : (0 : Int32) < (3 : Int32))).2.1 ?_
    show Steps p.tables e below (s₁.setTop (mkF m 10 #[.val (.ref ar), .val (.int pv), .val (.int (0 : Int32)), .val (.int (3 : Int32))] [])) _
    refine XS.aloadN X0.here hx rfl (hb hby own_d3_10) rfl rfl ?_
    show Steps p.tables e below (s₁.setTop (mkF m 11 #[.val (.ref ar), .val (.int pv), .val (.int (0 : Int32)), .val (.int (3 : Int32))] [(.ref ar)])) _
    refine XS.iloadN X0.here hx rfl (hb hby own_d3_11) rfl ?_
    show Steps p.tables e below (s₁.setTop (mkF m 12 #[.val (.ref ar), .val (.int pv), .val (.int (0 : Int32)), .val (.int (3 : Int32))] [(.int (0 : Int32)), (.ref ar)])) _
    refine XS.iloadN X0.here hx rfl (hb hby own_d3_12) rfl ?_
    exact kt
  obtain ⟨cl2, Ar2, hin2, hset2⟩ := own_ai_st Va (j := (0 : Int32)) (by decide)
  obtain ⟨T3, h3, X3, e3, W3, st3⟩ := stI X0 hx hZ e0 Ar2 (j := (0 : Int32)) hin2 (g := (mkF m 13 #[.val (.ref ar), .val (.int pv), .val (.int (0 : Int32)), .val (.int (3 : Int32))] [(.int pv), (.int (0 : Int32)), (.ref ar)])) rfl rfl (hb hby own_d3_13)
  have N3 := Fr.snoc X3 N0 gar
  have K3 := ((Keep.refl h0 ([ar] : List Addr))).wr W3 (Or.inl (List.mem_of_getElem? (i := 0) rfl))
  have Z3 : n0 ≤ h3.size := Nat.le_trans Z0 (Keep.of_wr W3).1
  have V3 := hset2 _ _ W3
  refine own_st st3 ?_
  show own_Gl _ _ _ _ _ _ _ _ (T3.setTop (mkF m 14 #[.val (.ref ar), .val (.int pv), .val (.int (0 : Int32)), .val (.int (3 : Int32))] []))
  refine own_st (A' := T3.setTop (mkF m 13 #[.val (.ref ar), .val (.int pv), .val (.int (1 : Int32)), .val (.int (3 : Int32))] [(.int pv), (.int (1 : Int32)), (.ref ar)])) (fun tg kt => ?_) ?_
  · show Steps p.tables e below (T3.setTop (mkF m 14 #[.val (.ref ar), .val (.int pv), .val (.int (0 : Int32)), .val (.int (3 : Int32))] [])) _
    refine XS.iinc X3.here hx rfl (hb hby own_d3_14) rfl (l' := #[.val (.ref ar), .val (.int pv), .val (.int (1 : Int32)), .val (.int (3 : Int32))]) rfl ?_
    show Steps p.tables e below (T3.setTop (mkF m 17 #[.val (.ref ar), .val (.int pv), .val (.int (1 : Int32)), .val (.int (3 : Int32))] [])) _
    refine XS.goto X3.here hx rfl (pc0 := 17) (pc' := 5) rfl (hb hby own_d3_17) (by decide) (by decide) ?_
    show Steps p.tables e below (T3.setTop (mkF m 5 #[.val (.ref ar), .val (.int pv), .val (.int (1 : Int32)), .val (.int (3 : Int32))] [])) _
    refine XS.iloadN X3.here hx rfl (hb hby own_d3_5) rfl ?_
    show Steps p.tables e below (T3.setTop (mkF m 6 #[.val (.ref ar), .val (.int pv), .val (.int (1 : Int32)), .val (.int (3 : Int32))] [(.int (1 : Int32))])) _
    refine XS.iloadN X3.here hx rfl (hb hby own_d3_6) rfl ?_
    show Steps p.tables e below (T3.setTop (mkF m 7 #[.val (.ref ar), .val (.int pv), .val (.int (1 : Int32)), .val (.int (3 : Int32))] [(.int (3 : Int32)), (.int (1 : Int32))])) _
    refine XS.icmpNo X3.here hx rfl (hb hby own_d3_7) rfl (tlt ((by decide) : (1 : Int32) < (3 : Int32))).2.1 ?_
    show Steps p.tables e below (T3.setTop (mkF m 10 #[.val (.ref ar), .val (.int pv), .val (.int (1 : Int32)), .val (.int (3 : Int32))] [])) _
    refine XS.aloadN X3.here hx rfl (hb hby own_d3_10) rfl rfl ?_
    show Steps p.tables e below (T3.setTop (mkF m 11 #[.val (.ref ar), .val (.int pv), .val (.int (1 : Int32)), .val (.int (3 : Int32))] [(.ref ar)])) _
    refine XS.iloadN X3.here hx rfl (hb hby own_d3_11) rfl ?_
    show Steps p.tables e below (T3.setTop (mkF m 12 #[.val (.ref ar), .val (.int pv), .val (.int (1 : Int32)), .val (.int (3 : Int32))] [(.int (1 : Int32)), (.ref ar)])) _
    refine XS.iloadN X3.here hx rfl (hb hby own_d3_12) rfl ?_
    exact kt
  obtain ⟨cl4, Ar4, hin4, hset4⟩ := own_ai_st V3 (j := (1 : Int32)) (by decide)
  obtain ⟨T5, h5, X5, e5, W5, st5⟩ := stI X3 hx hZ e3 Ar4 (j := (1 : Int32)) hin4 (g := (mkF m 13 #[.val (.ref ar), .val (.int pv), .val (.int (1 : Int32)), .val (.int (3 : Int32))] [(.int pv), (.int (1 : Int32)), (.ref ar)])) rfl rfl (hb hby own_d3_13)
  have N5 := Fr.snoc X5 N3 gar
  have K5 := (K3).wr W5 (Or.inl (List.mem_of_getElem? (i := 0) rfl))
  have Z5 : n0 ≤ h5.size := Nat.le_trans Z3 (Keep.of_wr W5).1
  have V5 := hset4 _ _ W5
  refine own_st st5 ?_
  show own_Gl _ _ _ _ _ _ _ _ (T5.setTop (mkF m 14 #[.val (.ref ar), .val (.int pv), .val (.int (1 : Int32)), .val (.int (3 : Int32))] []))
  refine own_st (A' := T5.setTop (mkF m 13 #[.val (.ref ar), .val (.int pv), .val (.int (2 : Int32)), .val (.int (3 : Int32))] [(.int pv), (.int (2 : Int32)), (.ref ar)])) (fun tg kt => ?_) ?_
  · show Steps p.tables e below (T5.setTop (mkF m 14 #[.val (.ref ar), .val (.int pv), .val (.int (1 : Int32)), .val (.int (3 : Int32))] [])) _
    refine XS.iinc X5.here hx rfl (hb hby own_d3_14) rfl (l' := #[.val (.ref ar), .val (.int pv), .val (.int (2 : Int32)), .val (.int (3 : Int32))]) rfl ?_
    show Steps p.tables e below (T5.setTop (mkF m 17 #[.val (.ref ar), .val (.int pv), .val (.int (2 : Int32)), .val (.int (3 : Int32))] [])) _
    refine XS.goto X5.here hx rfl (pc0 := 17) (pc' := 5) rfl (hb hby own_d3_17) (by decide) (by decide) ?_
    show Steps p.tables e below (T5.setTop (mkF m 5 #[.val (.ref ar), .val (.int pv), .val (.int (2 : Int32)), .val (.int (3 : Int32))] [])) _
    refine XS.iloadN X5.here hx rfl (hb hby own_d3_5) rfl ?_
    show Steps p.tables e below (T5.setTop (mkF m 6 #[.val (.ref ar), .val (.int pv), .val (.int (2 : Int32)), .val (.int (3 : Int32))] [(.int (2 : Int32))])) _
    refine XS.iloadN X5.here hx rfl (hb hby own_d3_6) rfl ?_
    show Steps p.tables e below (T5.setTop (mkF m 7 #[.val (.ref ar), .val (.int pv), .val (.int (2 : Int32)), .val (.int (3 : Int32))] [(.int (3 : Int32)), (.int (2 : Int32))])) _
    refine XS.icmpNo X5.here hx rfl (hb hby own_d3_7) rfl (tlt ((by decide) : (2 : Int32) < (3 : Int32))).2.1 ?_
    show Steps p.tables e below (T5.setTop (mkF m 10 #[.val (.ref ar), .val (.int pv), .val (.int (2 : Int32)), .val (.int (3 : Int32))] [])) _
    refine XS.aloadN X5.here hx rfl (hb hby own_d3_10) rfl rfl ?_
    show Steps p.tables e below (T5.setTop (mkF m 11 #[.val (.ref ar), .val (.int pv), .val (.int (2 : Int32)), .val (.int (3 : Int32))] [(.ref ar)])) _
    refine XS.iloadN X5.here hx rfl (hb hby own_d3_11) rfl ?_
    show Steps p.tables e below (T5.setTop (mkF m 12 #[.val (.ref ar), .val (.int pv), .val (.int (2 : Int32)), .val (.int (3 : Int32))] [(.int (2 : Int32)), (.ref ar)])) _
    refine XS.iloadN X5.here hx rfl (hb hby own_d3_12) rfl ?_
    exact kt
  obtain ⟨cl6, Ar6, hin6, hset6⟩ := own_ai_st V5 (j := (2 : Int32)) (by decide)
  obtain ⟨T7, h7, X7, e7, W7, st7⟩ := stI X5 hx hZ e5 Ar6 (j := (2 : Int32)) hin6 (g := (mkF m 13 #[.val (.ref ar), .val (.int pv), .val (.int (2 : Int32)), .val (.int (3 : Int32))] [(.int pv), (.int (2 : Int32)), (.ref ar)])) rfl rfl (hb hby own_d3_13)
  have N7 := Fr.snoc X7 N5 gar
  have K7 := (K5).wr W7 (Or.inl (List.mem_of_getElem? (i := 0) rfl))
  have Z7 : n0 ≤ h7.size := Nat.le_trans Z5 (Keep.of_wr W7).1
  have V7 := hset6 _ _ W7
  refine own_st st7 ?_
  show own_Gl _ _ _ _ _ _ _ _ (T7.setTop (mkF m 14 #[.val (.ref ar), .val (.int pv), .val (.int (2 : Int32)), .val (.int (3 : Int32))] []))
  refine own_st (A' := T7.setTop (mkF m 20 #[.val (.ref ar), .val (.int pv), .val (.int (3 : Int32)), .val (.int (3 : Int32))] [])) (fun tg kt => ?_) ?_
  · show Steps p.tables e below (T7.setTop (mkF m 14 #[.val (.ref ar), .val (.int pv), .val (.int (2 : Int32)), .val (.int (3 : Int32))] [])) _
    refine XS.iinc X7.here hx rfl (hb hby own_d3_14) rfl (l' := #[.val (.ref ar), .val (.int pv), .val (.int (3 : Int32)), .val (.int (3 : Int32))]) rfl ?_
    show Steps p.tables e below (T7.setTop (mkF m 17 #[.val (.ref ar), .val (.int pv), .val (.int (3 : Int32)), .val (.int (3 : Int32))] [])) _
    refine XS.goto X7.here hx rfl (pc0 := 17) (pc' := 5) rfl (hb hby own_d3_17) (by decide) (by decide) ?_
    show Steps p.tables e below (T7.setTop (mkF m 5 #[.val (.ref ar), .val (.int pv), .val (.int (3 : Int32)), .val (.int (3 : Int32))] [])) _
    refine XS.iloadN X7.here hx rfl (hb hby own_d3_5) rfl ?_
    show Steps p.tables e below (T7.setTop (mkF m 6 #[.val (.ref ar), .val (.int pv), .val (.int (3 : Int32)), .val (.int (3 : Int32))] [(.int (3 : Int32))])) _
    refine XS.iloadN X7.here hx rfl (hb hby own_d3_6) rfl ?_
    show Steps p.tables e below (T7.setTop (mkF m 7 #[.val (.ref ar), .val (.int pv), .val (.int (3 : Int32)), .val (.int (3 : Int32))] [(.int (3 : Int32)), (.int (3 : Int32))])) _
    refine XS.icmpYes X7.here hx rfl (pc0 := 7) (pc' := 20) rfl (hb hby own_d3_7) rfl (flt ((by decide) : ¬ ((3 : Int32) < (3 : Int32)))).2.1 (by decide) (by decide) ?_
    exact kt
  refine own_ret X7 (v := none) (fun _ => rfl) hlk (by decide) (by decide) ?_ (fun fs hr => ?_)
  · show Q3 Z ar pv k xs h0 n0 (none) T7.heap _
    rw [e7]
    exact ⟨rfl, N7, K7, V7⟩
  · show Steps p.tables e below (T7.setTop (mkF m 20 #[.val (.ref ar), .val (.int pv), .val (.int (3 : Int32)), .val (.int (3 : Int32))] [])) _
    exact X7.returnOut hx Bd.returns (hb hby own_d3_20) hr
theorem own_pd1 : parseMethodDescriptor "([II)V" = some ⟨[(.array .int), .int], none⟩ := by decide +kernel
theorem own_d1_0 : decode prog_16_method_1_code 0 = .ok (.aload_n 0, 1) := by decide +kernel
theorem own_d1_1 : decode prog_16_method_1_code 1 = .ok (.invokespecial 1, 3) := by decide +kernel
theorem own_d1_4 : decode prog_16_method_1_code 4 = .ok (.aload_n 0, 1) := by decide +kernel
theorem own_d1_5 : decode prog_16_method_1_code 5 = .ok (.iload_n 1, 1) := by decide +kernel
theorem own_d1_6 : decode prog_16_method_1_code 6 = .ok (.newarray .int, 2) := by decide +kernel
theorem own_d1_8 : decode prog_16_method_1_code 8 = .ok (.putfield 7, 3) := by decide +kernel
theorem own_d1_11 : decode prog_16_method_1_code 11 = .ok (.aload_n 0, 1) := by decide +kernel
theorem own_d1_12 : decode prog_16_method_1_code 12 = .ok (.iload_n 1, 1) := by decide +kernel
theorem own_d1_13 : decode prog_16_method_1_code 13 = .ok (.newarray .int, 2) := by decide +kernel
theorem own_d1_15 : decode prog_16_method_1_code 15 = .ok (.putfield 13, 3) := by decide +kernel
theorem own_d1_18 : decode prog_16_method_1_code 18 = .ok (.aload_n 0, 1) := by decide +kernel
theorem own_d1_19 : decode prog_16_method_1_code 19 = .ok (.getfield 13, 3) := by decide +kernel
theorem own_d1_22 : decode prog_16_method_1_code 22 = .ok (.iconst (-1), 1) := by decide +kernel
theorem own_d1_23 : decode prog_16_method_1_code 23 = .ok (.invokestatic 16, 3) := by decide +kernel
theorem own_d1_26 : decode prog_16_method_1_code 26 = .ok (.return_, 1) := by decide +kernel
theorem own_ef_rm1 (m : MethodId) (th : Addr) : entryFrame m #[(.ref th), (.int (3 : Int32))] 2 = mkF m 0 #[.val (.ref th), .val (.int (3 : Int32))] [] := by first | (simp [entryFrame, mkF, argsToLocals, Value.category]; done) | rfl
theorem own_pn2 : plainName "com/example/slotpack/slotpack/IndexSet" = true := by first | (simp [plainName, overriddenIn]; done) | decide +kernel
def Q1 (Z : State) (th : Addr) (h0 : Heap) (n0 : Nat) (v : Option Value) (h : Heap) (L : List Loc) : Prop := v = none ∧ Fr n0 L ∧ ∃ (am ap : Addr) (ka kp : ClassId), Keep h0 h [th] ∧ own_IS Z h th am ap ka kp own_D0 ∧ h0.size ≤ am ∧ h0.size ≤ ap ∧ am ≠ ap
set_option maxRecDepth 65536 in
set_option maxHeartbeats 40000000 in
theorem rm1 (l : Launch) (Z : State) (a0 : Array Value) (hw : ∀ d ∈ tables_1, d.before a0 Z = true) (ws : List Jvm.Cond) (th : Addr) (h0 : Heap) (n0 : Nat) (Z0 : n0 ≤ h0.size) (F_members : Fld Z h0 th "com/example/slotpack/slotpack/IndexSet" "members" "[I" .null) (F_positions : Fld Z h0 th "com/example/slotpack/slotpack/IndexSet" "positions" "[I" .null) (F_size : Fld Z h0 th "com/example/slotpack/slotpack/IndexSet" "size" "I" (.int (0 : Int32))) (Eth : Exa Z h0 th "com/example/slotpack/slotpack/IndexSet") (gth : n0 ≤ th) :
    MetFree l (⟨"com/example/slotpack/slotpack/IndexSet", "<init>", "(I)V"⟩ : MethodName) (head1 (Jvm.Cond.code (⟨"com/example/slotpack/slotpack/IndexSet", "<init>", "(I)V"⟩ : MethodName) prog_16_method_1_code 2 none :: ws) ({ frames := 1, cells := 2, slots := 6, locals := 15 } : Room)) (fun a U => a = #[(.ref th), (.int (3 : Int32))] ∧ Z.Warmed39 U.vm ∧ U.heap = h0) (fun _ _ _ _ _ => True) (fun _ U o U' => ∃ v L, o = .returned v ∧ Q1 Z th h0 n0 v U'.heap L ∧ FrameEnd U o U' L ({ frames := 1, cells := 2, slots := 6, locals := 15 } : Room).cells ({ frames := 1, cells := 2, slots := 6, locals := 15 } : Room).slots) := by
  refine MetFree.of_bodySF (plainFor_of_name own_pn2) hisR ?_
  intro p e s m args below meth c s₁ Bd hml0 hP hK
  obtain ⟨rfl, hZ, hh⟩ := hP
  have hx := Bd.exec
  have hby := Bd.bytes
  have hml : c.maxLocals = 2 := hml0
  have hown : s.vm.findClass "com/example/slotpack/slotpack/IndexSet" = some m.cls := findClass_of_methodNamed Bd.named
  have hnm := (name_of_methodNamed Bd.named Bd.method).1
  have hlk : meth.locks = false := BodyLoose.notSynchronized Bd
  have X0 : Stand p l e ({ frames := 1, cells := 2, slots := 6, locals := 15 } : Room) s m #[(.ref th), (.int (3 : Int32))] below meth c s₁ [] 0 0 := Stand.of_body Bd
  have e0 : s₁.heap = h0 := by rw [← hh, Bd.state]; rfl
  have N0 := Fr.nil n0
  show own_Gl FrameEnd p e below s (Q1 Z th h0 n0) ({ frames := 1, cells := 2, slots := 6, locals := 15 } : Room).cells ({ frames := 1, cells := 2, slots := 6, locals := 15 } : Room).slots (s₁.setTop (entryFrame m #[(.ref th), (.int (3 : Int32))] 2))
  rw [own_ef_rm1 m th]
  refine own_st (A' := s₁.setTop (mkF m 1 #[.val (.ref th), .val (.int (3 : Int32))] [(.ref th)])) (fun tg kt => ?_) ?_
  · show Steps p.tables e below (s₁.setTop (mkF m 0 #[.val (.ref th), .val (.int (3 : Int32))] [])) _
    refine XS.aloadN X0.here hx rfl (hb hby own_d1_0) rfl rfl ?_
    exact kt
  obtain ⟨T1, X1, e1, st1⟩ := initO X0 hx hZ hown (hw _ (List.mem_of_getElem? (i := 8) rfl)) (hw _ (List.mem_of_getElem? (i := 9) rfl)) (hw _ (List.mem_of_getElem? (i := 10) rfl)) e0 (g := (mkF m 1 #[.val (.ref th), .val (.int (3 : Int32))] [(.ref th)])) rfl (by rw [hml]; rfl) rfl (hb hby own_d1_1) (by decide) (W := 0) (by show 2 * 0 + _ ≤ _; exact Nat.le_of_eq rfl) (by decide)
  refine own_st st1 ?_
  show own_Gl _ _ _ _ _ _ _ _ (T1.setTop (mkF m 4 #[.val (.ref th), .val (.int (3 : Int32))] []))
  refine own_st (A' := T1.setTop (mkF m 6 #[.val (.ref th), .val (.int (3 : Int32))] [(.int (3 : Int32)), (.ref th)])) (fun tg kt => ?_) ?_
  · show Steps p.tables e below (T1.setTop (mkF m 4 #[.val (.ref th), .val (.int (3 : Int32))] [])) _
    refine XS.aloadN X1.here hx rfl (hb hby own_d1_4) rfl rfl ?_
    show Steps p.tables e below (T1.setTop (mkF m 5 #[.val (.ref th), .val (.int (3 : Int32))] [(.ref th)])) _
    refine XS.iloadN X1.here hx rfl (hb hby own_d1_5) rfl ?_
    exact kt
  obtain ⟨T2, h2, k2, X2, e2, E2, A2, st2⟩ := newP X1 hx hZ (hw _ (List.mem_of_getElem? (i := 1) rfl)) e1 (g := (mkF m 6 #[.val (.ref th), .val (.int (3 : Int32))] [(.int (3 : Int32)), (.ref th)])) rfl (hb hby own_d1_6) rfl (by decide) (cap := 3) (by decide) (by decide) (by decide) (by decide)
  obtain ⟨b2, g2⟩ : ∃ z, z = h0.size := ⟨_, rfl⟩
  rw [← g2] at A2 st2
  have g_b2 : n0 ≤ b2 := Nat.le_trans Z0 (Nat.le_of_eq g2.symm)
  have kw_b2 : h0.size ≤ b2 := Nat.le_trans ((Keep.refl h0 ([th] : List Addr))).1 (Nat.le_of_eq g2.symm)
  have ne_th_b2 : th ≠ b2 := Nat.ne_of_lt (Nat.lt_of_lt_of_le Eth.lt (Nat.le_of_eq g2.symm))
  have K2 := ((Keep.refl h0 ([th] : List Addr))).ext E2
  have Z2 : n0 ≤ h2.size := Nat.le_trans Z0 E2.1
  have V_b2 : Arv Z h2 b2 k2 .int (3 : Int32) [(.int (0 : Int32)), (.int (0 : Int32)), (.int (0 : Int32))] (.int (0 : Int32)) := (Arv.new A2 (by decide)).pad (pad_rep [] (.int (0 : Int32)) 3)
  have VA_b2 : own_ai Z h2 b2 k2 [0, 0, 0] := ⟨V_b2, rfl⟩
  refine own_st st2 ?_
  show own_Gl _ _ _ _ _ _ _ _ (T2.setTop (mkF m 8 #[.val (.ref th), .val (.int (3 : Int32))] [(.ref b2), (.ref th)]))
  obtain ⟨T3, h3, X3, e3, W3, st3⟩ := putF X2 hx hZ hown (host := "") (Or.inl (hw _ (List.mem_of_getElem? (i := 11) rfl))) Via.refl e2 (F_members.ext E2) (Eth.ext E2) (Or.inr ⟨(hw _ (List.mem_of_getElem? (i := 12) rfl)), rfl, hnm⟩) (hw _ (List.mem_of_getElem? (i := 3) rfl)) (ty := (.array .int)) (by decide) rfl rfl (g := (mkF m 8 #[.val (.ref th), .val (.int (3 : Int32))] [(.ref b2), (.ref th)])) rfl rfl (hb hby own_d1_8)
  have N3 := Fr.snoc X3 N0 gth
  have K3 := (K2).wr W3 (Or.inl (List.mem_of_getElem? (i := 0) rfl))
  have Z3 : n0 ≤ h3.size := Nat.le_trans Z2 (Keep.of_wr W3).1
  have Fa4 := ((F_positions.ext E2).other W3 (Or.inr (slot_ne (Or.inr (hw _ (List.mem_of_getElem? (i := 14) rfl))) (Or.inr (hw _ (List.mem_of_getElem? (i := 12) rfl))) (by decide) (t := (.array .int)) (t' := (.array .int)) (by decide) (by decide))))
  have Fa5 := ((F_size.ext E2).other W3 (Or.inr (slot_ne (Or.inl (hw _ (List.mem_of_getElem? (i := 25) rfl))) (Or.inr (hw _ (List.mem_of_getElem? (i := 12) rfl))) (by decide) (t := .int) (t' := (.array .int)) (by decide) (by decide))))
  refine own_st st3 ?_
  show own_Gl _ _ _ _ _ _ _ _ (T3.setTop (mkF m 11 #[.val (.ref th), .val (.int (3 : Int32))] []))
  refine own_st (A' := T3.setTop (mkF m 13 #[.val (.ref th), .val (.int (3 : Int32))] [(.int (3 : Int32)), (.ref th)])) (fun tg kt => ?_) ?_
  · show Steps p.tables e below (T3.setTop (mkF m 11 #[.val (.ref th), .val (.int (3 : Int32))] [])) _
    refine XS.aloadN X3.here hx rfl (hb hby own_d1_11) rfl rfl ?_
    show Steps p.tables e below (T3.setTop (mkF m 12 #[.val (.ref th), .val (.int (3 : Int32))] [(.ref th)])) _
    refine XS.iloadN X3.here hx rfl (hb hby own_d1_12) rfl ?_
    exact kt
  obtain ⟨T6, h6, k6, X6, e6, E6, A6, st6⟩ := newP X3 hx hZ (hw _ (List.mem_of_getElem? (i := 1) rfl)) e3 (g := (mkF m 13 #[.val (.ref th), .val (.int (3 : Int32))] [(.int (3 : Int32)), (.ref th)])) rfl (hb hby own_d1_13) rfl (by decide) (cap := 3) (by decide) (by decide) (by decide) (by decide)
  obtain ⟨b6, g6⟩ : ∃ z, z = h3.size := ⟨_, rfl⟩
  rw [← g6] at A6 st6
  have g_b6 : n0 ≤ b6 := Nat.le_trans Z3 (Nat.le_of_eq g6.symm)
  have kw_b6 : h0.size ≤ b6 := Nat.le_trans (K3).1 (Nat.le_of_eq g6.symm)
  have ne_th_b6 : th ≠ b6 := Nat.ne_of_lt (Nat.lt_of_lt_of_le ((Eth.ext E2).wr W3).lt (Nat.le_of_eq g6.symm))
  have ne_b2_b6 : b2 ≠ b6 := Nat.ne_of_lt (Nat.lt_of_lt_of_le (VA_b2.other W3 (Ne.symm ne_th_b2)).lt (Nat.le_of_eq g6.symm))
  have K6 := (K3).ext E6
  have Z6 : n0 ≤ h6.size := Nat.le_trans Z3 E6.1
  have V_b6 : Arv Z h6 b6 k6 .int (3 : Int32) [(.int (0 : Int32)), (.int (0 : Int32)), (.int (0 : Int32))] (.int (0 : Int32)) := (Arv.new A6 (by decide)).pad (pad_rep [] (.int (0 : Int32)) 3)
  have VA_b6 : own_ai Z h6 b6 k6 [0, 0, 0] := ⟨V_b6, rfl⟩
  refine own_st st6 ?_
  show own_Gl _ _ _ _ _ _ _ _ (T6.setTop (mkF m 15 #[.val (.ref th), .val (.int (3 : Int32))] [(.ref b6), (.ref th)]))
  obtain ⟨T7, h7, X7, e7, W7, st7⟩ := putF X6 hx hZ hown (host := "") (Or.inl (hw _ (List.mem_of_getElem? (i := 13) rfl))) Via.refl e6 (Fa4.ext E6) (((Eth.ext E2).wr W3).ext E6) (Or.inr ⟨(hw _ (List.mem_of_getElem? (i := 14) rfl)), rfl, hnm⟩) (hw _ (List.mem_of_getElem? (i := 3) rfl)) (ty := (.array .int)) (by decide) rfl rfl (g := (mkF m 15 #[.val (.ref th), .val (.int (3 : Int32))] [(.ref b6), (.ref th)])) rfl rfl (hb hby own_d1_15)
  have N7 := Fr.snoc X7 N3 gth
  have K7 := (K6).wr W7 (Or.inl (List.mem_of_getElem? (i := 0) rfl))
  have Z7 : n0 ≤ h7.size := Nat.le_trans Z6 (Keep.of_wr W7).1
  have Fa8 := ((Fa5.ext E6).other W7 (Or.inr (slot_ne (Or.inl (hw _ (List.mem_of_getElem? (i := 25) rfl))) (Or.inr (hw _ (List.mem_of_getElem? (i := 14) rfl))) (by decide) (t := .int) (t' := (.array .int)) (by decide) (by decide))))
  have Fa9 := (((VA_b2.other W3 (Ne.symm ne_th_b2)).ext E6).other W7 (Ne.symm ne_th_b2))
  have Fa10 := ((((F_members.ext E2).same W3).ext E6).other W7 (Or.inr (slot_ne (Or.inr (hw _ (List.mem_of_getElem? (i := 12) rfl))) (Or.inr (hw _ (List.mem_of_getElem? (i := 14) rfl))) (by decide) (t := (.array .int)) (t' := (.array .int)) (by decide) (by decide))))
  refine own_st st7 ?_
  show own_Gl _ _ _ _ _ _ _ _ (T7.setTop (mkF m 18 #[.val (.ref th), .val (.int (3 : Int32))] []))
  refine own_st (A' := T7.setTop (mkF m 19 #[.val (.ref th), .val (.int (3 : Int32))] [(.ref th)])) (fun tg kt => ?_) ?_
  · show Steps p.tables e below (T7.setTop (mkF m 18 #[.val (.ref th), .val (.int (3 : Int32))] [])) _
    refine XS.aloadN X7.here hx rfl (hb hby own_d1_18) rfl rfl ?_
    exact kt
  obtain ⟨T11, X11, e11, st11⟩ := getF X7 hx hZ hown (host := "") (Or.inl (hw _ (List.mem_of_getElem? (i := 13) rfl))) Via.refl e7 ((Fa4.ext E6).same W7) (g := (mkF m 19 #[.val (.ref th), .val (.int (3 : Int32))] [(.ref th)])) rfl rfl (hb hby own_d1_19)
  refine own_st st11 ?_
  show own_Gl _ _ _ _ _ _ _ _ (T11.setTop (mkF m 22 #[.val (.ref th), .val (.int (3 : Int32))] [(.ref b6)]))
  refine own_st (A' := T11.setTop (mkF m 23 #[.val (.ref th), .val (.int (3 : Int32))] [(.int (-1 : Int32)), (.ref b6)])) (fun tg kt => ?_) ?_
  · show Steps p.tables e below (T11.setTop (mkF m 22 #[.val (.ref th), .val (.int (3 : Int32))] [(.ref b6)])) _
    refine XS.iconst X11.here hx rfl (hb hby own_d1_22) ?_
    exact kt
  obtain ⟨_, _, ⟨T12, L12, k12, n12⟩, -, X12, ⟨Lc12, hQ12, l12, y12, z12⟩, st12⟩ := Jvm.LawKit.callS X11 hx (y := (⟨"java/util/Arrays", "fill", "([II)V"⟩ : MethodName)) hown (mvT hZ (hw _ (List.mem_of_getElem? (i := 15) rfl))) (mvT hZ (hw _ (List.mem_of_getElem? (i := 16) rfl))) (mvT hZ (hw _ (List.mem_of_getElem? (i := 17) rfl))) (mvT hZ (hw _ (List.mem_of_getElem? (i := 18) rfl))) (by decide) (backOf (W := 0) (rm3 l Z a0 hw [] b6 (-1 : Int32) k6 [0, 0, 0] h7 n0 Z7 (VA_b6.other W7 (Ne.symm ne_th_b6)) g_b6) hZ (hw _ (List.mem_of_getElem? (i := 18) rfl)) (hw _ (List.mem_of_getElem? (i := 17) rfl)) (by decide) (by decide)) (g := (mkF m 23 #[.val (.ref th), .val (.int (3 : Int32))] [(.int (-1 : Int32)), (.ref b6)])) rfl (by rw [hml]; rfl) (argsL := [(.ref b6), (.int (-1 : Int32))]) (rest := []) (lenOf own_pd1 rfl) rfl (by show 2 * 0 + _ ≤ _; exact Nat.le_of_eq rfl) (hb hby own_d1_23) (fun _ _ => ⟨rfl, e11, (by decide : 2 + 0 ≤ _), (by decide : 6 + 0 ≤ _)⟩)
  dsimp only [Pt.U, Pt.locs, Pt.cells, Pt.slots] at X12 l12 y12 z12 st12 hQ12
  subst l12 y12 z12
  obtain ⟨rfl, Nq12, Kq12, Vf12⟩ := hQ12
  have N12 := Fr.app N7 Nq12
  have Vq12 : own_ai Z T12.heap b6 k6 [-1, -1, -1] := Vf12
  have K12 := (K7).trans Kq12 (allS (Or.inr kw_b6) all0)
  have Z12 : n0 ≤ T12.heap.size := Nat.le_trans Z7 Kq12.1
  refine own_st st12 ?_
  show own_Gl _ _ _ _ _ _ _ _ (T12.setTop (mkF m 26 #[.val (.ref th), .val (.int (3 : Int32))] []))
  refine own_ret X12 (v := none) (fun _ => rfl) hlk (by decide) (by decide) ?_ (fun fs hr => ?_)
  · show Q1 Z th h0 n0 (none) T12.heap _
    exact ⟨rfl, N12, b2, b6, k2, _, K12, ⟨(((((Eth.ext E2).wr W3).ext E6).wr W7).keep Kq12), (Fa10.keep Kq12 (ninS ne_th_b6 nin0)), (((Fa4.ext E6).same W7).keep Kq12 (ninS ne_th_b6 nin0)), (Fa8.keep Kq12 (ninS ne_th_b6 nin0)), (Fa9.keep Kq12 (ninS ne_b2_b6 nin0)), Vq12⟩, kw_b2, kw_b6, ne_b2_b6⟩
  · show Steps p.tables e below (T12.setTop (mkF m 26 #[.val (.ref th), .val (.int (3 : Int32))] [])) _
    exact X12.returnOut hx Bd.returns (hb hby own_d1_26) hr
theorem own_d4_0 : decode prog_16_method_5_code 0 = .ok (.aload_n 0, 1) := by decide +kernel
theorem own_d4_1 : decode prog_16_method_5_code 1 = .ok (.getfield 7, 3) := by decide +kernel
theorem own_d4_4 : decode prog_16_method_5_code 4 = .ok (.aload_n 0, 1) := by decide +kernel
theorem own_d4_5 : decode prog_16_method_5_code 5 = .ok (.getfield 22, 3) := by decide +kernel
theorem own_d4_8 : decode prog_16_method_5_code 8 = .ok (.iload_n 1, 1) := by decide +kernel
theorem own_d4_9 : decode prog_16_method_5_code 9 = .ok (.iastore, 1) := by decide +kernel
theorem own_d4_10 : decode prog_16_method_5_code 10 = .ok (.aload_n 0, 1) := by decide +kernel
theorem own_d4_11 : decode prog_16_method_5_code 11 = .ok (.getfield 13, 3) := by decide +kernel
theorem own_d4_14 : decode prog_16_method_5_code 14 = .ok (.iload_n 1, 1) := by decide +kernel
theorem own_d4_15 : decode prog_16_method_5_code 15 = .ok (.aload_n 0, 1) := by decide +kernel
theorem own_d4_16 : decode prog_16_method_5_code 16 = .ok (.getfield 22, 3) := by decide +kernel
theorem own_d4_19 : decode prog_16_method_5_code 19 = .ok (.iastore, 1) := by decide +kernel
theorem own_d4_20 : decode prog_16_method_5_code 20 = .ok (.aload_n 0, 1) := by decide +kernel
theorem own_d4_21 : decode prog_16_method_5_code 21 = .ok (.dup, 1) := by decide +kernel
theorem own_d4_22 : decode prog_16_method_5_code 22 = .ok (.getfield 22, 3) := by decide +kernel
theorem own_d4_25 : decode prog_16_method_5_code 25 = .ok (.iconst 1, 1) := by decide +kernel
theorem own_d4_26 : decode prog_16_method_5_code 26 = .ok (.iadd, 1) := by decide +kernel
theorem own_d4_27 : decode prog_16_method_5_code 27 = .ok (.putfield 22, 3) := by decide +kernel
theorem own_d4_30 : decode prog_16_method_5_code 30 = .ok (.return_, 1) := by decide +kernel
theorem own_ef_rm4 (m : MethodId) (th : Addr) (x : Int32) : entryFrame m #[(.ref th), (.int x)] 2 = mkF m 0 #[.val (.ref th), .val (.int x)] [] := by first | (simp [entryFrame, mkF, argsToLocals, Value.category]; done) | rfl
def Q4 (Z : State) (th : Addr) (x : Int32) (am : Addr) (ap : Addr) (ka : ClassId) (kp : ClassId) (D : own_D) (h0 : Heap) (n0 : Nat) (v : Option Value) (h : Heap) (L : List Loc) : Prop := v = none ∧ Fr n0 L ∧ Keep h0 h [th, am, ap] ∧ own_IS Z h th am ap ka kp (own_add D x)
set_option maxRecDepth 65536 in
set_option maxHeartbeats 40000000 in
theorem rm4 (l : Launch) (Z : State) (a0 : Array Value) (hw : ∀ d ∈ tables_1, d.before a0 Z = true) (ws : List Jvm.Cond) (th : Addr) (x : Int32) (am : Addr) (ap : Addr) (ka : ClassId) (kp : ClassId) (D : own_D) (h0 : Heap) (n0 : Nat) (Z0 : n0 ≤ h0.size) (IS0 : own_IS Z h0 th am ap ka kp D) (geo : own_geo n0 th am ap) (ok : own_okA D x) :
    MetFree l (⟨"com/example/slotpack/slotpack/IndexSet", "add", "(I)V"⟩ : MethodName) (head1 (Jvm.Cond.code (⟨"com/example/slotpack/slotpack/IndexSet", "add", "(I)V"⟩ : MethodName) prog_16_method_5_code 2 none :: ws) ({ frames := 0, cells := 0, slots := 0, locals := 0 } : Room)) (fun a U => a = #[(.ref th), (.int x)] ∧ Z.Warmed39 U.vm ∧ U.heap = h0) (fun _ _ _ _ _ => True) (fun _ U o U' => ∃ v L, o = .returned v ∧ Q4 Z th x am ap ka kp D h0 n0 v U'.heap L ∧ FrameEnd U o U' L ({ frames := 0, cells := 0, slots := 0, locals := 0 } : Room).cells ({ frames := 0, cells := 0, slots := 0, locals := 0 } : Room).slots) := by
  refine MetFree.of_bodySF (plainFor_of_name own_pn2) hisR ?_
  intro p e s m args below meth c s₁ Bd hml0 hP hK
  obtain ⟨rfl, hZ, hh⟩ := hP
  have hx := Bd.exec
  have hby := Bd.bytes
  have hml : c.maxLocals = 2 := hml0
  have hown : s.vm.findClass "com/example/slotpack/slotpack/IndexSet" = some m.cls := findClass_of_methodNamed Bd.named
  have hnm := (name_of_methodNamed Bd.named Bd.method).1
  have hlk : meth.locks = false := BodyLoose.notSynchronized Bd
  have X0 : Stand p l e ({ frames := 0, cells := 0, slots := 0, locals := 0 } : Room) s m #[(.ref th), (.int x)] below meth c s₁ [] 0 0 := Stand.of_body Bd
  have e0 : s₁.heap = h0 := by rw [← hh, Bd.state]; rfl
  have N0 := Fr.nil n0
  show own_Gl FrameEnd p e below s (Q4 Z th x am ap ka kp D h0 n0) ({ frames := 0, cells := 0, slots := 0, locals := 0 } : Room).cells ({ frames := 0, cells := 0, slots := 0, locals := 0 } : Room).slots (s₁.setTop (entryFrame m #[(.ref th), (.int x)] 2))
  rw [own_ef_rm4 m th x]
  obtain ⟨Eth, F_m, F_p, F_s, A_m, A_p⟩ := IS0
  obtain ⟨g_th, g_am, g_ap, ne1, ne2, ne3⟩ := geo
  refine own_st (A' := s₁.setTop (mkF m 1 #[.val (.ref th), .val (.int x)] [(.ref th)])) (fun tg kt => ?_) ?_
  · show Steps p.tables e below (s₁.setTop (mkF m 0 #[.val (.ref th), .val (.int x)] [])) _
    refine XS.aloadN X0.here hx rfl (hb hby own_d4_0) rfl rfl ?_
    exact kt
  obtain ⟨T1, X1, e1, st1⟩ := getF X0 hx hZ hown (host := "") (Or.inl (hw _ (List.mem_of_getElem? (i := 11) rfl))) Via.refl e0 F_m (g := (mkF m 1 #[.val (.ref th), .val (.int x)] [(.ref th)])) rfl rfl (hb hby own_d4_1)
  refine own_st st1 ?_
  show own_Gl _ _ _ _ _ _ _ _ (T1.setTop (mkF m 4 #[.val (.ref th), .val (.int x)] [(.ref am)]))
  refine own_st (A' := T1.setTop (mkF m 5 #[.val (.ref th), .val (.int x)] [(.ref th), (.ref am)])) (fun tg kt => ?_) ?_
  · show Steps p.tables e below (T1.setTop (mkF m 4 #[.val (.ref th), .val (.int x)] [(.ref am)])) _
    refine XS.aloadN X1.here hx rfl (hb hby own_d4_4) rfl rfl ?_
    exact kt
  obtain ⟨T2, X2, e2, st2⟩ := getF X1 hx hZ hown (host := "") (Or.inl (hw _ (List.mem_of_getElem? (i := 24) rfl))) Via.refl e1 F_s (g := (mkF m 5 #[.val (.ref th), .val (.int x)] [(.ref th), (.ref am)])) rfl rfl (hb hby own_d4_5)
  refine own_st st2 ?_
  show own_Gl _ _ _ _ _ _ _ _ (T2.setTop (mkF m 8 #[.val (.ref th), .val (.int x)] [(.int D.2.2), (.ref am)]))
  refine own_st (A' := T2.setTop (mkF m 9 #[.val (.ref th), .val (.int x)] [(.int x), (.int D.2.2), (.ref am)])) (fun tg kt => ?_) ?_
  · show Steps p.tables e below (T2.setTop (mkF m 8 #[.val (.ref th), .val (.int x)] [(.int D.2.2), (.ref am)])) _
    refine XS.iloadN X2.here hx rfl (hb hby own_d4_8) rfl ?_
    exact kt
  obtain ⟨cl3, Ar3, hin3, hset3⟩ := own_ai_st A_m (j := D.2.2) ok.1
  obtain ⟨T4, h4, X4, e4, W4, st4⟩ := stI X2 hx hZ e2 Ar3 (j := D.2.2) hin3 (g := (mkF m 9 #[.val (.ref th), .val (.int x)] [(.int x), (.int D.2.2), (.ref am)])) rfl rfl (hb hby own_d4_9)
  have N4 := Fr.snoc X4 N0 g_am
  have K4 := ((Keep.refl h0 ([th, am, ap] : List Addr))).wr W4 (Or.inl (List.mem_of_getElem? (i := 1) rfl))
  have Z4 : n0 ≤ h4.size := Nat.le_trans Z0 (Keep.of_wr W4).1
  have V4 := hset3 _ _ W4
  refine own_st st4 ?_
  show own_Gl _ _ _ _ _ _ _ _ (T4.setTop (mkF m 10 #[.val (.ref th), .val (.int x)] []))
  refine own_st (A' := T4.setTop (mkF m 11 #[.val (.ref th), .val (.int x)] [(.ref th)])) (fun tg kt => ?_) ?_
  · show Steps p.tables e below (T4.setTop (mkF m 10 #[.val (.ref th), .val (.int x)] [])) _
    refine XS.aloadN X4.here hx rfl (hb hby own_d4_10) rfl rfl ?_
    exact kt
  obtain ⟨T5, X5, e5, st5⟩ := getF X4 hx hZ hown (host := "") (Or.inl (hw _ (List.mem_of_getElem? (i := 13) rfl))) Via.refl e4 (F_p.other W4 (Or.inl ne1)) (g := (mkF m 11 #[.val (.ref th), .val (.int x)] [(.ref th)])) rfl rfl (hb hby own_d4_11)
  refine own_st st5 ?_
  show own_Gl _ _ _ _ _ _ _ _ (T5.setTop (mkF m 14 #[.val (.ref th), .val (.int x)] [(.ref ap)]))
  refine own_st (A' := T5.setTop (mkF m 16 #[.val (.ref th), .val (.int x)] [(.ref th), (.int x), (.ref ap)])) (fun tg kt => ?_) ?_
  · show Steps p.tables e below (T5.setTop (mkF m 14 #[.val (.ref th), .val (.int x)] [(.ref ap)])) _
    refine XS.iloadN X5.here hx rfl (hb hby own_d4_14) rfl ?_
    show Steps p.tables e below (T5.setTop (mkF m 15 #[.val (.ref th), .val (.int x)] [(.int x), (.ref ap)])) _
    refine XS.aloadN X5.here hx rfl (hb hby own_d4_15) rfl rfl ?_
    exact kt
  obtain ⟨T6, X6, e6, st6⟩ := getF X5 hx hZ hown (host := "") (Or.inl (hw _ (List.mem_of_getElem? (i := 24) rfl))) Via.refl e5 (F_s.other W4 (Or.inl ne1)) (g := (mkF m 16 #[.val (.ref th), .val (.int x)] [(.ref th), (.int x), (.ref ap)])) rfl rfl (hb hby own_d4_16)
  refine own_st st6 ?_
  show own_Gl _ _ _ _ _ _ _ _ (T6.setTop (mkF m 19 #[.val (.ref th), .val (.int x)] [(.int D.2.2), (.int x), (.ref ap)]))
  obtain ⟨cl7, Ar7, hin7, hset7⟩ := own_ai_st (A_p.other W4 (Ne.symm ne3)) (j := x) ok.2
  obtain ⟨T8, h8, X8, e8, W8, st8⟩ := stI X6 hx hZ e6 Ar7 (j := x) hin7 (g := (mkF m 19 #[.val (.ref th), .val (.int x)] [(.int D.2.2), (.int x), (.ref ap)])) rfl rfl (hb hby own_d4_19)
  have N8 := Fr.snoc X8 N4 g_ap
  have K8 := (K4).wr W8 (Or.inl (List.mem_of_getElem? (i := 2) rfl))
  have Z8 : n0 ≤ h8.size := Nat.le_trans Z4 (Keep.of_wr W8).1
  have V8 := hset7 _ _ W8
  refine own_st st8 ?_
  show own_Gl _ _ _ _ _ _ _ _ (T8.setTop (mkF m 20 #[.val (.ref th), .val (.int x)] []))
  refine own_st (A' := T8.setTop (mkF m 22 #[.val (.ref th), .val (.int x)] [(.ref th), (.ref th)])) (fun tg kt => ?_) ?_
  · show Steps p.tables e below (T8.setTop (mkF m 20 #[.val (.ref th), .val (.int x)] [])) _
    refine XS.aloadN X8.here hx rfl (hb hby own_d4_20) rfl rfl ?_
    show Steps p.tables e below (T8.setTop (mkF m 21 #[.val (.ref th), .val (.int x)] [(.ref th)])) _
    refine XS.dup X8.here hx rfl (hb hby own_d4_21) rfl rfl ?_
    exact kt
  obtain ⟨T9, X9, e9, st9⟩ := getF X8 hx hZ hown (host := "") (Or.inl (hw _ (List.mem_of_getElem? (i := 24) rfl))) Via.refl e8 ((F_s.other W4 (Or.inl ne1)).other W8 (Or.inl ne2)) (g := (mkF m 22 #[.val (.ref th), .val (.int x)] [(.ref th), (.ref th)])) rfl rfl (hb hby own_d4_22)
  refine own_st st9 ?_
  show own_Gl _ _ _ _ _ _ _ _ (T9.setTop (mkF m 25 #[.val (.ref th), .val (.int x)] [(.int D.2.2), (.ref th)]))
  refine own_st (A' := T9.setTop (mkF m 27 #[.val (.ref th), .val (.int x)] [(.int (D.2.2 + (1 : Int32))), (.ref th)])) (fun tg kt => ?_) ?_
  · show Steps p.tables e below (T9.setTop (mkF m 25 #[.val (.ref th), .val (.int x)] [(.int D.2.2), (.ref th)])) _
    refine XS.iconst X9.here hx rfl (hb hby own_d4_25) ?_
    show Steps p.tables e below (T9.setTop (mkF m 26 #[.val (.ref th), .val (.int x)] [(.int (1 : Int32)), (.int D.2.2), (.ref th)])) _
    refine XS.iadd X9.here hx rfl (hb hby own_d4_26) rfl ?_
    exact kt
  obtain ⟨T10, h10, X10, e10, W10, st10⟩ := putF X9 hx hZ hown (host := "") (Or.inl (hw _ (List.mem_of_getElem? (i := 24) rfl))) Via.refl e9 ((F_s.other W4 (Or.inl ne1)).other W8 (Or.inl ne2)) ((Eth.wr W4).wr W8) (Or.inl (hw _ (List.mem_of_getElem? (i := 25) rfl))) (hw _ (List.mem_of_getElem? (i := 3) rfl)) (ty := .int) (by decide) rfl rfl (g := (mkF m 27 #[.val (.ref th), .val (.int x)] [(.int (D.2.2 + (1 : Int32))), (.ref th)])) rfl rfl (hb hby own_d4_27)
  have N10 := Fr.snoc X10 N8 g_th
  have K10 := (K8).wr W10 (Or.inl (List.mem_of_getElem? (i := 0) rfl))
  have Z10 : n0 ≤ h10.size := Nat.le_trans Z8 (Keep.of_wr W10).1
  have Fa11 := (((F_m.other W4 (Or.inl ne1)).other W8 (Or.inl ne2)).other W10 (Or.inr (slot_ne (Or.inr (hw _ (List.mem_of_getElem? (i := 12) rfl))) (Or.inl (hw _ (List.mem_of_getElem? (i := 25) rfl))) (by decide) (t := (.array .int)) (t' := .int) (by decide) (by decide))))
  have Fa12 := (((F_p.other W4 (Or.inl ne1)).other W8 (Or.inl ne2)).other W10 (Or.inr (slot_ne (Or.inr (hw _ (List.mem_of_getElem? (i := 14) rfl))) (Or.inl (hw _ (List.mem_of_getElem? (i := 25) rfl))) (by decide) (t := (.array .int)) (t' := .int) (by decide) (by decide))))
  have Fa13 := (((F_s.other W4 (Or.inl ne1)).other W8 (Or.inl ne2)).same W10)
  refine own_st st10 ?_
  show own_Gl _ _ _ _ _ _ _ _ (T10.setTop (mkF m 30 #[.val (.ref th), .val (.int x)] []))
  refine own_ret X10 (v := none) (fun _ => rfl) hlk (by decide) (by decide) ?_ (fun fs hr => ?_)
  · show Q4 Z th x am ap ka kp D h0 n0 (none) T10.heap _
    rw [e10]
    exact ⟨rfl, N10, K10, (((Eth.wr W4).wr W8).wr W10), Fa11, Fa12, Fa13, ((V4.other W8 ne3).other W10 (Ne.symm ne1)), (V8.other W10 (Ne.symm ne2))⟩
  · show Steps p.tables e below (T10.setTop (mkF m 30 #[.val (.ref th), .val (.int x)] [])) _
    exact X10.returnOut hx Bd.returns (hb hby own_d4_30) hr
theorem own_d5_0 : decode prog_16_method_6_code 0 = .ok (.aload_n 0, 1) := by decide +kernel
theorem own_d5_1 : decode prog_16_method_6_code 1 = .ok (.getfield 13, 3) := by decide +kernel
theorem own_d5_4 : decode prog_16_method_6_code 4 = .ok (.iload_n 1, 1) := by decide +kernel
theorem own_d5_5 : decode prog_16_method_6_code 5 = .ok (.iaload, 1) := by decide +kernel
theorem own_d5_6 : decode prog_16_method_6_code 6 = .ok (.istore_n 2, 1) := by decide +kernel
theorem own_d5_7 : decode prog_16_method_6_code 7 = .ok (.aload_n 0, 1) := by decide +kernel
theorem own_d5_8 : decode prog_16_method_6_code 8 = .ok (.getfield 7, 3) := by decide +kernel
theorem own_d5_11 : decode prog_16_method_6_code 11 = .ok (.aload_n 0, 1) := by decide +kernel
theorem own_d5_12 : decode prog_16_method_6_code 12 = .ok (.getfield 22, 3) := by decide +kernel
theorem own_d5_15 : decode prog_16_method_6_code 15 = .ok (.iconst 1, 1) := by decide +kernel
theorem own_d5_16 : decode prog_16_method_6_code 16 = .ok (.isub, 1) := by decide +kernel
theorem own_d5_17 : decode prog_16_method_6_code 17 = .ok (.iaload, 1) := by decide +kernel
theorem own_d5_18 : decode prog_16_method_6_code 18 = .ok (.istore_n 3, 1) := by decide +kernel
theorem own_d5_19 : decode prog_16_method_6_code 19 = .ok (.aload_n 0, 1) := by decide +kernel
theorem own_d5_20 : decode prog_16_method_6_code 20 = .ok (.getfield 7, 3) := by decide +kernel
theorem own_d5_23 : decode prog_16_method_6_code 23 = .ok (.iload_n 2, 1) := by decide +kernel
theorem own_d5_24 : decode prog_16_method_6_code 24 = .ok (.iload_n 3, 1) := by decide +kernel
theorem own_d5_25 : decode prog_16_method_6_code 25 = .ok (.iastore, 1) := by decide +kernel
theorem own_d5_26 : decode prog_16_method_6_code 26 = .ok (.aload_n 0, 1) := by decide +kernel
theorem own_d5_27 : decode prog_16_method_6_code 27 = .ok (.getfield 13, 3) := by decide +kernel
theorem own_d5_30 : decode prog_16_method_6_code 30 = .ok (.iload_n 3, 1) := by decide +kernel
theorem own_d5_31 : decode prog_16_method_6_code 31 = .ok (.iload_n 2, 1) := by decide +kernel
theorem own_d5_32 : decode prog_16_method_6_code 32 = .ok (.iastore, 1) := by decide +kernel
theorem own_d5_33 : decode prog_16_method_6_code 33 = .ok (.aload_n 0, 1) := by decide +kernel
theorem own_d5_34 : decode prog_16_method_6_code 34 = .ok (.getfield 13, 3) := by decide +kernel
theorem own_d5_37 : decode prog_16_method_6_code 37 = .ok (.iload_n 1, 1) := by decide +kernel
theorem own_d5_38 : decode prog_16_method_6_code 38 = .ok (.iconst (-1), 1) := by decide +kernel
theorem own_d5_39 : decode prog_16_method_6_code 39 = .ok (.iastore, 1) := by decide +kernel
theorem own_d5_40 : decode prog_16_method_6_code 40 = .ok (.aload_n 0, 1) := by decide +kernel
theorem own_d5_41 : decode prog_16_method_6_code 41 = .ok (.dup, 1) := by decide +kernel
theorem own_d5_42 : decode prog_16_method_6_code 42 = .ok (.getfield 22, 3) := by decide +kernel
theorem own_d5_45 : decode prog_16_method_6_code 45 = .ok (.iconst 1, 1) := by decide +kernel
theorem own_d5_46 : decode prog_16_method_6_code 46 = .ok (.isub, 1) := by decide +kernel
theorem own_d5_47 : decode prog_16_method_6_code 47 = .ok (.putfield 22, 3) := by decide +kernel
theorem own_d5_50 : decode prog_16_method_6_code 50 = .ok (.return_, 1) := by decide +kernel
theorem own_ef_rm5 (m : MethodId) (th : Addr) (x : Int32) : entryFrame m #[(.ref th), (.int x)] 4 = mkF m 0 #[.val (.ref th), .val (.int x), .unset, .unset] [] := by first | (simp [entryFrame, mkF, argsToLocals, Value.category]; done) | rfl
def Q5 (Z : State) (th : Addr) (x : Int32) (am : Addr) (ap : Addr) (ka : ClassId) (kp : ClassId) (D : own_D) (h0 : Heap) (n0 : Nat) (v : Option Value) (h : Heap) (L : List Loc) : Prop := v = none ∧ Fr n0 L ∧ Keep h0 h [th, am, ap] ∧ own_IS Z h th am ap ka kp (own_del D x)
set_option maxRecDepth 65536 in
set_option maxHeartbeats 40000000 in
theorem rm5 (l : Launch) (Z : State) (a0 : Array Value) (hw : ∀ d ∈ tables_1, d.before a0 Z = true) (ws : List Jvm.Cond) (th : Addr) (x : Int32) (am : Addr) (ap : Addr) (ka : ClassId) (kp : ClassId) (D : own_D) (h0 : Heap) (n0 : Nat) (Z0 : n0 ≤ h0.size) (IS0 : own_IS Z h0 th am ap ka kp D) (geo : own_geo n0 th am ap) (ok : own_okR D x) :
    MetFree l (⟨"com/example/slotpack/slotpack/IndexSet", "remove", "(I)V"⟩ : MethodName) (head1 (Jvm.Cond.code (⟨"com/example/slotpack/slotpack/IndexSet", "remove", "(I)V"⟩ : MethodName) prog_16_method_6_code 4 none :: ws) ({ frames := 0, cells := 0, slots := 0, locals := 0 } : Room)) (fun a U => a = #[(.ref th), (.int x)] ∧ Z.Warmed39 U.vm ∧ U.heap = h0) (fun _ _ _ _ _ => True) (fun _ U o U' => ∃ v L, o = .returned v ∧ Q5 Z th x am ap ka kp D h0 n0 v U'.heap L ∧ FrameEnd U o U' L ({ frames := 0, cells := 0, slots := 0, locals := 0 } : Room).cells ({ frames := 0, cells := 0, slots := 0, locals := 0 } : Room).slots) := by
  refine MetFree.of_bodySF (plainFor_of_name own_pn2) hisR ?_
  intro p e s m args below meth c s₁ Bd hml0 hP hK
  obtain ⟨rfl, hZ, hh⟩ := hP
  have hx := Bd.exec
  have hby := Bd.bytes
  have hml : c.maxLocals = 4 := hml0
  have hown : s.vm.findClass "com/example/slotpack/slotpack/IndexSet" = some m.cls := findClass_of_methodNamed Bd.named
  have hnm := (name_of_methodNamed Bd.named Bd.method).1
  have hlk : meth.locks = false := BodyLoose.notSynchronized Bd
  have X0 : Stand p l e ({ frames := 0, cells := 0, slots := 0, locals := 0 } : Room) s m #[(.ref th), (.int x)] below meth c s₁ [] 0 0 := Stand.of_body Bd
  have e0 : s₁.heap = h0 := by rw [← hh, Bd.state]; rfl
  have N0 := Fr.nil n0
  show own_Gl FrameEnd p e below s (Q5 Z th x am ap ka kp D h0 n0) ({ frames := 0, cells := 0, slots := 0, locals := 0 } : Room).cells ({ frames := 0, cells := 0, slots := 0, locals := 0 } : Room).slots (s₁.setTop (entryFrame m #[(.ref th), (.int x)] 4))
  rw [own_ef_rm5 m th x]
  obtain ⟨Eth, F_m, F_p, F_s, A_m, A_p⟩ := IS0
  obtain ⟨g_th, g_am, g_ap, ne1, ne2, ne3⟩ := geo
  refine own_st (A' := s₁.setTop (mkF m 1 #[.val (.ref th), .val (.int x), .unset, .unset] [(.ref th)])) (fun tg kt => ?_) ?_
  · show Steps p.tables e below (s₁.setTop (mkF m 0 #[.val (.ref th), .val (.int x), .unset, .unset] [])) _
    refine XS.aloadN X0.here hx rfl (hb hby own_d5_0) rfl rfl ?_
    exact kt
  obtain ⟨T1, X1, e1, st1⟩ := getF X0 hx hZ hown (host := "") (Or.inl (hw _ (List.mem_of_getElem? (i := 13) rfl))) Via.refl e0 F_p (g := (mkF m 1 #[.val (.ref th), .val (.int x), .unset, .unset] [(.ref th)])) rfl rfl (hb hby own_d5_1)
  refine own_st st1 ?_
  show own_Gl _ _ _ _ _ _ _ _ (T1.setTop (mkF m 4 #[.val (.ref th), .val (.int x), .unset, .unset] [(.ref ap)]))
  refine own_st (A' := T1.setTop (mkF m 5 #[.val (.ref th), .val (.int x), .unset, .unset] [(.int x), (.ref ap)])) (fun tg kt => ?_) ?_
  · show Steps p.tables e below (T1.setTop (mkF m 4 #[.val (.ref th), .val (.int x), .unset, .unset] [(.ref ap)])) _
    refine XS.iloadN X1.here hx rfl (hb hby own_d5_4) rfl ?_
    exact kt
  obtain ⟨cl2, Ar2, hin2, hat2⟩ := own_ai_ld A_p (j := x) ok.1
  refine own_st (A' := T1.setTop (mkF m 8 #[.val (.ref th), .val (.int x), .val (.int (own_at D.2.1 x)), .unset] [(.ref th)])) (fun tg kt => ?_) ?_
  · show Steps p.tables e below (T1.setTop (mkF m 5 #[.val (.ref th), .val (.int x), .unset, .unset] [(.int x), (.ref ap)])) _
    refine X1.iaload hx (j := x) (v := (.int (own_at D.2.1 x))) (own_at_heap e1 Ar2.1) (State.isArrayOf_alike hZ.alike Ar2.2.1) Ar2.2.2 hin2 hat2 (g := (mkF m 5 #[.val (.ref th), .val (.int x), .unset, .unset] [(.int x), (.ref ap)])) rfl rfl (hb hby own_d5_5) _ ?_
    show Steps p.tables e below (T1.setTop (mkF m 6 #[.val (.ref th), .val (.int x), .unset, .unset] [(.int (own_at D.2.1 x))])) _
    refine XS.istoreN X1.here hx rfl (hb hby own_d5_6) rfl (l' := #[.val (.ref th), .val (.int x), .val (.int (own_at D.2.1 x)), .unset]) rfl ?_
    show Steps p.tables e below (T1.setTop (mkF m 7 #[.val (.ref th), .val (.int x), .val (.int (own_at D.2.1 x)), .unset] [])) _
    refine XS.aloadN X1.here hx rfl (hb hby own_d5_7) rfl rfl ?_
    exact kt
  obtain ⟨T3, X3, e3, st3⟩ := getF X1 hx hZ hown (host := "") (Or.inl (hw _ (List.mem_of_getElem? (i := 11) rfl))) Via.refl e1 F_m (g := (mkF m 8 #[.val (.ref th), .val (.int x), .val (.int (own_at D.2.1 x)), .unset] [(.ref th)])) rfl rfl (hb hby own_d5_8)
  refine own_st st3 ?_
  show own_Gl _ _ _ _ _ _ _ _ (T3.setTop (mkF m 11 #[.val (.ref th), .val (.int x), .val (.int (own_at D.2.1 x)), .unset] [(.ref am)]))
  refine own_st (A' := T3.setTop (mkF m 12 #[.val (.ref th), .val (.int x), .val (.int (own_at D.2.1 x)), .unset] [(.ref th), (.ref am)])) (fun tg kt => ?_) ?_
  · show Steps p.tables e below (T3.setTop (mkF m 11 #[.val (.ref th), .val (.int x), .val (.int (own_at D.2.1 x)), .unset] [(.ref am)])) _
    refine XS.aloadN X3.here hx rfl (hb hby own_d5_11) rfl rfl ?_
    exact kt
  obtain ⟨T4, X4, e4, st4⟩ := getF X3 hx hZ hown (host := "") (Or.inl (hw _ (List.mem_of_getElem? (i := 24) rfl))) Via.refl e3 F_s (g := (mkF m 12 #[.val (.ref th), .val (.int x), .val (.int (own_at D.2.1 x)), .unset] [(.ref th), (.ref am)])) rfl rfl (hb hby own_d5_12)
  refine own_st st4 ?_
  show own_Gl _ _ _ _ _ _ _ _ (T4.setTop (mkF m 15 #[.val (.ref th), .val (.int x), .val (.int (own_at D.2.1 x)), .unset] [(.int D.2.2), (.ref am)]))
  refine own_st (A' := T4.setTop (mkF m 17 #[.val (.ref th), .val (.int x), .val (.int (own_at D.2.1 x)), .unset] [(.int (D.2.2 - (1 : Int32))), (.ref am)])) (fun tg kt => ?_) ?_
  · show Steps p.tables e below (T4.setTop (mkF m 15 #[.val (.ref th), .val (.int x), .val (.int (own_at D.2.1 x)), .unset] [(.int D.2.2), (.ref am)])) _
    refine XS.iconst X4.here hx rfl (hb hby own_d5_15) ?_
    show Steps p.tables e below (T4.setTop (mkF m 16 #[.val (.ref th), .val (.int x), .val (.int (own_at D.2.1 x)), .unset] [(.int (1 : Int32)), (.int D.2.2), (.ref am)])) _
    refine XS.isub X4.here hx rfl (hb hby own_d5_16) rfl ?_
    exact kt
  obtain ⟨cl5, Ar5, hin5, hat5⟩ := own_ai_ld A_m (j := (D.2.2 - (1 : Int32))) ok.2.1
  refine own_st (A' := T4.setTop (mkF m 20 #[.val (.ref th), .val (.int x), .val (.int (own_at D.2.1 x)), .val (.int (own_at D.1 (D.2.2 - (1 : Int32))))] [(.ref th)])) (fun tg kt => ?_) ?_
  · show Steps p.tables e below (T4.setTop (mkF m 17 #[.val (.ref th), .val (.int x), .val (.int (own_at D.2.1 x)), .unset] [(.int (D.2.2 - (1 : Int32))), (.ref am)])) _
    refine X4.iaload hx (j := (D.2.2 - (1 : Int32))) (v := (.int (own_at D.1 (D.2.2 - (1 : Int32))))) (own_at_heap e4 Ar5.1) (State.isArrayOf_alike hZ.alike Ar5.2.1) Ar5.2.2 hin5 hat5 (g := (mkF m 17 #[.val (.ref th), .val (.int x), .val (.int (own_at D.2.1 x)), .unset] [(.int (D.2.2 - (1 : Int32))), (.ref am)])) rfl rfl (hb hby own_d5_17) _ ?_
    show Steps p.tables e below (T4.setTop (mkF m 18 #[.val (.ref th), .val (.int x), .val (.int (own_at D.2.1 x)), .unset] [(.int (own_at D.1 (D.2.2 - (1 : Int32))))])) _
    refine XS.istoreN X4.here hx rfl (hb hby own_d5_18) rfl (l' := #[.val (.ref th), .val (.int x), .val (.int (own_at D.2.1 x)), .val (.int (own_at D.1 (D.2.2 - (1 : Int32))))]) rfl ?_
    show Steps p.tables e below (T4.setTop (mkF m 19 #[.val (.ref th), .val (.int x), .val (.int (own_at D.2.1 x)), .val (.int (own_at D.1 (D.2.2 - (1 : Int32))))] [])) _
    refine XS.aloadN X4.here hx rfl (hb hby own_d5_19) rfl rfl ?_
    exact kt
  obtain ⟨T6, X6, e6, st6⟩ := getF X4 hx hZ hown (host := "") (Or.inl (hw _ (List.mem_of_getElem? (i := 11) rfl))) Via.refl e4 F_m (g := (mkF m 20 #[.val (.ref th), .val (.int x), .val (.int (own_at D.2.1 x)), .val (.int (own_at D.1 (D.2.2 - (1 : Int32))))] [(.ref th)])) rfl rfl (hb hby own_d5_20)
  refine own_st st6 ?_
  show own_Gl _ _ _ _ _ _ _ _ (T6.setTop (mkF m 23 #[.val (.ref th), .val (.int x), .val (.int (own_at D.2.1 x)), .val (.int (own_at D.1 (D.2.2 - (1 : Int32))))] [(.ref am)]))
  refine own_st (A' := T6.setTop (mkF m 25 #[.val (.ref th), .val (.int x), .val (.int (own_at D.2.1 x)), .val (.int (own_at D.1 (D.2.2 - (1 : Int32))))] [(.int (own_at D.1 (D.2.2 - (1 : Int32)))), (.int (own_at D.2.1 x)), (.ref am)])) (fun tg kt => ?_) ?_
  · show Steps p.tables e below (T6.setTop (mkF m 23 #[.val (.ref th), .val (.int x), .val (.int (own_at D.2.1 x)), .val (.int (own_at D.1 (D.2.2 - (1 : Int32))))] [(.ref am)])) _
    refine XS.iloadN X6.here hx rfl (hb hby own_d5_23) rfl ?_
    show Steps p.tables e below (T6.setTop (mkF m 24 #[.val (.ref th), .val (.int x), .val (.int (own_at D.2.1 x)), .val (.int (own_at D.1 (D.2.2 - (1 : Int32))))] [(.int (own_at D.2.1 x)), (.ref am)])) _
    refine XS.iloadN X6.here hx rfl (hb hby own_d5_24) rfl ?_
    exact kt
  obtain ⟨cl7, Ar7, hin7, hset7⟩ := own_ai_st A_m (j := (own_at D.2.1 x)) ok.2.2.1
  obtain ⟨T8, h8, X8, e8, W8, st8⟩ := stI X6 hx hZ e6 Ar7 (j := (own_at D.2.1 x)) hin7 (g := (mkF m 25 #[.val (.ref th), .val (.int x), .val (.int (own_at D.2.1 x)), .val (.int (own_at D.1 (D.2.2 - (1 : Int32))))] [(.int (own_at D.1 (D.2.2 - (1 : Int32)))), (.int (own_at D.2.1 x)), (.ref am)])) rfl rfl (hb hby own_d5_25)
  have N8 := Fr.snoc X8 N0 g_am
  have K8 := ((Keep.refl h0 ([th, am, ap] : List Addr))).wr W8 (Or.inl (List.mem_of_getElem? (i := 1) rfl))
  have Z8 : n0 ≤ h8.size := Nat.le_trans Z0 (Keep.of_wr W8).1
  have V8 := hset7 _ _ W8
  refine own_st st8 ?_
  show own_Gl _ _ _ _ _ _ _ _ (T8.setTop (mkF m 26 #[.val (.ref th), .val (.int x), .val (.int (own_at D.2.1 x)), .val (.int (own_at D.1 (D.2.2 - (1 : Int32))))] []))
  refine own_st (A' := T8.setTop (mkF m 27 #[.val (.ref th), .val (.int x), .val (.int (own_at D.2.1 x)), .val (.int (own_at D.1 (D.2.2 - (1 : Int32))))] [(.ref th)])) (fun tg kt => ?_) ?_
  · show Steps p.tables e below (T8.setTop (mkF m 26 #[.val (.ref th), .val (.int x), .val (.int (own_at D.2.1 x)), .val (.int (own_at D.1 (D.2.2 - (1 : Int32))))] [])) _
    refine XS.aloadN X8.here hx rfl (hb hby own_d5_26) rfl rfl ?_
    exact kt
  obtain ⟨T9, X9, e9, st9⟩ := getF X8 hx hZ hown (host := "") (Or.inl (hw _ (List.mem_of_getElem? (i := 13) rfl))) Via.refl e8 (F_p.other W8 (Or.inl ne1)) (g := (mkF m 27 #[.val (.ref th), .val (.int x), .val (.int (own_at D.2.1 x)), .val (.int (own_at D.1 (D.2.2 - (1 : Int32))))] [(.ref th)])) rfl rfl (hb hby own_d5_27)
  refine own_st st9 ?_
  show own_Gl _ _ _ _ _ _ _ _ (T9.setTop (mkF m 30 #[.val (.ref th), .val (.int x), .val (.int (own_at D.2.1 x)), .val (.int (own_at D.1 (D.2.2 - (1 : Int32))))] [(.ref ap)]))
  refine own_st (A' := T9.setTop (mkF m 32 #[.val (.ref th), .val (.int x), .val (.int (own_at D.2.1 x)), .val (.int (own_at D.1 (D.2.2 - (1 : Int32))))] [(.int (own_at D.2.1 x)), (.int (own_at D.1 (D.2.2 - (1 : Int32)))), (.ref ap)])) (fun tg kt => ?_) ?_
  · show Steps p.tables e below (T9.setTop (mkF m 30 #[.val (.ref th), .val (.int x), .val (.int (own_at D.2.1 x)), .val (.int (own_at D.1 (D.2.2 - (1 : Int32))))] [(.ref ap)])) _
    refine XS.iloadN X9.here hx rfl (hb hby own_d5_30) rfl ?_
    show Steps p.tables e below (T9.setTop (mkF m 31 #[.val (.ref th), .val (.int x), .val (.int (own_at D.2.1 x)), .val (.int (own_at D.1 (D.2.2 - (1 : Int32))))] [(.int (own_at D.1 (D.2.2 - (1 : Int32)))), (.ref ap)])) _
    refine XS.iloadN X9.here hx rfl (hb hby own_d5_31) rfl ?_
    exact kt
  obtain ⟨cl10, Ar10, hin10, hset10⟩ := own_ai_st (A_p.other W8 (Ne.symm ne3)) (j := (own_at D.1 (D.2.2 - (1 : Int32)))) ok.2.2.2
  obtain ⟨T11, h11, X11, e11, W11, st11⟩ := stI X9 hx hZ e9 Ar10 (j := (own_at D.1 (D.2.2 - (1 : Int32)))) hin10 (g := (mkF m 32 #[.val (.ref th), .val (.int x), .val (.int (own_at D.2.1 x)), .val (.int (own_at D.1 (D.2.2 - (1 : Int32))))] [(.int (own_at D.2.1 x)), (.int (own_at D.1 (D.2.2 - (1 : Int32)))), (.ref ap)])) rfl rfl (hb hby own_d5_32)
  have N11 := Fr.snoc X11 N8 g_ap
  have K11 := (K8).wr W11 (Or.inl (List.mem_of_getElem? (i := 2) rfl))
  have Z11 : n0 ≤ h11.size := Nat.le_trans Z8 (Keep.of_wr W11).1
  have V11 := hset10 _ _ W11
  refine own_st st11 ?_
  show own_Gl _ _ _ _ _ _ _ _ (T11.setTop (mkF m 33 #[.val (.ref th), .val (.int x), .val (.int (own_at D.2.1 x)), .val (.int (own_at D.1 (D.2.2 - (1 : Int32))))] []))
  refine own_st (A' := T11.setTop (mkF m 34 #[.val (.ref th), .val (.int x), .val (.int (own_at D.2.1 x)), .val (.int (own_at D.1 (D.2.2 - (1 : Int32))))] [(.ref th)])) (fun tg kt => ?_) ?_
  · show Steps p.tables e below (T11.setTop (mkF m 33 #[.val (.ref th), .val (.int x), .val (.int (own_at D.2.1 x)), .val (.int (own_at D.1 (D.2.2 - (1 : Int32))))] [])) _
    refine XS.aloadN X11.here hx rfl (hb hby own_d5_33) rfl rfl ?_
    exact kt
  obtain ⟨T12, X12, e12, st12⟩ := getF X11 hx hZ hown (host := "") (Or.inl (hw _ (List.mem_of_getElem? (i := 13) rfl))) Via.refl e11 ((F_p.other W8 (Or.inl ne1)).other W11 (Or.inl ne2)) (g := (mkF m 34 #[.val (.ref th), .val (.int x), .val (.int (own_at D.2.1 x)), .val (.int (own_at D.1 (D.2.2 - (1 : Int32))))] [(.ref th)])) rfl rfl (hb hby own_d5_34)
  refine own_st st12 ?_
  show own_Gl _ _ _ _ _ _ _ _ (T12.setTop (mkF m 37 #[.val (.ref th), .val (.int x), .val (.int (own_at D.2.1 x)), .val (.int (own_at D.1 (D.2.2 - (1 : Int32))))] [(.ref ap)]))
  refine own_st (A' := T12.setTop (mkF m 39 #[.val (.ref th), .val (.int x), .val (.int (own_at D.2.1 x)), .val (.int (own_at D.1 (D.2.2 - (1 : Int32))))] [(.int (-1 : Int32)), (.int x), (.ref ap)])) (fun tg kt => ?_) ?_
  · show Steps p.tables e below (T12.setTop (mkF m 37 #[.val (.ref th), .val (.int x), .val (.int (own_at D.2.1 x)), .val (.int (own_at D.1 (D.2.2 - (1 : Int32))))] [(.ref ap)])) _
    refine XS.iloadN X12.here hx rfl (hb hby own_d5_37) rfl ?_
    show Steps p.tables e below (T12.setTop (mkF m 38 #[.val (.ref th), .val (.int x), .val (.int (own_at D.2.1 x)), .val (.int (own_at D.1 (D.2.2 - (1 : Int32))))] [(.int x), (.ref ap)])) _
    refine XS.iconst X12.here hx rfl (hb hby own_d5_38) ?_
    exact kt
  obtain ⟨cl13, Ar13, hin13, hset13⟩ := own_ai_st V11 (j := x) ok.1
  obtain ⟨T14, h14, X14, e14, W14, st14⟩ := stI X12 hx hZ e12 Ar13 (j := x) hin13 (g := (mkF m 39 #[.val (.ref th), .val (.int x), .val (.int (own_at D.2.1 x)), .val (.int (own_at D.1 (D.2.2 - (1 : Int32))))] [(.int (-1 : Int32)), (.int x), (.ref ap)])) rfl rfl (hb hby own_d5_39)
  have N14 := Fr.snoc X14 N11 g_ap
  have K14 := (K11).wr W14 (Or.inl (List.mem_of_getElem? (i := 2) rfl))
  have Z14 : n0 ≤ h14.size := Nat.le_trans Z11 (Keep.of_wr W14).1
  have V14 := hset13 _ _ W14
  have Fa15 := (((F_m.other W8 (Or.inl ne1)).other W11 (Or.inl ne2)).other W14 (Or.inl ne2))
  have Fa16 := (((F_p.other W8 (Or.inl ne1)).other W11 (Or.inl ne2)).other W14 (Or.inl ne2))
  have Fa17 := (((F_s.other W8 (Or.inl ne1)).other W11 (Or.inl ne2)).other W14 (Or.inl ne2))
  refine own_st st14 ?_
  show own_Gl _ _ _ _ _ _ _ _ (T14.setTop (mkF m 40 #[.val (.ref th), .val (.int x), .val (.int (own_at D.2.1 x)), .val (.int (own_at D.1 (D.2.2 - (1 : Int32))))] []))
  refine own_st (A' := T14.setTop (mkF m 42 #[.val (.ref th), .val (.int x), .val (.int (own_at D.2.1 x)), .val (.int (own_at D.1 (D.2.2 - (1 : Int32))))] [(.ref th), (.ref th)])) (fun tg kt => ?_) ?_
  · show Steps p.tables e below (T14.setTop (mkF m 40 #[.val (.ref th), .val (.int x), .val (.int (own_at D.2.1 x)), .val (.int (own_at D.1 (D.2.2 - (1 : Int32))))] [])) _
    refine XS.aloadN X14.here hx rfl (hb hby own_d5_40) rfl rfl ?_
    show Steps p.tables e below (T14.setTop (mkF m 41 #[.val (.ref th), .val (.int x), .val (.int (own_at D.2.1 x)), .val (.int (own_at D.1 (D.2.2 - (1 : Int32))))] [(.ref th)])) _
    refine XS.dup X14.here hx rfl (hb hby own_d5_41) rfl rfl ?_
    exact kt
  obtain ⟨T18, X18, e18, st18⟩ := getF X14 hx hZ hown (host := "") (Or.inl (hw _ (List.mem_of_getElem? (i := 24) rfl))) Via.refl e14 Fa17 (g := (mkF m 42 #[.val (.ref th), .val (.int x), .val (.int (own_at D.2.1 x)), .val (.int (own_at D.1 (D.2.2 - (1 : Int32))))] [(.ref th), (.ref th)])) rfl rfl (hb hby own_d5_42)
  refine own_st st18 ?_
  show own_Gl _ _ _ _ _ _ _ _ (T18.setTop (mkF m 45 #[.val (.ref th), .val (.int x), .val (.int (own_at D.2.1 x)), .val (.int (own_at D.1 (D.2.2 - (1 : Int32))))] [(.int D.2.2), (.ref th)]))
  refine own_st (A' := T18.setTop (mkF m 47 #[.val (.ref th), .val (.int x), .val (.int (own_at D.2.1 x)), .val (.int (own_at D.1 (D.2.2 - (1 : Int32))))] [(.int (D.2.2 - (1 : Int32))), (.ref th)])) (fun tg kt => ?_) ?_
  · show Steps p.tables e below (T18.setTop (mkF m 45 #[.val (.ref th), .val (.int x), .val (.int (own_at D.2.1 x)), .val (.int (own_at D.1 (D.2.2 - (1 : Int32))))] [(.int D.2.2), (.ref th)])) _
    refine XS.iconst X18.here hx rfl (hb hby own_d5_45) ?_
    show Steps p.tables e below (T18.setTop (mkF m 46 #[.val (.ref th), .val (.int x), .val (.int (own_at D.2.1 x)), .val (.int (own_at D.1 (D.2.2 - (1 : Int32))))] [(.int (1 : Int32)), (.int D.2.2), (.ref th)])) _
    refine XS.isub X18.here hx rfl (hb hby own_d5_46) rfl ?_
    exact kt
  obtain ⟨T19, h19, X19, e19, W19, st19⟩ := putF X18 hx hZ hown (host := "") (Or.inl (hw _ (List.mem_of_getElem? (i := 24) rfl))) Via.refl e18 Fa17 (((Eth.wr W8).wr W11).wr W14) (Or.inl (hw _ (List.mem_of_getElem? (i := 25) rfl))) (hw _ (List.mem_of_getElem? (i := 3) rfl)) (ty := .int) (by decide) rfl rfl (g := (mkF m 47 #[.val (.ref th), .val (.int x), .val (.int (own_at D.2.1 x)), .val (.int (own_at D.1 (D.2.2 - (1 : Int32))))] [(.int (D.2.2 - (1 : Int32))), (.ref th)])) rfl rfl (hb hby own_d5_47)
  have N19 := Fr.snoc X19 N14 g_th
  have K19 := (K14).wr W19 (Or.inl (List.mem_of_getElem? (i := 0) rfl))
  have Z19 : n0 ≤ h19.size := Nat.le_trans Z14 (Keep.of_wr W19).1
  have Fa20 := (Fa15.other W19 (Or.inr (slot_ne (Or.inr (hw _ (List.mem_of_getElem? (i := 12) rfl))) (Or.inl (hw _ (List.mem_of_getElem? (i := 25) rfl))) (by decide) (t := (.array .int)) (t' := .int) (by decide) (by decide))))
  have Fa21 := (Fa16.other W19 (Or.inr (slot_ne (Or.inr (hw _ (List.mem_of_getElem? (i := 14) rfl))) (Or.inl (hw _ (List.mem_of_getElem? (i := 25) rfl))) (by decide) (t := (.array .int)) (t' := .int) (by decide) (by decide))))
  refine own_st st19 ?_
  show own_Gl _ _ _ _ _ _ _ _ (T19.setTop (mkF m 50 #[.val (.ref th), .val (.int x), .val (.int (own_at D.2.1 x)), .val (.int (own_at D.1 (D.2.2 - (1 : Int32))))] []))
  refine own_ret X19 (v := none) (fun _ => rfl) hlk (by decide) (by decide) ?_ (fun fs hr => ?_)
  · show Q5 Z th x am ap ka kp D h0 n0 (none) T19.heap _
    rw [e19]
    exact ⟨rfl, N19, K19, ((((Eth.wr W8).wr W11).wr W14).wr W19), Fa20, Fa21, (Fa17.same W19), (((V8.other W11 ne3).other W14 ne3).other W19 (Ne.symm ne1)), (V14.other W19 (Ne.symm ne2))⟩
  · show Steps p.tables e below (T19.setTop (mkF m 50 #[.val (.ref th), .val (.int x), .val (.int (own_at D.2.1 x)), .val (.int (own_at D.1 (D.2.2 - (1 : Int32))))] [])) _
    exact X19.returnOut hx Bd.returns (hb hby own_d5_50) hr
theorem own_d7_0 : decode prog_16_method_2_code 0 = .ok (.aload_n 0, 1) := by decide +kernel
theorem own_d7_1 : decode prog_16_method_2_code 1 = .ok (.getfield 22, 3) := by decide +kernel
theorem own_d7_4 : decode prog_16_method_2_code 4 = .ok (.ireturn, 1) := by decide +kernel
theorem own_ef_rm7 (m : MethodId) (th : Addr) : entryFrame m #[(.ref th)] 1 = mkF m 0 #[.val (.ref th)] [] := by first | (simp [entryFrame, mkF, argsToLocals, Value.category]; done) | rfl
def Q7 (Z : State) (th : Addr) (am : Addr) (ap : Addr) (ka : ClassId) (kp : ClassId) (D : own_D) (h0 : Heap) (n0 : Nat) (v : Option Value) (h : Heap) (L : List Loc) : Prop := v = some (.int D.2.2) ∧ Fr n0 L ∧ h = h0
set_option maxRecDepth 65536 in
set_option maxHeartbeats 40000000 in
theorem rm7 (l : Launch) (Z : State) (a0 : Array Value) (hw : ∀ d ∈ tables_1, d.before a0 Z = true) (ws : List Jvm.Cond) (th : Addr) (am : Addr) (ap : Addr) (ka : ClassId) (kp : ClassId) (D : own_D) (h0 : Heap) (n0 : Nat) (Z0 : n0 ≤ h0.size) (IS0 : own_IS Z h0 th am ap ka kp D) (geo : own_geo n0 th am ap) :
    MetFree l (⟨"com/example/slotpack/slotpack/IndexSet", "size", "()I"⟩ : MethodName) (head1 (Jvm.Cond.code (⟨"com/example/slotpack/slotpack/IndexSet", "size", "()I"⟩ : MethodName) prog_16_method_2_code 1 (some .int) :: ws) ({ frames := 0, cells := 0, slots := 0, locals := 0 } : Room)) (fun a U => a = #[(.ref th)] ∧ Z.Warmed39 U.vm ∧ U.heap = h0) (fun _ _ _ _ _ => True) (fun _ U o U' => ∃ v L, o = .returned v ∧ Q7 Z th am ap ka kp D h0 n0 v U'.heap L ∧ FrameEnd U o U' L ({ frames := 0, cells := 0, slots := 0, locals := 0 } : Room).cells ({ frames := 0, cells := 0, slots := 0, locals := 0 } : Room).slots) := by
  refine MetFree.of_bodySF (plainFor_of_name own_pn2) hisR ?_
  intro p e s m args below meth c s₁ Bd hml0 hP hK
  obtain ⟨rfl, hZ, hh⟩ := hP
  have hx := Bd.exec
  have hby := Bd.bytes
  have hml : c.maxLocals = 1 := hml0
  have hown : s.vm.findClass "com/example/slotpack/slotpack/IndexSet" = some m.cls := findClass_of_methodNamed Bd.named
  have hnm := (name_of_methodNamed Bd.named Bd.method).1
  have hlk : meth.locks = false := BodyLoose.notSynchronized Bd
  have X0 : Stand p l e ({ frames := 0, cells := 0, slots := 0, locals := 0 } : Room) s m #[(.ref th)] below meth c s₁ [] 0 0 := Stand.of_body Bd
  have e0 : s₁.heap = h0 := by rw [← hh, Bd.state]; rfl
  have N0 := Fr.nil n0
  show own_Gl FrameEnd p e below s (Q7 Z th am ap ka kp D h0 n0) ({ frames := 0, cells := 0, slots := 0, locals := 0 } : Room).cells ({ frames := 0, cells := 0, slots := 0, locals := 0 } : Room).slots (s₁.setTop (entryFrame m #[(.ref th)] 1))
  rw [own_ef_rm7 m th]
  obtain ⟨Eth, F_m, F_p, F_s, A_m, A_p⟩ := IS0
  obtain ⟨g_th, g_am, g_ap, ne1, ne2, ne3⟩ := geo
  refine own_st (A' := s₁.setTop (mkF m 1 #[.val (.ref th)] [(.ref th)])) (fun tg kt => ?_) ?_
  · show Steps p.tables e below (s₁.setTop (mkF m 0 #[.val (.ref th)] [])) _
    refine XS.aloadN X0.here hx rfl (hb hby own_d7_0) rfl rfl ?_
    exact kt
  obtain ⟨T1, X1, e1, st1⟩ := getF X0 hx hZ hown (host := "") (Or.inl (hw _ (List.mem_of_getElem? (i := 24) rfl))) Via.refl e0 F_s (g := (mkF m 1 #[.val (.ref th)] [(.ref th)])) rfl rfl (hb hby own_d7_1)
  refine own_st st1 ?_
  show own_Gl _ _ _ _ _ _ _ _ (T1.setTop (mkF m 4 #[.val (.ref th)] [(.int D.2.2)]))
  refine own_ret X1 (v := some (.int D.2.2)) (fun h => by rw [Bd.returns] at h; cases h) hlk (by decide) (by decide) ?_ (fun fs hr => ?_)
  · show Q7 Z th am ap ka kp D h0 n0 (some (.int D.2.2)) T1.heap _
    rw [e1]
    exact ⟨rfl, N0, rfl⟩
  · show Steps p.tables e below (T1.setTop (mkF m 4 #[.val (.ref th)] [(.int D.2.2)])) _
    exact retI X1 hx Bd.returns (hb hby own_d7_4) hr
theorem own_d8_0 : decode prog_16_method_4_code 0 = .ok (.aload_n 0, 1) := by decide +kernel
theorem own_d8_1 : decode prog_16_method_4_code 1 = .ok (.getfield 13, 3) := by decide +kernel
theorem own_d8_4 : decode prog_16_method_4_code 4 = .ok (.iload_n 1, 1) := by decide +kernel
theorem own_d8_5 : decode prog_16_method_4_code 5 = .ok (.iaload, 1) := by decide +kernel
theorem own_d8_6 : decode prog_16_method_4_code 6 = .ok (.ifCond .lt 7, 3) := by decide +kernel
theorem own_d8_9 : decode prog_16_method_4_code 9 = .ok (.iconst 1, 1) := by decide +kernel
theorem own_d8_10 : decode prog_16_method_4_code 10 = .ok (.goto 4, 3) := by decide +kernel
theorem own_d8_13 : decode prog_16_method_4_code 13 = .ok (.iconst 0, 1) := by decide +kernel
theorem own_d8_14 : decode prog_16_method_4_code 14 = .ok (.ireturn, 1) := by decide +kernel
theorem own_ef_rm8 (m : MethodId) (th : Addr) (x : Int32) : entryFrame m #[(.ref th), (.int x)] 2 = mkF m 0 #[.val (.ref th), .val (.int x)] [] := by first | (simp [entryFrame, mkF, argsToLocals, Value.category]; done) | rfl
def Q8 (Z : State) (th : Addr) (x : Int32) (am : Addr) (ap : Addr) (ka : ClassId) (kp : ClassId) (D : own_D) (h0 : Heap) (n0 : Nat) (v : Option Value) (h : Heap) (L : List Loc) : Prop := v = some (.int (own_con D.2.1 x)) ∧ Fr n0 L ∧ h = h0
set_option maxRecDepth 65536 in
set_option maxHeartbeats 40000000 in
theorem rm8 (l : Launch) (Z : State) (a0 : Array Value) (hw : ∀ d ∈ tables_1, d.before a0 Z = true) (ws : List Jvm.Cond) (th : Addr) (x : Int32) (am : Addr) (ap : Addr) (ka : ClassId) (kp : ClassId) (D : own_D) (h0 : Heap) (n0 : Nat) (Z0 : n0 ≤ h0.size) (IS0 : own_IS Z h0 th am ap ka kp D) (geo : own_geo n0 th am ap) (ok : own_in x) :
    MetFree l (⟨"com/example/slotpack/slotpack/IndexSet", "contains", "(I)Z"⟩ : MethodName) (head1 (Jvm.Cond.code (⟨"com/example/slotpack/slotpack/IndexSet", "contains", "(I)Z"⟩ : MethodName) prog_16_method_4_code 2 (some .boolean) :: ws) ({ frames := 0, cells := 0, slots := 0, locals := 0 } : Room)) (fun a U => a = #[(.ref th), (.int x)] ∧ Z.Warmed39 U.vm ∧ U.heap = h0) (fun _ _ _ _ _ => True) (fun _ U o U' => ∃ v L, o = .returned v ∧ Q8 Z th x am ap ka kp D h0 n0 v U'.heap L ∧ FrameEnd U o U' L ({ frames := 0, cells := 0, slots := 0, locals := 0 } : Room).cells ({ frames := 0, cells := 0, slots := 0, locals := 0 } : Room).slots) := by
  refine MetFree.of_bodySF (plainFor_of_name own_pn2) hisR ?_
  intro p e s m args below meth c s₁ Bd hml0 hP hK
  obtain ⟨rfl, hZ, hh⟩ := hP
  have hx := Bd.exec
  have hby := Bd.bytes
  have hml : c.maxLocals = 2 := hml0
  have hown : s.vm.findClass "com/example/slotpack/slotpack/IndexSet" = some m.cls := findClass_of_methodNamed Bd.named
  have hnm := (name_of_methodNamed Bd.named Bd.method).1
  have hlk : meth.locks = false := BodyLoose.notSynchronized Bd
  have X0 : Stand p l e ({ frames := 0, cells := 0, slots := 0, locals := 0 } : Room) s m #[(.ref th), (.int x)] below meth c s₁ [] 0 0 := Stand.of_body Bd
  have e0 : s₁.heap = h0 := by rw [← hh, Bd.state]; rfl
  have N0 := Fr.nil n0
  show own_Gl FrameEnd p e below s (Q8 Z th x am ap ka kp D h0 n0) ({ frames := 0, cells := 0, slots := 0, locals := 0 } : Room).cells ({ frames := 0, cells := 0, slots := 0, locals := 0 } : Room).slots (s₁.setTop (entryFrame m #[(.ref th), (.int x)] 2))
  rw [own_ef_rm8 m th x]
  obtain ⟨Eth, F_m, F_p, F_s, A_m, A_p⟩ := IS0
  obtain ⟨g_th, g_am, g_ap, ne1, ne2, ne3⟩ := geo
  refine own_st (A' := s₁.setTop (mkF m 1 #[.val (.ref th), .val (.int x)] [(.ref th)])) (fun tg kt => ?_) ?_
  · show Steps p.tables e below (s₁.setTop (mkF m 0 #[.val (.ref th), .val (.int x)] [])) _
    refine XS.aloadN X0.here hx rfl (hb hby own_d8_0) rfl rfl ?_
    exact kt
  obtain ⟨T1, X1, e1, st1⟩ := getF X0 hx hZ hown (host := "") (Or.inl (hw _ (List.mem_of_getElem? (i := 13) rfl))) Via.refl e0 F_p (g := (mkF m 1 #[.val (.ref th), .val (.int x)] [(.ref th)])) rfl rfl (hb hby own_d8_1)
  refine own_st st1 ?_
  show own_Gl _ _ _ _ _ _ _ _ (T1.setTop (mkF m 4 #[.val (.ref th), .val (.int x)] [(.ref ap)]))
  refine own_st (A' := T1.setTop (mkF m 5 #[.val (.ref th), .val (.int x)] [(.int x), (.ref ap)])) (fun tg kt => ?_) ?_
  · show Steps p.tables e below (T1.setTop (mkF m 4 #[.val (.ref th), .val (.int x)] [(.ref ap)])) _
    refine XS.iloadN X1.here hx rfl (hb hby own_d8_4) rfl ?_
    exact kt
  obtain ⟨cl2, Ar2, hin2, hat2⟩ := own_ai_ld A_p (j := x) ok
  refine own_st (A' := T1.setTop (mkF m 6 #[.val (.ref th), .val (.int x)] [(.int (own_at D.2.1 x))])) (fun tg kt => ?_) ?_
  · show Steps p.tables e below (T1.setTop (mkF m 5 #[.val (.ref th), .val (.int x)] [(.int x), (.ref ap)])) _
    refine X1.iaload hx (j := x) (v := (.int (own_at D.2.1 x))) (own_at_heap e1 Ar2.1) (State.isArrayOf_alike hZ.alike Ar2.2.1) Ar2.2.2 hin2 hat2 (g := (mkF m 5 #[.val (.ref th), .val (.int x)] [(.int x), (.ref ap)])) rfl rfl (hb hby own_d8_5) _ ?_
    exact kt
  by_cases hc6_3 : (own_at D.2.1 x) < (0 : Int32)
  · refine own_st (A' := T1.setTop (mkF m 14 #[.val (.ref th), .val (.int x)] [(.int (0 : Int32))])) (fun tg kt => ?_) ?_
    · show Steps p.tables e below (T1.setTop (mkF m 6 #[.val (.ref th), .val (.int x)] [(.int (own_at D.2.1 x))])) _
      refine XS.ifYes X1.here hx rfl (pc0 := 6) (pc' := 13) rfl (hb hby own_d8_6) rfl ((if0 _ _).trans (tlt hc6_3).1) (by decide) (by decide) ?_
      show Steps p.tables e below (T1.setTop (mkF m 13 #[.val (.ref th), .val (.int x)] [])) _
      refine XS.iconst X1.here hx rfl (hb hby own_d8_13) ?_
      exact kt
    refine own_ret X1 (v := some (.int (0 : Int32))) (fun h => by rw [Bd.returns] at h; cases h) hlk (by decide) (by decide) ?_ (fun fs hr => ?_)
    · show Q8 Z th x am ap ka kp D h0 n0 (some (.int (0 : Int32))) T1.heap _
      rw [e1]
      exact ⟨congrArg (fun z => some (Value.int z)) (by unfold own_con; rw [if_pos hc6_3]), N0, rfl⟩
    · show Steps p.tables e below (T1.setTop (mkF m 14 #[.val (.ref th), .val (.int x)] [(.int (0 : Int32))])) _
      exact retN X1 hx (t := .boolean) Bd.returns (by simp) (hb hby own_d8_14) hr
  · refine own_st (A' := T1.setTop (mkF m 14 #[.val (.ref th), .val (.int x)] [(.int (1 : Int32))])) (fun tg kt => ?_) ?_
    · show Steps p.tables e below (T1.setTop (mkF m 6 #[.val (.ref th), .val (.int x)] [(.int (own_at D.2.1 x))])) _
      refine XS.ifNo X1.here hx rfl (hb hby own_d8_6) rfl ((if0 _ _).trans (flt hc6_3).1) ?_
      show Steps p.tables e below (T1.setTop (mkF m 9 #[.val (.ref th), .val (.int x)] [])) _
      refine XS.iconst X1.here hx rfl (hb hby own_d8_9) ?_
      show Steps p.tables e below (T1.setTop (mkF m 10 #[.val (.ref th), .val (.int x)] [(.int (1 : Int32))])) _
      refine XS.goto X1.here hx rfl (pc0 := 10) (pc' := 14) rfl (hb hby own_d8_10) (by decide) (by decide) ?_
      exact kt
    refine own_ret X1 (v := some (.int (1 : Int32))) (fun h => by rw [Bd.returns] at h; cases h) hlk (by decide) (by decide) ?_ (fun fs hr => ?_)
    · show Q8 Z th x am ap ka kp D h0 n0 (some (.int (1 : Int32))) T1.heap _
      rw [e1]
      exact ⟨congrArg (fun z => some (Value.int z)) (by unfold own_con; rw [if_neg hc6_3]), N0, rfl⟩
    · show Steps p.tables e below (T1.setTop (mkF m 14 #[.val (.ref th), .val (.int x)] [(.int (1 : Int32))])) _
      exact retN X1 hx (t := .boolean) Bd.returns (by simp) (hb hby own_d8_14) hr
theorem own_d10_0 : decode prog_16_method_3_code 0 = .ok (.aload_n 0, 1) := by decide +kernel
theorem own_d10_1 : decode prog_16_method_3_code 1 = .ok (.getfield 7, 3) := by decide +kernel
theorem own_d10_4 : decode prog_16_method_3_code 4 = .ok (.iload_n 1, 1) := by decide +kernel
theorem own_d10_5 : decode prog_16_method_3_code 5 = .ok (.iaload, 1) := by decide +kernel
theorem own_d10_6 : decode prog_16_method_3_code 6 = .ok (.ireturn, 1) := by decide +kernel
theorem own_ef_rm10 (m : MethodId) (th : Addr) (x : Int32) : entryFrame m #[(.ref th), (.int x)] 2 = mkF m 0 #[.val (.ref th), .val (.int x)] [] := by first | (simp [entryFrame, mkF, argsToLocals, Value.category]; done) | rfl
def Q10 (Z : State) (th : Addr) (x : Int32) (am : Addr) (ap : Addr) (ka : ClassId) (kp : ClassId) (D : own_D) (h0 : Heap) (n0 : Nat) (v : Option Value) (h : Heap) (L : List Loc) : Prop := v = some (.int (own_at D.1 x)) ∧ Fr n0 L ∧ h = h0
set_option maxRecDepth 65536 in
set_option maxHeartbeats 40000000 in
theorem rm10 (l : Launch) (Z : State) (a0 : Array Value) (hw : ∀ d ∈ tables_1, d.before a0 Z = true) (ws : List Jvm.Cond) (th : Addr) (x : Int32) (am : Addr) (ap : Addr) (ka : ClassId) (kp : ClassId) (D : own_D) (h0 : Heap) (n0 : Nat) (Z0 : n0 ≤ h0.size) (IS0 : own_IS Z h0 th am ap ka kp D) (geo : own_geo n0 th am ap) (ok : own_in x) :
    MetFree l (⟨"com/example/slotpack/slotpack/IndexSet", "get", "(I)I"⟩ : MethodName) (head1 (Jvm.Cond.code (⟨"com/example/slotpack/slotpack/IndexSet", "get", "(I)I"⟩ : MethodName) prog_16_method_3_code 2 (some .int) :: ws) ({ frames := 0, cells := 0, slots := 0, locals := 0 } : Room)) (fun a U => a = #[(.ref th), (.int x)] ∧ Z.Warmed39 U.vm ∧ U.heap = h0) (fun _ _ _ _ _ => True) (fun _ U o U' => ∃ v L, o = .returned v ∧ Q10 Z th x am ap ka kp D h0 n0 v U'.heap L ∧ FrameEnd U o U' L ({ frames := 0, cells := 0, slots := 0, locals := 0 } : Room).cells ({ frames := 0, cells := 0, slots := 0, locals := 0 } : Room).slots) := by
  refine MetFree.of_bodySF (plainFor_of_name own_pn2) hisR ?_
  intro p e s m args below meth c s₁ Bd hml0 hP hK
  obtain ⟨rfl, hZ, hh⟩ := hP
  have hx := Bd.exec
  have hby := Bd.bytes
  have hml : c.maxLocals = 2 := hml0
  have hown : s.vm.findClass "com/example/slotpack/slotpack/IndexSet" = some m.cls := findClass_of_methodNamed Bd.named
  have hnm := (name_of_methodNamed Bd.named Bd.method).1
  have hlk : meth.locks = false := BodyLoose.notSynchronized Bd
  have X0 : Stand p l e ({ frames := 0, cells := 0, slots := 0, locals := 0 } : Room) s m #[(.ref th), (.int x)] below meth c s₁ [] 0 0 := Stand.of_body Bd
  have e0 : s₁.heap = h0 := by rw [← hh, Bd.state]; rfl
  have N0 := Fr.nil n0
  show own_Gl FrameEnd p e below s (Q10 Z th x am ap ka kp D h0 n0) ({ frames := 0, cells := 0, slots := 0, locals := 0 } : Room).cells ({ frames := 0, cells := 0, slots := 0, locals := 0 } : Room).slots (s₁.setTop (entryFrame m #[(.ref th), (.int x)] 2))
  rw [own_ef_rm10 m th x]
  obtain ⟨Eth, F_m, F_p, F_s, A_m, A_p⟩ := IS0
  obtain ⟨g_th, g_am, g_ap, ne1, ne2, ne3⟩ := geo
  refine own_st (A' := s₁.setTop (mkF m 1 #[.val (.ref th), .val (.int x)] [(.ref th)])) (fun tg kt => ?_) ?_
  · show Steps p.tables e below (s₁.setTop (mkF m 0 #[.val (.ref th), .val (.int x)] [])) _
    refine XS.aloadN X0.here hx rfl (hb hby own_d10_0) rfl rfl ?_
    exact kt
  obtain ⟨T1, X1, e1, st1⟩ := getF X0 hx hZ hown (host := "") (Or.inl (hw _ (List.mem_of_getElem? (i := 11) rfl))) Via.refl e0 F_m (g := (mkF m 1 #[.val (.ref th), .val (.int x)] [(.ref th)])) rfl rfl (hb hby own_d10_1)
  refine own_st st1 ?_
  show own_Gl _ _ _ _ _ _ _ _ (T1.setTop (mkF m 4 #[.val (.ref th), .val (.int x)] [(.ref am)]))
  refine own_st (A' := T1.setTop (mkF m 5 #[.val (.ref th), .val (.int x)] [(.int x), (.ref am)])) (fun tg kt => ?_) ?_
  · show Steps p.tables e below (T1.setTop (mkF m 4 #[.val (.ref th), .val (.int x)] [(.ref am)])) _
    refine XS.iloadN X1.here hx rfl (hb hby own_d10_4) rfl ?_
    exact kt
  obtain ⟨cl2, Ar2, hin2, hat2⟩ := own_ai_ld A_m (j := x) ok
  refine own_st (A' := T1.setTop (mkF m 6 #[.val (.ref th), .val (.int x)] [(.int (own_at D.1 x))])) (fun tg kt => ?_) ?_
  · show Steps p.tables e below (T1.setTop (mkF m 5 #[.val (.ref th), .val (.int x)] [(.int x), (.ref am)])) _
    refine X1.iaload hx (j := x) (v := (.int (own_at D.1 x))) (own_at_heap e1 Ar2.1) (State.isArrayOf_alike hZ.alike Ar2.2.1) Ar2.2.2 hin2 hat2 (g := (mkF m 5 #[.val (.ref th), .val (.int x)] [(.int x), (.ref am)])) rfl rfl (hb hby own_d10_5) _ ?_
    exact kt
  refine own_ret X1 (v := some (.int (own_at D.1 x))) (fun h => by rw [Bd.returns] at h; cases h) hlk (by decide) (by decide) ?_ (fun fs hr => ?_)
  · show Q10 Z th x am ap ka kp D h0 n0 (some (.int (own_at D.1 x))) T1.heap _
    rw [e1]
    exact ⟨rfl, N0, rfl⟩
  · show Steps p.tables e below (T1.setTop (mkF m 6 #[.val (.ref th), .val (.int x)] [(.int (own_at D.1 x))])) _
    exact retI X1 hx Bd.returns (hb hby own_d10_6) hr
theorem own_d6_0 : decode method_2_code 0 = .ok (.aload_n 0, 1) := by decide +kernel
theorem own_d6_1 : decode method_2_code 1 = .ok (.iload_n 2, 1) := by decide +kernel
theorem own_d6_2 : decode method_2_code 2 = .ok (.aload_n 0, 1) := by decide +kernel
theorem own_d6_3 : decode method_2_code 3 = .ok (.iload_n 1, 1) := by decide +kernel
theorem own_d6_4 : decode method_2_code 4 = .ok (.iconst 1, 1) := by decide +kernel
theorem own_d6_5 : decode method_2_code 5 = .ok (.isub, 1) := by decide +kernel
theorem own_d6_6 : decode method_2_code 6 = .ok (.iaload, 1) := by decide +kernel
theorem own_d6_7 : decode method_2_code 7 = .ok (.iastore, 1) := by decide +kernel
theorem own_d6_8 : decode method_2_code 8 = .ok (.iload_n 1, 1) := by decide +kernel
theorem own_d6_9 : decode method_2_code 9 = .ok (.iconst 1, 1) := by decide +kernel
theorem own_d6_10 : decode method_2_code 10 = .ok (.isub, 1) := by decide +kernel
theorem own_d6_11 : decode method_2_code 11 = .ok (.ireturn, 1) := by decide +kernel
theorem own_ef_rm6 (m : MethodId) (ar : Addr) (sz : Int32) (r : Int32) : entryFrame m #[(.ref ar), (.int sz), (.int r)] 3 = mkF m 0 #[.val (.ref ar), .val (.int sz), .val (.int r)] [] := by first | (simp [entryFrame, mkF, argsToLocals, Value.category]; done) | rfl
theorem own_pn3 : plainName "com/example/slotpack/slotpack/IndexSetRemovePinLaw" = true := by first | (simp [plainName, overriddenIn]; done) | decide +kernel
def Q6 (Z : State) (ar : Addr) (sz : Int32) (r : Int32) (k : ClassId) (xs : List Int32) (h0 : Heap) (n0 : Nat) (v : Option Value) (h : Heap) (L : List Loc) : Prop := v = some (.int (sz - 1)) ∧ Fr n0 L ∧ Keep h0 h [ar] ∧ own_ai Z h ar k (own_rat xs sz r)
set_option maxRecDepth 65536 in
set_option maxHeartbeats 40000000 in
theorem rm6 (l : Launch) (Z : State) (a0 : Array Value) (hw : ∀ d ∈ tables_1, d.before a0 Z = true) (ws : List Jvm.Cond) (ar : Addr) (sz : Int32) (r : Int32) (k : ClassId) (xs : List Int32) (h0 : Heap) (n0 : Nat) (Z0 : n0 ≤ h0.size) (Va : own_ai Z h0 ar k xs) (gar : n0 ≤ ar) (b1 : own_in (sz - (1 : Int32))) (b2 : own_in r) :
    MetFree l (⟨"com/example/slotpack/slotpack/IndexSetRemovePinLaw", "removeAt", "([III)I"⟩ : MethodName) (head1 (Jvm.Cond.code (⟨"com/example/slotpack/slotpack/IndexSetRemovePinLaw", "removeAt", "([III)I"⟩ : MethodName) method_2_code 3 (some .int) :: ws) ({ frames := 0, cells := 0, slots := 0, locals := 0 } : Room)) (fun a U => a = #[(.ref ar), (.int sz), (.int r)] ∧ Z.Warmed39 U.vm ∧ U.heap = h0) (fun _ _ _ _ _ => True) (fun _ U o U' => ∃ v L, o = .returned v ∧ Q6 Z ar sz r k xs h0 n0 v U'.heap L ∧ FrameEnd U o U' L ({ frames := 0, cells := 0, slots := 0, locals := 0 } : Room).cells ({ frames := 0, cells := 0, slots := 0, locals := 0 } : Room).slots) := by
  refine MetFree.of_bodySF (plainFor_of_name own_pn3) hisR ?_
  intro p e s m args below meth c s₁ Bd hml0 hP hK
  obtain ⟨rfl, hZ, hh⟩ := hP
  have hx := Bd.exec
  have hby := Bd.bytes
  have hml : c.maxLocals = 3 := hml0
  have hown : s.vm.findClass "com/example/slotpack/slotpack/IndexSetRemovePinLaw" = some m.cls := findClass_of_methodNamed Bd.named
  have hnm := (name_of_methodNamed Bd.named Bd.method).1
  have hlk : meth.locks = false := BodyLoose.notSynchronized Bd
  have X0 : Stand p l e ({ frames := 0, cells := 0, slots := 0, locals := 0 } : Room) s m #[(.ref ar), (.int sz), (.int r)] below meth c s₁ [] 0 0 := Stand.of_body Bd
  have e0 : s₁.heap = h0 := by rw [← hh, Bd.state]; rfl
  have N0 := Fr.nil n0
  show own_Gl FrameEnd p e below s (Q6 Z ar sz r k xs h0 n0) ({ frames := 0, cells := 0, slots := 0, locals := 0 } : Room).cells ({ frames := 0, cells := 0, slots := 0, locals := 0 } : Room).slots (s₁.setTop (entryFrame m #[(.ref ar), (.int sz), (.int r)] 3))
  rw [own_ef_rm6 m ar sz r]
  refine own_st (A' := s₁.setTop (mkF m 6 #[.val (.ref ar), .val (.int sz), .val (.int r)] [(.int (sz - (1 : Int32))), (.ref ar), (.int r), (.ref ar)])) (fun tg kt => ?_) ?_
  · show Steps p.tables e below (s₁.setTop (mkF m 0 #[.val (.ref ar), .val (.int sz), .val (.int r)] [])) _
    refine XS.aloadN X0.here hx rfl (hb hby own_d6_0) rfl rfl ?_
    show Steps p.tables e below (s₁.setTop (mkF m 1 #[.val (.ref ar), .val (.int sz), .val (.int r)] [(.ref ar)])) _
    refine XS.iloadN X0.here hx rfl (hb hby own_d6_1) rfl ?_
    show Steps p.tables e below (s₁.setTop (mkF m 2 #[.val (.ref ar), .val (.int sz), .val (.int r)] [(.int r), (.ref ar)])) _
    refine XS.aloadN X0.here hx rfl (hb hby own_d6_2) rfl rfl ?_
    show Steps p.tables e below (s₁.setTop (mkF m 3 #[.val (.ref ar), .val (.int sz), .val (.int r)] [(.ref ar), (.int r), (.ref ar)])) _
    refine XS.iloadN X0.here hx rfl (hb hby own_d6_3) rfl ?_
    show Steps p.tables e below (s₁.setTop (mkF m 4 #[.val (.ref ar), .val (.int sz), .val (.int r)] [(.int sz), (.ref ar), (.int r), (.ref ar)])) _
    refine XS.iconst X0.here hx rfl (hb hby own_d6_4) ?_
    show Steps p.tables e below (s₁.setTop (mkF m 5 #[.val (.ref ar), .val (.int sz), .val (.int r)] [(.int (1 : Int32)), (.int sz), (.ref ar), (.int r), (.ref ar)])) _
    refine XS.isub X0.here hx rfl (hb hby own_d6_5) rfl ?_
    exact kt
  obtain ⟨cl1, Ar1, hin1, hat1⟩ := own_ai_ld Va (j := (sz - (1 : Int32))) b1
  refine own_st (A' := s₁.setTop (mkF m 7 #[.val (.ref ar), .val (.int sz), .val (.int r)] [(.int (own_at xs (sz - (1 : Int32)))), (.int r), (.ref ar)])) (fun tg kt => ?_) ?_
  · show Steps p.tables e below (s₁.setTop (mkF m 6 #[.val (.ref ar), .val (.int sz), .val (.int r)] [(.int (sz - (1 : Int32))), (.ref ar), (.int r), (.ref ar)])) _
    refine X0.iaload hx (j := (sz - (1 : Int32))) (v := (.int (own_at xs (sz - (1 : Int32))))) (own_at_heap e0 Ar1.1) (State.isArrayOf_alike hZ.alike Ar1.2.1) Ar1.2.2 hin1 hat1 (g := (mkF m 6 #[.val (.ref ar), .val (.int sz), .val (.int r)] [(.int (sz - (1 : Int32))), (.ref ar), (.int r), (.ref ar)])) rfl rfl (hb hby own_d6_6) _ ?_
    exact kt
  obtain ⟨cl2, Ar2, hin2, hset2⟩ := own_ai_st Va (j := r) b2
  obtain ⟨T3, h3, X3, e3, W3, st3⟩ := stI X0 hx hZ e0 Ar2 (j := r) hin2 (g := (mkF m 7 #[.val (.ref ar), .val (.int sz), .val (.int r)] [(.int (own_at xs (sz - (1 : Int32)))), (.int r), (.ref ar)])) rfl rfl (hb hby own_d6_7)
  have N3 := Fr.snoc X3 N0 gar
  have K3 := ((Keep.refl h0 ([ar] : List Addr))).wr W3 (Or.inl (List.mem_of_getElem? (i := 0) rfl))
  have Z3 : n0 ≤ h3.size := Nat.le_trans Z0 (Keep.of_wr W3).1
  have V3 := hset2 _ _ W3
  refine own_st st3 ?_
  show own_Gl _ _ _ _ _ _ _ _ (T3.setTop (mkF m 8 #[.val (.ref ar), .val (.int sz), .val (.int r)] []))
  refine own_st (A' := T3.setTop (mkF m 11 #[.val (.ref ar), .val (.int sz), .val (.int r)] [(.int (sz - (1 : Int32)))])) (fun tg kt => ?_) ?_
  · show Steps p.tables e below (T3.setTop (mkF m 8 #[.val (.ref ar), .val (.int sz), .val (.int r)] [])) _
    refine XS.iloadN X3.here hx rfl (hb hby own_d6_8) rfl ?_
    show Steps p.tables e below (T3.setTop (mkF m 9 #[.val (.ref ar), .val (.int sz), .val (.int r)] [(.int sz)])) _
    refine XS.iconst X3.here hx rfl (hb hby own_d6_9) ?_
    show Steps p.tables e below (T3.setTop (mkF m 10 #[.val (.ref ar), .val (.int sz), .val (.int r)] [(.int (1 : Int32)), (.int sz)])) _
    refine XS.isub X3.here hx rfl (hb hby own_d6_10) rfl ?_
    exact kt
  refine own_ret X3 (v := some (.int (sz - (1 : Int32)))) (fun h => by rw [Bd.returns] at h; cases h) hlk (by decide) (by decide) ?_ (fun fs hr => ?_)
  · show Q6 Z ar sz r k xs h0 n0 (some (.int (sz - (1 : Int32)))) T3.heap _
    rw [e3]
    exact ⟨rfl, N3, K3, V3⟩
  · show Steps p.tables e below (T3.setTop (mkF m 11 #[.val (.ref ar), .val (.int sz), .val (.int r)] [(.int (sz - (1 : Int32)))])) _
    exact retI X3 hx Bd.returns (hb hby own_d6_11) hr
theorem own_d9_0 : decode method_3_code 0 = .ok (.iload_n 1, 1) := by decide +kernel
theorem own_d9_1 : decode method_3_code 1 = .ok (.ifCond .le 10, 3) := by decide +kernel
theorem own_d9_4 : decode method_3_code 4 = .ok (.aload_n 0, 1) := by decide +kernel
theorem own_d9_5 : decode method_3_code 5 = .ok (.iconst 0, 1) := by decide +kernel
theorem own_d9_6 : decode method_3_code 6 = .ok (.iaload, 1) := by decide +kernel
theorem own_d9_7 : decode method_3_code 7 = .ok (.iload_n 2, 1) := by decide +kernel
theorem own_d9_8 : decode method_3_code 8 = .ok (.if_icmp .eq 27, 3) := by decide +kernel
theorem own_d9_11 : decode method_3_code 11 = .ok (.iload_n 1, 1) := by decide +kernel
theorem own_d9_12 : decode method_3_code 12 = .ok (.iconst 1, 1) := by decide +kernel
theorem own_d9_13 : decode method_3_code 13 = .ok (.if_icmp .le 10, 3) := by decide +kernel
theorem own_d9_16 : decode method_3_code 16 = .ok (.aload_n 0, 1) := by decide +kernel
theorem own_d9_17 : decode method_3_code 17 = .ok (.iconst 1, 1) := by decide +kernel
theorem own_d9_18 : decode method_3_code 18 = .ok (.iaload, 1) := by decide +kernel
theorem own_d9_19 : decode method_3_code 19 = .ok (.iload_n 2, 1) := by decide +kernel
theorem own_d9_20 : decode method_3_code 20 = .ok (.if_icmp .eq 15, 3) := by decide +kernel
theorem own_d9_23 : decode method_3_code 23 = .ok (.iload_n 1, 1) := by decide +kernel
theorem own_d9_24 : decode method_3_code 24 = .ok (.iconst 2, 1) := by decide +kernel
theorem own_d9_25 : decode method_3_code 25 = .ok (.if_icmp .le 14, 3) := by decide +kernel
theorem own_d9_28 : decode method_3_code 28 = .ok (.aload_n 0, 1) := by decide +kernel
theorem own_d9_29 : decode method_3_code 29 = .ok (.iconst 2, 1) := by decide +kernel
theorem own_d9_30 : decode method_3_code 30 = .ok (.iaload, 1) := by decide +kernel
theorem own_d9_31 : decode method_3_code 31 = .ok (.iload_n 2, 1) := by decide +kernel
theorem own_d9_32 : decode method_3_code 32 = .ok (.if_icmp .ne 7, 3) := by decide +kernel
theorem own_d9_35 : decode method_3_code 35 = .ok (.iconst 1, 1) := by decide +kernel
theorem own_d9_36 : decode method_3_code 36 = .ok (.goto 4, 3) := by decide +kernel
theorem own_d9_39 : decode method_3_code 39 = .ok (.iconst 0, 1) := by decide +kernel
theorem own_d9_40 : decode method_3_code 40 = .ok (.ireturn, 1) := by decide +kernel
theorem own_ef_rm9 (m : MethodId) (ar : Addr) (sz : Int32) (x : Int32) : entryFrame m #[(.ref ar), (.int sz), (.int x)] 3 = mkF m 0 #[.val (.ref ar), .val (.int sz), .val (.int x)] [] := by first | (simp [entryFrame, mkF, argsToLocals, Value.category]; done) | rfl
def Q9 (Z : State) (ar : Addr) (sz : Int32) (x : Int32) (k : ClassId) (xs : List Int32) (h0 : Heap) (n0 : Nat) (v : Option Value) (h : Heap) (L : List Loc) : Prop := v = some (.int (own_ins xs sz x)) ∧ Fr n0 L ∧ h = h0
set_option maxRecDepth 65536 in
set_option maxHeartbeats 40000000 in
theorem rm9 (l : Launch) (Z : State) (a0 : Array Value) (hw : ∀ d ∈ tables_1, d.before a0 Z = true) (ws : List Jvm.Cond) (ar : Addr) (sz : Int32) (x : Int32) (k : ClassId) (xs : List Int32) (h0 : Heap) (n0 : Nat) (Z0 : n0 ≤ h0.size) (Va : own_ai Z h0 ar k xs) (gar : n0 ≤ ar) :
    MetFree l (⟨"com/example/slotpack/slotpack/IndexSetRemovePinLaw", "inSet", "([III)Z"⟩ : MethodName) (head1 (Jvm.Cond.code (⟨"com/example/slotpack/slotpack/IndexSetRemovePinLaw", "inSet", "([III)Z"⟩ : MethodName) method_3_code 3 (some .boolean) :: ws) ({ frames := 0, cells := 0, slots := 0, locals := 0 } : Room)) (fun a U => a = #[(.ref ar), (.int sz), (.int x)] ∧ Z.Warmed39 U.vm ∧ U.heap = h0) (fun _ _ _ _ _ => True) (fun _ U o U' => ∃ v L, o = .returned v ∧ Q9 Z ar sz x k xs h0 n0 v U'.heap L ∧ FrameEnd U o U' L ({ frames := 0, cells := 0, slots := 0, locals := 0 } : Room).cells ({ frames := 0, cells := 0, slots := 0, locals := 0 } : Room).slots) := by
  refine MetFree.of_bodySF (plainFor_of_name own_pn3) hisR ?_
  intro p e s m args below meth c s₁ Bd hml0 hP hK
  obtain ⟨rfl, hZ, hh⟩ := hP
  have hx := Bd.exec
  have hby := Bd.bytes
  have hml : c.maxLocals = 3 := hml0
  have hown : s.vm.findClass "com/example/slotpack/slotpack/IndexSetRemovePinLaw" = some m.cls := findClass_of_methodNamed Bd.named
  have hnm := (name_of_methodNamed Bd.named Bd.method).1
  have hlk : meth.locks = false := BodyLoose.notSynchronized Bd
  have X0 : Stand p l e ({ frames := 0, cells := 0, slots := 0, locals := 0 } : Room) s m #[(.ref ar), (.int sz), (.int x)] below meth c s₁ [] 0 0 := Stand.of_body Bd
  have e0 : s₁.heap = h0 := by rw [← hh, Bd.state]; rfl
  have N0 := Fr.nil n0
  show own_Gl FrameEnd p e below s (Q9 Z ar sz x k xs h0 n0) ({ frames := 0, cells := 0, slots := 0, locals := 0 } : Room).cells ({ frames := 0, cells := 0, slots := 0, locals := 0 } : Room).slots (s₁.setTop (entryFrame m #[(.ref ar), (.int sz), (.int x)] 3))
  rw [own_ef_rm9 m ar sz x]
  refine own_st (A' := s₁.setTop (mkF m 1 #[.val (.ref ar), .val (.int sz), .val (.int x)] [(.int sz)])) (fun tg kt => ?_) ?_
  · show Steps p.tables e below (s₁.setTop (mkF m 0 #[.val (.ref ar), .val (.int sz), .val (.int x)] [])) _
    refine XS.iloadN X0.here hx rfl (hb hby own_d9_0) rfl ?_
    exact kt
  by_cases hc1_1 : (0 : Int32) < sz
  · refine own_st (A' := s₁.setTop (mkF m 6 #[.val (.ref ar), .val (.int sz), .val (.int x)] [(.int (0 : Int32)), (.ref ar)])) (fun tg kt => ?_) ?_
    · show Steps p.tables e below (s₁.setTop (mkF m 1 #[.val (.ref ar), .val (.int sz), .val (.int x)] [(.int sz)])) _
      refine XS.ifNo X0.here hx rfl (hb hby own_d9_1) rfl ((if0 _ _).trans (tlt hc1_1).2.2.2) ?_
      show Steps p.tables e below (s₁.setTop (mkF m 4 #[.val (.ref ar), .val (.int sz), .val (.int x)] [])) _
      refine XS.aloadN X0.here hx rfl (hb hby own_d9_4) rfl rfl ?_
      show Steps p.tables e below (s₁.setTop (mkF m 5 #[.val (.ref ar), .val (.int sz), .val (.int x)] [(.ref ar)])) _
      refine XS.iconst X0.here hx rfl (hb hby own_d9_5) ?_
      exact kt
    obtain ⟨cl2, Ar2, hin2, hat2⟩ := own_ai_ld Va (j := (0 : Int32)) (by decide)
    refine own_st (A' := s₁.setTop (mkF m 8 #[.val (.ref ar), .val (.int sz), .val (.int x)] [(.int x), (.int (own_at xs (0 : Int32)))])) (fun tg kt => ?_) ?_
    · show Steps p.tables e below (s₁.setTop (mkF m 6 #[.val (.ref ar), .val (.int sz), .val (.int x)] [(.int (0 : Int32)), (.ref ar)])) _
      refine X0.iaload hx (j := (0 : Int32)) (v := (.int (own_at xs (0 : Int32)))) (own_at_heap e0 Ar2.1) (State.isArrayOf_alike hZ.alike Ar2.2.1) Ar2.2.2 hin2 hat2 (g := (mkF m 6 #[.val (.ref ar), .val (.int sz), .val (.int x)] [(.int (0 : Int32)), (.ref ar)])) rfl rfl (hb hby own_d9_6) _ ?_
      show Steps p.tables e below (s₁.setTop (mkF m 7 #[.val (.ref ar), .val (.int sz), .val (.int x)] [(.int (own_at xs (0 : Int32)))])) _
      refine XS.iloadN X0.here hx rfl (hb hby own_d9_7) rfl ?_
      exact kt
    by_cases hc8_3 : (own_at xs (0 : Int32)) = x
    · refine own_st (A' := s₁.setTop (mkF m 40 #[.val (.ref ar), .val (.int sz), .val (.int x)] [(.int (1 : Int32))])) (fun tg kt => ?_) ?_
      · show Steps p.tables e below (s₁.setTop (mkF m 8 #[.val (.ref ar), .val (.int sz), .val (.int x)] [(.int x), (.int (own_at xs (0 : Int32)))])) _
        refine XS.icmpYes X0.here hx rfl (pc0 := 8) (pc' := 35) rfl (hb hby own_d9_8) rfl (teq hc8_3).1 (by decide) (by decide) ?_
        show Steps p.tables e below (s₁.setTop (mkF m 35 #[.val (.ref ar), .val (.int sz), .val (.int x)] [])) _
        refine XS.iconst X0.here hx rfl (hb hby own_d9_35) ?_
        show Steps p.tables e below (s₁.setTop (mkF m 36 #[.val (.ref ar), .val (.int sz), .val (.int x)] [(.int (1 : Int32))])) _
        refine XS.goto X0.here hx rfl (pc0 := 36) (pc' := 40) rfl (hb hby own_d9_36) (by decide) (by decide) ?_
        exact kt
      refine own_ret X0 (v := some (.int (1 : Int32))) (fun h => by rw [Bd.returns] at h; cases h) hlk (by decide) (by decide) ?_ (fun fs hr => ?_)
      · show Q9 Z ar sz x k xs h0 n0 (some (.int (1 : Int32))) s₁.heap _
        rw [e0]
        exact ⟨congrArg (fun z => some (Value.int z)) (by unfold own_ins; rw [if_pos hc1_1, if_pos hc8_3]), N0, rfl⟩
      · show Steps p.tables e below (s₁.setTop (mkF m 40 #[.val (.ref ar), .val (.int sz), .val (.int x)] [(.int (1 : Int32))])) _
        exact retN X0 hx (t := .boolean) Bd.returns (by simp) (hb hby own_d9_40) hr
    · refine own_st (A' := s₁.setTop (mkF m 13 #[.val (.ref ar), .val (.int sz), .val (.int x)] [(.int (1 : Int32)), (.int sz)])) (fun tg kt => ?_) ?_
      · show Steps p.tables e below (s₁.setTop (mkF m 8 #[.val (.ref ar), .val (.int sz), .val (.int x)] [(.int x), (.int (own_at xs (0 : Int32)))])) _
        refine XS.icmpNo X0.here hx rfl (hb hby own_d9_8) rfl (feq hc8_3).1 ?_
        show Steps p.tables e below (s₁.setTop (mkF m 11 #[.val (.ref ar), .val (.int sz), .val (.int x)] [])) _
        refine XS.iloadN X0.here hx rfl (hb hby own_d9_11) rfl ?_
        show Steps p.tables e below (s₁.setTop (mkF m 12 #[.val (.ref ar), .val (.int sz), .val (.int x)] [(.int sz)])) _
        refine XS.iconst X0.here hx rfl (hb hby own_d9_12) ?_
        exact kt
      by_cases hc13_4 : (1 : Int32) < sz
      · refine own_st (A' := s₁.setTop (mkF m 18 #[.val (.ref ar), .val (.int sz), .val (.int x)] [(.int (1 : Int32)), (.ref ar)])) (fun tg kt => ?_) ?_
        · show Steps p.tables e below (s₁.setTop (mkF m 13 #[.val (.ref ar), .val (.int sz), .val (.int x)] [(.int (1 : Int32)), (.int sz)])) _
          refine XS.icmpNo X0.here hx rfl (hb hby own_d9_13) rfl (tlt hc13_4).2.2.2 ?_
          show Steps p.tables e below (s₁.setTop (mkF m 16 #[.val (.ref ar), .val (.int sz), .val (.int x)] [])) _
          refine XS.aloadN X0.here hx rfl (hb hby own_d9_16) rfl rfl ?_
          show Steps p.tables e below (s₁.setTop (mkF m 17 #[.val (.ref ar), .val (.int sz), .val (.int x)] [(.ref ar)])) _
          refine XS.iconst X0.here hx rfl (hb hby own_d9_17) ?_
          exact kt
        obtain ⟨cl5, Ar5, hin5, hat5⟩ := own_ai_ld Va (j := (1 : Int32)) (by decide)
        refine own_st (A' := s₁.setTop (mkF m 20 #[.val (.ref ar), .val (.int sz), .val (.int x)] [(.int x), (.int (own_at xs (1 : Int32)))])) (fun tg kt => ?_) ?_
        · show Steps p.tables e below (s₁.setTop (mkF m 18 #[.val (.ref ar), .val (.int sz), .val (.int x)] [(.int (1 : Int32)), (.ref ar)])) _
          refine X0.iaload hx (j := (1 : Int32)) (v := (.int (own_at xs (1 : Int32)))) (own_at_heap e0 Ar5.1) (State.isArrayOf_alike hZ.alike Ar5.2.1) Ar5.2.2 hin5 hat5 (g := (mkF m 18 #[.val (.ref ar), .val (.int sz), .val (.int x)] [(.int (1 : Int32)), (.ref ar)])) rfl rfl (hb hby own_d9_18) _ ?_
          show Steps p.tables e below (s₁.setTop (mkF m 19 #[.val (.ref ar), .val (.int sz), .val (.int x)] [(.int (own_at xs (1 : Int32)))])) _
          refine XS.iloadN X0.here hx rfl (hb hby own_d9_19) rfl ?_
          exact kt
        by_cases hc20_6 : (own_at xs (1 : Int32)) = x
        · refine own_st (A' := s₁.setTop (mkF m 40 #[.val (.ref ar), .val (.int sz), .val (.int x)] [(.int (1 : Int32))])) (fun tg kt => ?_) ?_
          · show Steps p.tables e below (s₁.setTop (mkF m 20 #[.val (.ref ar), .val (.int sz), .val (.int x)] [(.int x), (.int (own_at xs (1 : Int32)))])) _
            refine XS.icmpYes X0.here hx rfl (pc0 := 20) (pc' := 35) rfl (hb hby own_d9_20) rfl (teq hc20_6).1 (by decide) (by decide) ?_
            show Steps p.tables e below (s₁.setTop (mkF m 35 #[.val (.ref ar), .val (.int sz), .val (.int x)] [])) _
            refine XS.iconst X0.here hx rfl (hb hby own_d9_35) ?_
            show Steps p.tables e below (s₁.setTop (mkF m 36 #[.val (.ref ar), .val (.int sz), .val (.int x)] [(.int (1 : Int32))])) _
            refine XS.goto X0.here hx rfl (pc0 := 36) (pc' := 40) rfl (hb hby own_d9_36) (by decide) (by decide) ?_
            exact kt
          refine own_ret X0 (v := some (.int (1 : Int32))) (fun h => by rw [Bd.returns] at h; cases h) hlk (by decide) (by decide) ?_ (fun fs hr => ?_)
          · show Q9 Z ar sz x k xs h0 n0 (some (.int (1 : Int32))) s₁.heap _
            rw [e0]
            exact ⟨congrArg (fun z => some (Value.int z)) (by unfold own_ins; rw [if_pos hc1_1, if_neg hc8_3, if_pos hc13_4, if_pos hc20_6]), N0, rfl⟩
          · show Steps p.tables e below (s₁.setTop (mkF m 40 #[.val (.ref ar), .val (.int sz), .val (.int x)] [(.int (1 : Int32))])) _
            exact retN X0 hx (t := .boolean) Bd.returns (by simp) (hb hby own_d9_40) hr
        · refine own_st (A' := s₁.setTop (mkF m 25 #[.val (.ref ar), .val (.int sz), .val (.int x)] [(.int (2 : Int32)), (.int sz)])) (fun tg kt => ?_) ?_
          · show Steps p.tables e below (s₁.setTop (mkF m 20 #[.val (.ref ar), .val (.int sz), .val (.int x)] [(.int x), (.int (own_at xs (1 : Int32)))])) _
            refine XS.icmpNo X0.here hx rfl (hb hby own_d9_20) rfl (feq hc20_6).1 ?_
            show Steps p.tables e below (s₁.setTop (mkF m 23 #[.val (.ref ar), .val (.int sz), .val (.int x)] [])) _
            refine XS.iloadN X0.here hx rfl (hb hby own_d9_23) rfl ?_
            show Steps p.tables e below (s₁.setTop (mkF m 24 #[.val (.ref ar), .val (.int sz), .val (.int x)] [(.int sz)])) _
            refine XS.iconst X0.here hx rfl (hb hby own_d9_24) ?_
            exact kt
          by_cases hc25_7 : (2 : Int32) < sz
          · refine own_st (A' := s₁.setTop (mkF m 30 #[.val (.ref ar), .val (.int sz), .val (.int x)] [(.int (2 : Int32)), (.ref ar)])) (fun tg kt => ?_) ?_
            · show Steps p.tables e below (s₁.setTop (mkF m 25 #[.val (.ref ar), .val (.int sz), .val (.int x)] [(.int (2 : Int32)), (.int sz)])) _
              refine XS.icmpNo X0.here hx rfl (hb hby own_d9_25) rfl (tlt hc25_7).2.2.2 ?_
              show Steps p.tables e below (s₁.setTop (mkF m 28 #[.val (.ref ar), .val (.int sz), .val (.int x)] [])) _
              refine XS.aloadN X0.here hx rfl (hb hby own_d9_28) rfl rfl ?_
              show Steps p.tables e below (s₁.setTop (mkF m 29 #[.val (.ref ar), .val (.int sz), .val (.int x)] [(.ref ar)])) _
              refine XS.iconst X0.here hx rfl (hb hby own_d9_29) ?_
              exact kt
            obtain ⟨cl8, Ar8, hin8, hat8⟩ := own_ai_ld Va (j := (2 : Int32)) (by decide)
            refine own_st (A' := s₁.setTop (mkF m 32 #[.val (.ref ar), .val (.int sz), .val (.int x)] [(.int x), (.int (own_at xs (2 : Int32)))])) (fun tg kt => ?_) ?_
            · show Steps p.tables e below (s₁.setTop (mkF m 30 #[.val (.ref ar), .val (.int sz), .val (.int x)] [(.int (2 : Int32)), (.ref ar)])) _
              refine X0.iaload hx (j := (2 : Int32)) (v := (.int (own_at xs (2 : Int32)))) (own_at_heap e0 Ar8.1) (State.isArrayOf_alike hZ.alike Ar8.2.1) Ar8.2.2 hin8 hat8 (g := (mkF m 30 #[.val (.ref ar), .val (.int sz), .val (.int x)] [(.int (2 : Int32)), (.ref ar)])) rfl rfl (hb hby own_d9_30) _ ?_
              show Steps p.tables e below (s₁.setTop (mkF m 31 #[.val (.ref ar), .val (.int sz), .val (.int x)] [(.int (own_at xs (2 : Int32)))])) _
              refine XS.iloadN X0.here hx rfl (hb hby own_d9_31) rfl ?_
              exact kt
            by_cases hc32_9 : (own_at xs (2 : Int32)) = x
            · refine own_st (A' := s₁.setTop (mkF m 40 #[.val (.ref ar), .val (.int sz), .val (.int x)] [(.int (1 : Int32))])) (fun tg kt => ?_) ?_
              · show Steps p.tables e below (s₁.setTop (mkF m 32 #[.val (.ref ar), .val (.int sz), .val (.int x)] [(.int x), (.int (own_at xs (2 : Int32)))])) _
                refine XS.icmpNo X0.here hx rfl (hb hby own_d9_32) rfl (teq hc32_9).2 ?_
                show Steps p.tables e below (s₁.setTop (mkF m 35 #[.val (.ref ar), .val (.int sz), .val (.int x)] [])) _
                refine XS.iconst X0.here hx rfl (hb hby own_d9_35) ?_
                show Steps p.tables e below (s₁.setTop (mkF m 36 #[.val (.ref ar), .val (.int sz), .val (.int x)] [(.int (1 : Int32))])) _
                refine XS.goto X0.here hx rfl (pc0 := 36) (pc' := 40) rfl (hb hby own_d9_36) (by decide) (by decide) ?_
                exact kt
              refine own_ret X0 (v := some (.int (1 : Int32))) (fun h => by rw [Bd.returns] at h; cases h) hlk (by decide) (by decide) ?_ (fun fs hr => ?_)
              · show Q9 Z ar sz x k xs h0 n0 (some (.int (1 : Int32))) s₁.heap _
                rw [e0]
                exact ⟨congrArg (fun z => some (Value.int z)) (by unfold own_ins; rw [if_pos hc1_1, if_neg hc8_3, if_pos hc13_4, if_neg hc20_6, if_pos hc25_7, if_pos hc32_9]), N0, rfl⟩
              · show Steps p.tables e below (s₁.setTop (mkF m 40 #[.val (.ref ar), .val (.int sz), .val (.int x)] [(.int (1 : Int32))])) _
                exact retN X0 hx (t := .boolean) Bd.returns (by simp) (hb hby own_d9_40) hr
            · refine own_st (A' := s₁.setTop (mkF m 40 #[.val (.ref ar), .val (.int sz), .val (.int x)] [(.int (0 : Int32))])) (fun tg kt => ?_) ?_
              · show Steps p.tables e below (s₁.setTop (mkF m 32 #[.val (.ref ar), .val (.int sz), .val (.int x)] [(.int x), (.int (own_at xs (2 : Int32)))])) _
                refine XS.icmpYes X0.here hx rfl (pc0 := 32) (pc' := 39) rfl (hb hby own_d9_32) rfl (feq hc32_9).2 (by decide) (by decide) ?_
                show Steps p.tables e below (s₁.setTop (mkF m 39 #[.val (.ref ar), .val (.int sz), .val (.int x)] [])) _
                refine XS.iconst X0.here hx rfl (hb hby own_d9_39) ?_
                exact kt
              refine own_ret X0 (v := some (.int (0 : Int32))) (fun h => by rw [Bd.returns] at h; cases h) hlk (by decide) (by decide) ?_ (fun fs hr => ?_)
              · show Q9 Z ar sz x k xs h0 n0 (some (.int (0 : Int32))) s₁.heap _
                rw [e0]
                exact ⟨congrArg (fun z => some (Value.int z)) (by unfold own_ins; rw [if_pos hc1_1, if_neg hc8_3, if_pos hc13_4, if_neg hc20_6, if_pos hc25_7, if_neg hc32_9]), N0, rfl⟩
              · show Steps p.tables e below (s₁.setTop (mkF m 40 #[.val (.ref ar), .val (.int sz), .val (.int x)] [(.int (0 : Int32))])) _
                exact retN X0 hx (t := .boolean) Bd.returns (by simp) (hb hby own_d9_40) hr
          · refine own_st (A' := s₁.setTop (mkF m 40 #[.val (.ref ar), .val (.int sz), .val (.int x)] [(.int (0 : Int32))])) (fun tg kt => ?_) ?_
            · show Steps p.tables e below (s₁.setTop (mkF m 25 #[.val (.ref ar), .val (.int sz), .val (.int x)] [(.int (2 : Int32)), (.int sz)])) _
              refine XS.icmpYes X0.here hx rfl (pc0 := 25) (pc' := 39) rfl (hb hby own_d9_25) rfl (flt hc25_7).2.2.2 (by decide) (by decide) ?_
              show Steps p.tables e below (s₁.setTop (mkF m 39 #[.val (.ref ar), .val (.int sz), .val (.int x)] [])) _
              refine XS.iconst X0.here hx rfl (hb hby own_d9_39) ?_
              exact kt
            refine own_ret X0 (v := some (.int (0 : Int32))) (fun h => by rw [Bd.returns] at h; cases h) hlk (by decide) (by decide) ?_ (fun fs hr => ?_)
            · show Q9 Z ar sz x k xs h0 n0 (some (.int (0 : Int32))) s₁.heap _
              rw [e0]
              exact ⟨congrArg (fun z => some (Value.int z)) (by unfold own_ins; rw [if_pos hc1_1, if_neg hc8_3, if_pos hc13_4, if_neg hc20_6, if_neg hc25_7]), N0, rfl⟩
            · show Steps p.tables e below (s₁.setTop (mkF m 40 #[.val (.ref ar), .val (.int sz), .val (.int x)] [(.int (0 : Int32))])) _
              exact retN X0 hx (t := .boolean) Bd.returns (by simp) (hb hby own_d9_40) hr
      · refine own_st (A' := s₁.setTop (mkF m 25 #[.val (.ref ar), .val (.int sz), .val (.int x)] [(.int (2 : Int32)), (.int sz)])) (fun tg kt => ?_) ?_
        · show Steps p.tables e below (s₁.setTop (mkF m 13 #[.val (.ref ar), .val (.int sz), .val (.int x)] [(.int (1 : Int32)), (.int sz)])) _
          refine XS.icmpYes X0.here hx rfl (pc0 := 13) (pc' := 23) rfl (hb hby own_d9_13) rfl (flt hc13_4).2.2.2 (by decide) (by decide) ?_
          show Steps p.tables e below (s₁.setTop (mkF m 23 #[.val (.ref ar), .val (.int sz), .val (.int x)] [])) _
          refine XS.iloadN X0.here hx rfl (hb hby own_d9_23) rfl ?_
          show Steps p.tables e below (s₁.setTop (mkF m 24 #[.val (.ref ar), .val (.int sz), .val (.int x)] [(.int sz)])) _
          refine XS.iconst X0.here hx rfl (hb hby own_d9_24) ?_
          exact kt
        by_cases hc25_10 : (2 : Int32) < sz
        · refine own_st (A' := s₁.setTop (mkF m 30 #[.val (.ref ar), .val (.int sz), .val (.int x)] [(.int (2 : Int32)), (.ref ar)])) (fun tg kt => ?_) ?_
          · show Steps p.tables e below (s₁.setTop (mkF m 25 #[.val (.ref ar), .val (.int sz), .val (.int x)] [(.int (2 : Int32)), (.int sz)])) _
            refine XS.icmpNo X0.here hx rfl (hb hby own_d9_25) rfl (tlt hc25_10).2.2.2 ?_
            show Steps p.tables e below (s₁.setTop (mkF m 28 #[.val (.ref ar), .val (.int sz), .val (.int x)] [])) _
            refine XS.aloadN X0.here hx rfl (hb hby own_d9_28) rfl rfl ?_
            show Steps p.tables e below (s₁.setTop (mkF m 29 #[.val (.ref ar), .val (.int sz), .val (.int x)] [(.ref ar)])) _
            refine XS.iconst X0.here hx rfl (hb hby own_d9_29) ?_
            exact kt
          obtain ⟨cl11, Ar11, hin11, hat11⟩ := own_ai_ld Va (j := (2 : Int32)) (by decide)
          refine own_st (A' := s₁.setTop (mkF m 32 #[.val (.ref ar), .val (.int sz), .val (.int x)] [(.int x), (.int (own_at xs (2 : Int32)))])) (fun tg kt => ?_) ?_
          · show Steps p.tables e below (s₁.setTop (mkF m 30 #[.val (.ref ar), .val (.int sz), .val (.int x)] [(.int (2 : Int32)), (.ref ar)])) _
            refine X0.iaload hx (j := (2 : Int32)) (v := (.int (own_at xs (2 : Int32)))) (own_at_heap e0 Ar11.1) (State.isArrayOf_alike hZ.alike Ar11.2.1) Ar11.2.2 hin11 hat11 (g := (mkF m 30 #[.val (.ref ar), .val (.int sz), .val (.int x)] [(.int (2 : Int32)), (.ref ar)])) rfl rfl (hb hby own_d9_30) _ ?_
            show Steps p.tables e below (s₁.setTop (mkF m 31 #[.val (.ref ar), .val (.int sz), .val (.int x)] [(.int (own_at xs (2 : Int32)))])) _
            refine XS.iloadN X0.here hx rfl (hb hby own_d9_31) rfl ?_
            exact kt
          by_cases hc32_12 : (own_at xs (2 : Int32)) = x
          · refine own_st (A' := s₁.setTop (mkF m 40 #[.val (.ref ar), .val (.int sz), .val (.int x)] [(.int (1 : Int32))])) (fun tg kt => ?_) ?_
            · show Steps p.tables e below (s₁.setTop (mkF m 32 #[.val (.ref ar), .val (.int sz), .val (.int x)] [(.int x), (.int (own_at xs (2 : Int32)))])) _
              refine XS.icmpNo X0.here hx rfl (hb hby own_d9_32) rfl (teq hc32_12).2 ?_
              show Steps p.tables e below (s₁.setTop (mkF m 35 #[.val (.ref ar), .val (.int sz), .val (.int x)] [])) _
              refine XS.iconst X0.here hx rfl (hb hby own_d9_35) ?_
              show Steps p.tables e below (s₁.setTop (mkF m 36 #[.val (.ref ar), .val (.int sz), .val (.int x)] [(.int (1 : Int32))])) _
              refine XS.goto X0.here hx rfl (pc0 := 36) (pc' := 40) rfl (hb hby own_d9_36) (by decide) (by decide) ?_
              exact kt
            refine own_ret X0 (v := some (.int (1 : Int32))) (fun h => by rw [Bd.returns] at h; cases h) hlk (by decide) (by decide) ?_ (fun fs hr => ?_)
            · show Q9 Z ar sz x k xs h0 n0 (some (.int (1 : Int32))) s₁.heap _
              rw [e0]
              exact ⟨congrArg (fun z => some (Value.int z)) (by unfold own_ins; rw [if_pos hc1_1, if_neg hc8_3, if_neg hc13_4, if_pos hc25_10, if_pos hc32_12]), N0, rfl⟩
            · show Steps p.tables e below (s₁.setTop (mkF m 40 #[.val (.ref ar), .val (.int sz), .val (.int x)] [(.int (1 : Int32))])) _
              exact retN X0 hx (t := .boolean) Bd.returns (by simp) (hb hby own_d9_40) hr
          · refine own_st (A' := s₁.setTop (mkF m 40 #[.val (.ref ar), .val (.int sz), .val (.int x)] [(.int (0 : Int32))])) (fun tg kt => ?_) ?_
            · show Steps p.tables e below (s₁.setTop (mkF m 32 #[.val (.ref ar), .val (.int sz), .val (.int x)] [(.int x), (.int (own_at xs (2 : Int32)))])) _
              refine XS.icmpYes X0.here hx rfl (pc0 := 32) (pc' := 39) rfl (hb hby own_d9_32) rfl (feq hc32_12).2 (by decide) (by decide) ?_
              show Steps p.tables e below (s₁.setTop (mkF m 39 #[.val (.ref ar), .val (.int sz), .val (.int x)] [])) _
              refine XS.iconst X0.here hx rfl (hb hby own_d9_39) ?_
              exact kt
            refine own_ret X0 (v := some (.int (0 : Int32))) (fun h => by rw [Bd.returns] at h; cases h) hlk (by decide) (by decide) ?_ (fun fs hr => ?_)
            · show Q9 Z ar sz x k xs h0 n0 (some (.int (0 : Int32))) s₁.heap _
              rw [e0]
              exact ⟨congrArg (fun z => some (Value.int z)) (by unfold own_ins; rw [if_pos hc1_1, if_neg hc8_3, if_neg hc13_4, if_pos hc25_10, if_neg hc32_12]), N0, rfl⟩
            · show Steps p.tables e below (s₁.setTop (mkF m 40 #[.val (.ref ar), .val (.int sz), .val (.int x)] [(.int (0 : Int32))])) _
              exact retN X0 hx (t := .boolean) Bd.returns (by simp) (hb hby own_d9_40) hr
        · refine own_st (A' := s₁.setTop (mkF m 40 #[.val (.ref ar), .val (.int sz), .val (.int x)] [(.int (0 : Int32))])) (fun tg kt => ?_) ?_
          · show Steps p.tables e below (s₁.setTop (mkF m 25 #[.val (.ref ar), .val (.int sz), .val (.int x)] [(.int (2 : Int32)), (.int sz)])) _
            refine XS.icmpYes X0.here hx rfl (pc0 := 25) (pc' := 39) rfl (hb hby own_d9_25) rfl (flt hc25_10).2.2.2 (by decide) (by decide) ?_
            show Steps p.tables e below (s₁.setTop (mkF m 39 #[.val (.ref ar), .val (.int sz), .val (.int x)] [])) _
            refine XS.iconst X0.here hx rfl (hb hby own_d9_39) ?_
            exact kt
          refine own_ret X0 (v := some (.int (0 : Int32))) (fun h => by rw [Bd.returns] at h; cases h) hlk (by decide) (by decide) ?_ (fun fs hr => ?_)
          · show Q9 Z ar sz x k xs h0 n0 (some (.int (0 : Int32))) s₁.heap _
            rw [e0]
            exact ⟨congrArg (fun z => some (Value.int z)) (by unfold own_ins; rw [if_pos hc1_1, if_neg hc8_3, if_neg hc13_4, if_neg hc25_10]), N0, rfl⟩
          · show Steps p.tables e below (s₁.setTop (mkF m 40 #[.val (.ref ar), .val (.int sz), .val (.int x)] [(.int (0 : Int32))])) _
            exact retN X0 hx (t := .boolean) Bd.returns (by simp) (hb hby own_d9_40) hr
  · refine own_st (A' := s₁.setTop (mkF m 13 #[.val (.ref ar), .val (.int sz), .val (.int x)] [(.int (1 : Int32)), (.int sz)])) (fun tg kt => ?_) ?_
    · show Steps p.tables e below (s₁.setTop (mkF m 1 #[.val (.ref ar), .val (.int sz), .val (.int x)] [(.int sz)])) _
      refine XS.ifYes X0.here hx rfl (pc0 := 1) (pc' := 11) rfl (hb hby own_d9_1) rfl ((if0 _ _).trans (flt hc1_1).2.2.2) (by decide) (by decide) ?_
      show Steps p.tables e below (s₁.setTop (mkF m 11 #[.val (.ref ar), .val (.int sz), .val (.int x)] [])) _
      refine XS.iloadN X0.here hx rfl (hb hby own_d9_11) rfl ?_
      show Steps p.tables e below (s₁.setTop (mkF m 12 #[.val (.ref ar), .val (.int sz), .val (.int x)] [(.int sz)])) _
      refine XS.iconst X0.here hx rfl (hb hby own_d9_12) ?_
      exact kt
    by_cases hc13_13 : (1 : Int32) < sz
    · refine own_st (A' := s₁.setTop (mkF m 18 #[.val (.ref ar), .val (.int sz), .val (.int x)] [(.int (1 : Int32)), (.ref ar)])) (fun tg kt => ?_) ?_
      · show Steps p.tables e below (s₁.setTop (mkF m 13 #[.val (.ref ar), .val (.int sz), .val (.int x)] [(.int (1 : Int32)), (.int sz)])) _
        refine XS.icmpNo X0.here hx rfl (hb hby own_d9_13) rfl (tlt hc13_13).2.2.2 ?_
        show Steps p.tables e below (s₁.setTop (mkF m 16 #[.val (.ref ar), .val (.int sz), .val (.int x)] [])) _
        refine XS.aloadN X0.here hx rfl (hb hby own_d9_16) rfl rfl ?_
        show Steps p.tables e below (s₁.setTop (mkF m 17 #[.val (.ref ar), .val (.int sz), .val (.int x)] [(.ref ar)])) _
        refine XS.iconst X0.here hx rfl (hb hby own_d9_17) ?_
        exact kt
      obtain ⟨cl14, Ar14, hin14, hat14⟩ := own_ai_ld Va (j := (1 : Int32)) (by decide)
      refine own_st (A' := s₁.setTop (mkF m 20 #[.val (.ref ar), .val (.int sz), .val (.int x)] [(.int x), (.int (own_at xs (1 : Int32)))])) (fun tg kt => ?_) ?_
      · show Steps p.tables e below (s₁.setTop (mkF m 18 #[.val (.ref ar), .val (.int sz), .val (.int x)] [(.int (1 : Int32)), (.ref ar)])) _
        refine X0.iaload hx (j := (1 : Int32)) (v := (.int (own_at xs (1 : Int32)))) (own_at_heap e0 Ar14.1) (State.isArrayOf_alike hZ.alike Ar14.2.1) Ar14.2.2 hin14 hat14 (g := (mkF m 18 #[.val (.ref ar), .val (.int sz), .val (.int x)] [(.int (1 : Int32)), (.ref ar)])) rfl rfl (hb hby own_d9_18) _ ?_
        show Steps p.tables e below (s₁.setTop (mkF m 19 #[.val (.ref ar), .val (.int sz), .val (.int x)] [(.int (own_at xs (1 : Int32)))])) _
        refine XS.iloadN X0.here hx rfl (hb hby own_d9_19) rfl ?_
        exact kt
      by_cases hc20_15 : (own_at xs (1 : Int32)) = x
      · refine own_st (A' := s₁.setTop (mkF m 40 #[.val (.ref ar), .val (.int sz), .val (.int x)] [(.int (1 : Int32))])) (fun tg kt => ?_) ?_
        · show Steps p.tables e below (s₁.setTop (mkF m 20 #[.val (.ref ar), .val (.int sz), .val (.int x)] [(.int x), (.int (own_at xs (1 : Int32)))])) _
          refine XS.icmpYes X0.here hx rfl (pc0 := 20) (pc' := 35) rfl (hb hby own_d9_20) rfl (teq hc20_15).1 (by decide) (by decide) ?_
          show Steps p.tables e below (s₁.setTop (mkF m 35 #[.val (.ref ar), .val (.int sz), .val (.int x)] [])) _
          refine XS.iconst X0.here hx rfl (hb hby own_d9_35) ?_
          show Steps p.tables e below (s₁.setTop (mkF m 36 #[.val (.ref ar), .val (.int sz), .val (.int x)] [(.int (1 : Int32))])) _
          refine XS.goto X0.here hx rfl (pc0 := 36) (pc' := 40) rfl (hb hby own_d9_36) (by decide) (by decide) ?_
          exact kt
        refine own_ret X0 (v := some (.int (1 : Int32))) (fun h => by rw [Bd.returns] at h; cases h) hlk (by decide) (by decide) ?_ (fun fs hr => ?_)
        · show Q9 Z ar sz x k xs h0 n0 (some (.int (1 : Int32))) s₁.heap _
          rw [e0]
          exact ⟨congrArg (fun z => some (Value.int z)) (by unfold own_ins; rw [if_neg hc1_1, if_pos hc13_13, if_pos hc20_15]), N0, rfl⟩
        · show Steps p.tables e below (s₁.setTop (mkF m 40 #[.val (.ref ar), .val (.int sz), .val (.int x)] [(.int (1 : Int32))])) _
          exact retN X0 hx (t := .boolean) Bd.returns (by simp) (hb hby own_d9_40) hr
      · refine own_st (A' := s₁.setTop (mkF m 25 #[.val (.ref ar), .val (.int sz), .val (.int x)] [(.int (2 : Int32)), (.int sz)])) (fun tg kt => ?_) ?_
        · show Steps p.tables e below (s₁.setTop (mkF m 20 #[.val (.ref ar), .val (.int sz), .val (.int x)] [(.int x), (.int (own_at xs (1 : Int32)))])) _
          refine XS.icmpNo X0.here hx rfl (hb hby own_d9_20) rfl (feq hc20_15).1 ?_
          show Steps p.tables e below (s₁.setTop (mkF m 23 #[.val (.ref ar), .val (.int sz), .val (.int x)] [])) _
          refine XS.iloadN X0.here hx rfl (hb hby own_d9_23) rfl ?_
          show Steps p.tables e below (s₁.setTop (mkF m 24 #[.val (.ref ar), .val (.int sz), .val (.int x)] [(.int sz)])) _
          refine XS.iconst X0.here hx rfl (hb hby own_d9_24) ?_
          exact kt
        by_cases hc25_16 : (2 : Int32) < sz
        · refine own_st (A' := s₁.setTop (mkF m 30 #[.val (.ref ar), .val (.int sz), .val (.int x)] [(.int (2 : Int32)), (.ref ar)])) (fun tg kt => ?_) ?_
          · show Steps p.tables e below (s₁.setTop (mkF m 25 #[.val (.ref ar), .val (.int sz), .val (.int x)] [(.int (2 : Int32)), (.int sz)])) _
            refine XS.icmpNo X0.here hx rfl (hb hby own_d9_25) rfl (tlt hc25_16).2.2.2 ?_
            show Steps p.tables e below (s₁.setTop (mkF m 28 #[.val (.ref ar), .val (.int sz), .val (.int x)] [])) _
            refine XS.aloadN X0.here hx rfl (hb hby own_d9_28) rfl rfl ?_
            show Steps p.tables e below (s₁.setTop (mkF m 29 #[.val (.ref ar), .val (.int sz), .val (.int x)] [(.ref ar)])) _
            refine XS.iconst X0.here hx rfl (hb hby own_d9_29) ?_
            exact kt
          obtain ⟨cl17, Ar17, hin17, hat17⟩ := own_ai_ld Va (j := (2 : Int32)) (by decide)
          refine own_st (A' := s₁.setTop (mkF m 32 #[.val (.ref ar), .val (.int sz), .val (.int x)] [(.int x), (.int (own_at xs (2 : Int32)))])) (fun tg kt => ?_) ?_
          · show Steps p.tables e below (s₁.setTop (mkF m 30 #[.val (.ref ar), .val (.int sz), .val (.int x)] [(.int (2 : Int32)), (.ref ar)])) _
            refine X0.iaload hx (j := (2 : Int32)) (v := (.int (own_at xs (2 : Int32)))) (own_at_heap e0 Ar17.1) (State.isArrayOf_alike hZ.alike Ar17.2.1) Ar17.2.2 hin17 hat17 (g := (mkF m 30 #[.val (.ref ar), .val (.int sz), .val (.int x)] [(.int (2 : Int32)), (.ref ar)])) rfl rfl (hb hby own_d9_30) _ ?_
            show Steps p.tables e below (s₁.setTop (mkF m 31 #[.val (.ref ar), .val (.int sz), .val (.int x)] [(.int (own_at xs (2 : Int32)))])) _
            refine XS.iloadN X0.here hx rfl (hb hby own_d9_31) rfl ?_
            exact kt
          by_cases hc32_18 : (own_at xs (2 : Int32)) = x
          · refine own_st (A' := s₁.setTop (mkF m 40 #[.val (.ref ar), .val (.int sz), .val (.int x)] [(.int (1 : Int32))])) (fun tg kt => ?_) ?_
            · show Steps p.tables e below (s₁.setTop (mkF m 32 #[.val (.ref ar), .val (.int sz), .val (.int x)] [(.int x), (.int (own_at xs (2 : Int32)))])) _
              refine XS.icmpNo X0.here hx rfl (hb hby own_d9_32) rfl (teq hc32_18).2 ?_
              show Steps p.tables e below (s₁.setTop (mkF m 35 #[.val (.ref ar), .val (.int sz), .val (.int x)] [])) _
              refine XS.iconst X0.here hx rfl (hb hby own_d9_35) ?_
              show Steps p.tables e below (s₁.setTop (mkF m 36 #[.val (.ref ar), .val (.int sz), .val (.int x)] [(.int (1 : Int32))])) _
              refine XS.goto X0.here hx rfl (pc0 := 36) (pc' := 40) rfl (hb hby own_d9_36) (by decide) (by decide) ?_
              exact kt
            refine own_ret X0 (v := some (.int (1 : Int32))) (fun h => by rw [Bd.returns] at h; cases h) hlk (by decide) (by decide) ?_ (fun fs hr => ?_)
            · show Q9 Z ar sz x k xs h0 n0 (some (.int (1 : Int32))) s₁.heap _
              rw [e0]
              exact ⟨congrArg (fun z => some (Value.int z)) (by unfold own_ins; rw [if_neg hc1_1, if_pos hc13_13, if_neg hc20_15, if_pos hc25_16, if_pos hc32_18]), N0, rfl⟩
            · show Steps p.tables e below (s₁.setTop (mkF m 40 #[.val (.ref ar), .val (.int sz), .val (.int x)] [(.int (1 : Int32))])) _
              exact retN X0 hx (t := .boolean) Bd.returns (by simp) (hb hby own_d9_40) hr
          · refine own_st (A' := s₁.setTop (mkF m 40 #[.val (.ref ar), .val (.int sz), .val (.int x)] [(.int (0 : Int32))])) (fun tg kt => ?_) ?_
            · show Steps p.tables e below (s₁.setTop (mkF m 32 #[.val (.ref ar), .val (.int sz), .val (.int x)] [(.int x), (.int (own_at xs (2 : Int32)))])) _
              refine XS.icmpYes X0.here hx rfl (pc0 := 32) (pc' := 39) rfl (hb hby own_d9_32) rfl (feq hc32_18).2 (by decide) (by decide) ?_
              show Steps p.tables e below (s₁.setTop (mkF m 39 #[.val (.ref ar), .val (.int sz), .val (.int x)] [])) _
              refine XS.iconst X0.here hx rfl (hb hby own_d9_39) ?_
              exact kt
            refine own_ret X0 (v := some (.int (0 : Int32))) (fun h => by rw [Bd.returns] at h; cases h) hlk (by decide) (by decide) ?_ (fun fs hr => ?_)
            · show Q9 Z ar sz x k xs h0 n0 (some (.int (0 : Int32))) s₁.heap _
              rw [e0]
              exact ⟨congrArg (fun z => some (Value.int z)) (by unfold own_ins; rw [if_neg hc1_1, if_pos hc13_13, if_neg hc20_15, if_pos hc25_16, if_neg hc32_18]), N0, rfl⟩
            · show Steps p.tables e below (s₁.setTop (mkF m 40 #[.val (.ref ar), .val (.int sz), .val (.int x)] [(.int (0 : Int32))])) _
              exact retN X0 hx (t := .boolean) Bd.returns (by simp) (hb hby own_d9_40) hr
        · refine own_st (A' := s₁.setTop (mkF m 40 #[.val (.ref ar), .val (.int sz), .val (.int x)] [(.int (0 : Int32))])) (fun tg kt => ?_) ?_
          · show Steps p.tables e below (s₁.setTop (mkF m 25 #[.val (.ref ar), .val (.int sz), .val (.int x)] [(.int (2 : Int32)), (.int sz)])) _
            refine XS.icmpYes X0.here hx rfl (pc0 := 25) (pc' := 39) rfl (hb hby own_d9_25) rfl (flt hc25_16).2.2.2 (by decide) (by decide) ?_
            show Steps p.tables e below (s₁.setTop (mkF m 39 #[.val (.ref ar), .val (.int sz), .val (.int x)] [])) _
            refine XS.iconst X0.here hx rfl (hb hby own_d9_39) ?_
            exact kt
          refine own_ret X0 (v := some (.int (0 : Int32))) (fun h => by rw [Bd.returns] at h; cases h) hlk (by decide) (by decide) ?_ (fun fs hr => ?_)
          · show Q9 Z ar sz x k xs h0 n0 (some (.int (0 : Int32))) s₁.heap _
            rw [e0]
            exact ⟨congrArg (fun z => some (Value.int z)) (by unfold own_ins; rw [if_neg hc1_1, if_pos hc13_13, if_neg hc20_15, if_neg hc25_16]), N0, rfl⟩
          · show Steps p.tables e below (s₁.setTop (mkF m 40 #[.val (.ref ar), .val (.int sz), .val (.int x)] [(.int (0 : Int32))])) _
            exact retN X0 hx (t := .boolean) Bd.returns (by simp) (hb hby own_d9_40) hr
    · refine own_st (A' := s₁.setTop (mkF m 25 #[.val (.ref ar), .val (.int sz), .val (.int x)] [(.int (2 : Int32)), (.int sz)])) (fun tg kt => ?_) ?_
      · show Steps p.tables e below (s₁.setTop (mkF m 13 #[.val (.ref ar), .val (.int sz), .val (.int x)] [(.int (1 : Int32)), (.int sz)])) _
        refine XS.icmpYes X0.here hx rfl (pc0 := 13) (pc' := 23) rfl (hb hby own_d9_13) rfl (flt hc13_13).2.2.2 (by decide) (by decide) ?_
        show Steps p.tables e below (s₁.setTop (mkF m 23 #[.val (.ref ar), .val (.int sz), .val (.int x)] [])) _
        refine XS.iloadN X0.here hx rfl (hb hby own_d9_23) rfl ?_
        show Steps p.tables e below (s₁.setTop (mkF m 24 #[.val (.ref ar), .val (.int sz), .val (.int x)] [(.int sz)])) _
        refine XS.iconst X0.here hx rfl (hb hby own_d9_24) ?_
        exact kt
      by_cases hc25_19 : (2 : Int32) < sz
      · refine own_st (A' := s₁.setTop (mkF m 30 #[.val (.ref ar), .val (.int sz), .val (.int x)] [(.int (2 : Int32)), (.ref ar)])) (fun tg kt => ?_) ?_
        · show Steps p.tables e below (s₁.setTop (mkF m 25 #[.val (.ref ar), .val (.int sz), .val (.int x)] [(.int (2 : Int32)), (.int sz)])) _
          refine XS.icmpNo X0.here hx rfl (hb hby own_d9_25) rfl (tlt hc25_19).2.2.2 ?_
          show Steps p.tables e below (s₁.setTop (mkF m 28 #[.val (.ref ar), .val (.int sz), .val (.int x)] [])) _
          refine XS.aloadN X0.here hx rfl (hb hby own_d9_28) rfl rfl ?_
          show Steps p.tables e below (s₁.setTop (mkF m 29 #[.val (.ref ar), .val (.int sz), .val (.int x)] [(.ref ar)])) _
          refine XS.iconst X0.here hx rfl (hb hby own_d9_29) ?_
          exact kt
        obtain ⟨cl20, Ar20, hin20, hat20⟩ := own_ai_ld Va (j := (2 : Int32)) (by decide)
        refine own_st (A' := s₁.setTop (mkF m 32 #[.val (.ref ar), .val (.int sz), .val (.int x)] [(.int x), (.int (own_at xs (2 : Int32)))])) (fun tg kt => ?_) ?_
        · show Steps p.tables e below (s₁.setTop (mkF m 30 #[.val (.ref ar), .val (.int sz), .val (.int x)] [(.int (2 : Int32)), (.ref ar)])) _
          refine X0.iaload hx (j := (2 : Int32)) (v := (.int (own_at xs (2 : Int32)))) (own_at_heap e0 Ar20.1) (State.isArrayOf_alike hZ.alike Ar20.2.1) Ar20.2.2 hin20 hat20 (g := (mkF m 30 #[.val (.ref ar), .val (.int sz), .val (.int x)] [(.int (2 : Int32)), (.ref ar)])) rfl rfl (hb hby own_d9_30) _ ?_
          show Steps p.tables e below (s₁.setTop (mkF m 31 #[.val (.ref ar), .val (.int sz), .val (.int x)] [(.int (own_at xs (2 : Int32)))])) _
          refine XS.iloadN X0.here hx rfl (hb hby own_d9_31) rfl ?_
          exact kt
        by_cases hc32_21 : (own_at xs (2 : Int32)) = x
        · refine own_st (A' := s₁.setTop (mkF m 40 #[.val (.ref ar), .val (.int sz), .val (.int x)] [(.int (1 : Int32))])) (fun tg kt => ?_) ?_
          · show Steps p.tables e below (s₁.setTop (mkF m 32 #[.val (.ref ar), .val (.int sz), .val (.int x)] [(.int x), (.int (own_at xs (2 : Int32)))])) _
            refine XS.icmpNo X0.here hx rfl (hb hby own_d9_32) rfl (teq hc32_21).2 ?_
            show Steps p.tables e below (s₁.setTop (mkF m 35 #[.val (.ref ar), .val (.int sz), .val (.int x)] [])) _
            refine XS.iconst X0.here hx rfl (hb hby own_d9_35) ?_
            show Steps p.tables e below (s₁.setTop (mkF m 36 #[.val (.ref ar), .val (.int sz), .val (.int x)] [(.int (1 : Int32))])) _
            refine XS.goto X0.here hx rfl (pc0 := 36) (pc' := 40) rfl (hb hby own_d9_36) (by decide) (by decide) ?_
            exact kt
          refine own_ret X0 (v := some (.int (1 : Int32))) (fun h => by rw [Bd.returns] at h; cases h) hlk (by decide) (by decide) ?_ (fun fs hr => ?_)
          · show Q9 Z ar sz x k xs h0 n0 (some (.int (1 : Int32))) s₁.heap _
            rw [e0]
            exact ⟨congrArg (fun z => some (Value.int z)) (by unfold own_ins; rw [if_neg hc1_1, if_neg hc13_13, if_pos hc25_19, if_pos hc32_21]), N0, rfl⟩
          · show Steps p.tables e below (s₁.setTop (mkF m 40 #[.val (.ref ar), .val (.int sz), .val (.int x)] [(.int (1 : Int32))])) _
            exact retN X0 hx (t := .boolean) Bd.returns (by simp) (hb hby own_d9_40) hr
        · refine own_st (A' := s₁.setTop (mkF m 40 #[.val (.ref ar), .val (.int sz), .val (.int x)] [(.int (0 : Int32))])) (fun tg kt => ?_) ?_
          · show Steps p.tables e below (s₁.setTop (mkF m 32 #[.val (.ref ar), .val (.int sz), .val (.int x)] [(.int x), (.int (own_at xs (2 : Int32)))])) _
            refine XS.icmpYes X0.here hx rfl (pc0 := 32) (pc' := 39) rfl (hb hby own_d9_32) rfl (feq hc32_21).2 (by decide) (by decide) ?_
            show Steps p.tables e below (s₁.setTop (mkF m 39 #[.val (.ref ar), .val (.int sz), .val (.int x)] [])) _
            refine XS.iconst X0.here hx rfl (hb hby own_d9_39) ?_
            exact kt
          refine own_ret X0 (v := some (.int (0 : Int32))) (fun h => by rw [Bd.returns] at h; cases h) hlk (by decide) (by decide) ?_ (fun fs hr => ?_)
          · show Q9 Z ar sz x k xs h0 n0 (some (.int (0 : Int32))) s₁.heap _
            rw [e0]
            exact ⟨congrArg (fun z => some (Value.int z)) (by unfold own_ins; rw [if_neg hc1_1, if_neg hc13_13, if_pos hc25_19, if_neg hc32_21]), N0, rfl⟩
          · show Steps p.tables e below (s₁.setTop (mkF m 40 #[.val (.ref ar), .val (.int sz), .val (.int x)] [(.int (0 : Int32))])) _
            exact retN X0 hx (t := .boolean) Bd.returns (by simp) (hb hby own_d9_40) hr
      · refine own_st (A' := s₁.setTop (mkF m 40 #[.val (.ref ar), .val (.int sz), .val (.int x)] [(.int (0 : Int32))])) (fun tg kt => ?_) ?_
        · show Steps p.tables e below (s₁.setTop (mkF m 25 #[.val (.ref ar), .val (.int sz), .val (.int x)] [(.int (2 : Int32)), (.int sz)])) _
          refine XS.icmpYes X0.here hx rfl (pc0 := 25) (pc' := 39) rfl (hb hby own_d9_25) rfl (flt hc25_19).2.2.2 (by decide) (by decide) ?_
          show Steps p.tables e below (s₁.setTop (mkF m 39 #[.val (.ref ar), .val (.int sz), .val (.int x)] [])) _
          refine XS.iconst X0.here hx rfl (hb hby own_d9_39) ?_
          exact kt
        refine own_ret X0 (v := some (.int (0 : Int32))) (fun h => by rw [Bd.returns] at h; cases h) hlk (by decide) (by decide) ?_ (fun fs hr => ?_)
        · show Q9 Z ar sz x k xs h0 n0 (some (.int (0 : Int32))) s₁.heap _
          rw [e0]
          exact ⟨congrArg (fun z => some (Value.int z)) (by unfold own_ins; rw [if_neg hc1_1, if_neg hc13_13, if_neg hc25_19]), N0, rfl⟩
        · show Steps p.tables e below (s₁.setTop (mkF m 40 #[.val (.ref ar), .val (.int sz), .val (.int x)] [(.int (0 : Int32))])) _
          exact retN X0 hx (t := .boolean) Bd.returns (by simp) (hb hby own_d9_40) hr
theorem own_k1 (f0 f1 f2 : Int32) (hp : own_perm f0 f1 f2) (r : Int32) (hr : r = 0) : own_okA own_D0 f0 ∧ own_in r ∧ own_okR (own_add own_D0 f0) (own_at (own_put (own_put (own_put [0, 0, 0] (0 : Int32) f0) (1 : Int32) f1) (2 : Int32) f2) r) ∧ own_fin (own_del (own_add own_D0 f0) (own_at (own_put (own_put (own_put [0, 0, 0] (0 : Int32) f0) (1 : Int32) f1) (2 : Int32) f2) r)) (0 : Int32) (own_rat (own_put (own_put (own_put [0, 0, 0] (0 : Int32) f0) (1 : Int32) f1) (2 : Int32) f2) (1 : Int32) r) := by
  rcases hp with ⟨rfl, rfl, rfl⟩ | ⟨rfl, rfl, rfl⟩ | ⟨rfl, rfl, rfl⟩ | ⟨rfl, rfl, rfl⟩ | ⟨rfl, rfl, rfl⟩ | ⟨rfl, rfl, rfl⟩
  all_goals rcases hr with rfl
  all_goals decide
theorem own_k2 (f0 f1 f2 : Int32) (hp : own_perm f0 f1 f2) (r : Int32) (hr : r = 0 ∨ r = 1) : own_okA own_D0 f0 ∧ own_okA (own_add own_D0 f0) f1 ∧ own_in r ∧ own_okR (own_add (own_add own_D0 f0) f1) (own_at (own_put (own_put (own_put [0, 0, 0] (0 : Int32) f0) (1 : Int32) f1) (2 : Int32) f2) r) ∧ own_fin (own_del (own_add (own_add own_D0 f0) f1) (own_at (own_put (own_put (own_put [0, 0, 0] (0 : Int32) f0) (1 : Int32) f1) (2 : Int32) f2) r)) (1 : Int32) (own_rat (own_put (own_put (own_put [0, 0, 0] (0 : Int32) f0) (1 : Int32) f1) (2 : Int32) f2) (2 : Int32) r) := by
  rcases hp with ⟨rfl, rfl, rfl⟩ | ⟨rfl, rfl, rfl⟩ | ⟨rfl, rfl, rfl⟩ | ⟨rfl, rfl, rfl⟩ | ⟨rfl, rfl, rfl⟩ | ⟨rfl, rfl, rfl⟩
  all_goals rcases hr with rfl | rfl
  all_goals decide
theorem own_k2b (f0 f1 f2 : Int32) (hp : own_perm f0 f1 f2) (r : Int32) (hr : r = 0 ∨ r = 1) (t : Int32) (ht : t = 0) : own_in t ∧ own_okR (own_del (own_add (own_add own_D0 f0) f1) (own_at (own_put (own_put (own_put [0, 0, 0] (0 : Int32) f0) (1 : Int32) f1) (2 : Int32) f2) r)) (own_at (own_rat (own_put (own_put (own_put [0, 0, 0] (0 : Int32) f0) (1 : Int32) f1) (2 : Int32) f2) (2 : Int32) r) t) ∧ own_fin (own_del (own_del (own_add (own_add own_D0 f0) f1) (own_at (own_put (own_put (own_put [0, 0, 0] (0 : Int32) f0) (1 : Int32) f1) (2 : Int32) f2) r)) (own_at (own_rat (own_put (own_put (own_put [0, 0, 0] (0 : Int32) f0) (1 : Int32) f1) (2 : Int32) f2) (2 : Int32) r) t)) (0 : Int32) (own_rat (own_rat (own_put (own_put (own_put [0, 0, 0] (0 : Int32) f0) (1 : Int32) f1) (2 : Int32) f2) (2 : Int32) r) (1 : Int32) t) := by
  rcases hp with ⟨rfl, rfl, rfl⟩ | ⟨rfl, rfl, rfl⟩ | ⟨rfl, rfl, rfl⟩ | ⟨rfl, rfl, rfl⟩ | ⟨rfl, rfl, rfl⟩ | ⟨rfl, rfl, rfl⟩
  all_goals rcases hr with rfl | rfl
  all_goals rcases ht with rfl
  all_goals decide
theorem own_k3 (f0 f1 f2 : Int32) (hp : own_perm f0 f1 f2) (r : Int32) (hr : r = 0 ∨ r = 1 ∨ r = 2) : own_okA own_D0 f0 ∧ own_okA (own_add own_D0 f0) f1 ∧ own_okA (own_add (own_add own_D0 f0) f1) f2 ∧ own_in r ∧ own_okR (own_add (own_add (own_add own_D0 f0) f1) f2) (own_at (own_put (own_put (own_put [0, 0, 0] (0 : Int32) f0) (1 : Int32) f1) (2 : Int32) f2) r) ∧ own_fin (own_del (own_add (own_add (own_add own_D0 f0) f1) f2) (own_at (own_put (own_put (own_put [0, 0, 0] (0 : Int32) f0) (1 : Int32) f1) (2 : Int32) f2) r)) (2 : Int32) (own_rat (own_put (own_put (own_put [0, 0, 0] (0 : Int32) f0) (1 : Int32) f1) (2 : Int32) f2) (3 : Int32) r) := by
  rcases hp with ⟨rfl, rfl, rfl⟩ | ⟨rfl, rfl, rfl⟩ | ⟨rfl, rfl, rfl⟩ | ⟨rfl, rfl, rfl⟩ | ⟨rfl, rfl, rfl⟩ | ⟨rfl, rfl, rfl⟩
  all_goals rcases hr with rfl | rfl | rfl
  all_goals decide
theorem own_k3b (f0 f1 f2 : Int32) (hp : own_perm f0 f1 f2) (r : Int32) (hr : r = 0 ∨ r = 1 ∨ r = 2) (t : Int32) (ht : t = 0 ∨ t = 1) : own_in t ∧ own_okR (own_del (own_add (own_add (own_add own_D0 f0) f1) f2) (own_at (own_put (own_put (own_put [0, 0, 0] (0 : Int32) f0) (1 : Int32) f1) (2 : Int32) f2) r)) (own_at (own_rat (own_put (own_put (own_put [0, 0, 0] (0 : Int32) f0) (1 : Int32) f1) (2 : Int32) f2) (3 : Int32) r) t) ∧ own_fin (own_del (own_del (own_add (own_add (own_add own_D0 f0) f1) f2) (own_at (own_put (own_put (own_put [0, 0, 0] (0 : Int32) f0) (1 : Int32) f1) (2 : Int32) f2) r)) (own_at (own_rat (own_put (own_put (own_put [0, 0, 0] (0 : Int32) f0) (1 : Int32) f1) (2 : Int32) f2) (3 : Int32) r) t)) (1 : Int32) (own_rat (own_rat (own_put (own_put (own_put [0, 0, 0] (0 : Int32) f0) (1 : Int32) f1) (2 : Int32) f2) (3 : Int32) r) (2 : Int32) t) := by
  rcases hp with ⟨rfl, rfl, rfl⟩ | ⟨rfl, rfl, rfl⟩ | ⟨rfl, rfl, rfl⟩ | ⟨rfl, rfl, rfl⟩ | ⟨rfl, rfl, rfl⟩ | ⟨rfl, rfl, rfl⟩
  all_goals rcases hr with rfl | rfl | rfl
  all_goals rcases ht with rfl | rfl
  all_goals decide
theorem own_pd4 : parseMethodDescriptor "(I)I" = some ⟨[.int], some .int⟩ := by decide +kernel
theorem own_pd5 : parseMethodDescriptor "(I)Z" = some ⟨[.int], some .boolean⟩ := by decide +kernel
theorem own_pd6 : parseMethodDescriptor "([III)Z" = some ⟨[(.array .int), .int, .int], some .boolean⟩ := by decide +kernel
theorem own_pd7 : parseMethodDescriptor "(I)V" = some ⟨[.int], none⟩ := by decide +kernel
theorem own_pd8 : parseMethodDescriptor "([III)I" = some ⟨[(.array .int), .int, .int], some .int⟩ := by decide +kernel
theorem own_pd9 : parseMethodDescriptor "()I" = some ⟨[], some .int⟩ := by decide +kernel
theorem own_ef_rm0 (m : MethodId) (p0 : Int32) (p1 : Int32) (p2 : Int32) (p3 : Int32) : entryFrame m #[(.int p0), (.int p1), (.int p2), (.int p3)] maxLocals = mkF m 0 #[.val (.int p0), .val (.int p1), .val (.int p2), .val (.int p3), .unset, .unset, .unset, .unset, .unset, .unset, .unset, .unset, .unset, .unset, .unset, .unset] [] := by first | (simp [entryFrame, mkF, argsToLocals, Value.category, maxLocals]; done) | rfl
def Q0 (Z : State) (p0 : Int32) (p1 : Int32) (p2 : Int32) (p3 : Int32) (h0 : Heap) (n0 : Nat) (v : Option Value) (h : Heap) (L : List Loc) : Prop := v = some (.int 1) ∧ Fr n0 L
set_option maxRecDepth 65536 in
set_option maxHeartbeats 40000000 in
theorem rm0 (l : Launch) (Z : State) (a0 : Array Value) (hw : ∀ d ∈ tables_1, d.before a0 Z = true) (ws : List Jvm.Cond) (p0 : Int32) (p1 : Int32) (p2 : Int32) (p3 : Int32) (h0 : Heap) (n0 : Nat) (Z0 : n0 ≤ h0.size) :
    MetFree l x (head1 (Jvm.Cond.code x code maxLocals ret :: ws) room_1) (fun a U => a = #[(.int p0), (.int p1), (.int p2), (.int p3)] ∧ Z.Warmed39 U.vm ∧ U.heap = h0) (fun _ _ _ _ _ => True) (fun _ U o U' => ∃ v L, o = .returned v ∧ Q0 Z p0 p1 p2 p3 h0 n0 v U'.heap L ∧ FrameEnd U o U' L room_1.cells room_1.slots) := by
  refine MetFree.of_bodySF (plainFor_of_name own_pn3) hisR ?_
  intro p e s m args below meth c s₁ Bd hml0 hP hK
  obtain ⟨rfl, hZ, hh⟩ := hP
  have hx := Bd.exec
  have hby := Bd.bytes
  have hml : c.maxLocals = 16 := hml0
  have hown : s.vm.findClass "com/example/slotpack/slotpack/IndexSetRemovePinLaw" = some m.cls := findClass_of_methodNamed Bd.named
  have hnm := (name_of_methodNamed Bd.named Bd.method).1
  have hlk : meth.locks = false := BodyLoose.notSynchronized Bd
  have X0 : Stand p l e room_1 s m #[(.int p0), (.int p1), (.int p2), (.int p3)] below meth c s₁ [] 0 0 := Stand.of_body Bd
  have e0 : s₁.heap = h0 := by rw [← hh, Bd.state]; rfl
  have N0 := Fr.nil n0
  show own_Gl FrameEnd p e below s (Q0 Z p0 p1 p2 p3 h0 n0) room_1.cells room_1.slots (s₁.setTop (entryFrame m #[(.int p0), (.int p1), (.int p2), (.int p3)] maxLocals))
  rw [own_ef_rm0 m p0 p1 p2 p3]
  have tlE : ∀ (z4 z5 z6 z7 z8 z9 z12 z15 : Slot) (am0 st0 am ap : Addr) (km ka kp : ClassId) (D : own_D) (sz : Int32) (mm : List Int32) (Tt : State) (locs : List Loc) (ht : Heap) (Xt : Stand p l e room_1 s m #[(.int p0), (.int p1), (.int p2), (.int p3)] below meth c Tt locs 4 12) (et : Tt.heap = ht) (Nt : Fr n0 locs) (Zt : n0 ≤ ht.size) (ISt : own_IS Z ht st0 am ap ka kp D) (Vt : own_ai Z ht am0 km mm) (geo : own_geo n0 st0 am ap) (gm : n0 ≤ am0) (hf : own_fin D sz mm), own_Gl FrameEnd p e below s (Q0 Z p0 p1 p2 p3 h0 n0) room_1.cells room_1.slots (Tt.setTop (mkF m 222 #[.val (.int p0), .val (.int p1), .val (.int p2), .val (.int p3), z4, z5, z6, z7, z8, z9, .val (.ref am0), .val (.ref st0), z12, .val (.int sz), .val (.int (1 : Int32)), z15] [])) := by
    intro z4 z5 z6 z7 z8 z9 z12 z15 am0 st0 am ap km ka kp D sz mm Tt locs ht Xt et Nt Zt ISt Vt geo gm hf
    refine own_st (A' := Tt.setTop (mkF m 224 #[.val (.int p0), .val (.int p1), .val (.int p2), .val (.int p3), z4, z5, z6, z7, z8, z9, .val (.ref am0), .val (.ref st0), z12, .val (.int sz), .val (.int (1 : Int32)), z15] [(.int sz)])) (fun tg kt => ?_) ?_
    · show Steps p.tables e below (Tt.setTop (mkF m 222 #[.val (.int p0), .val (.int p1), .val (.int p2), .val (.int p3), z4, z5, z6, z7, z8, z9, .val (.ref am0), .val (.ref st0), z12, .val (.int sz), .val (.int (1 : Int32)), z15] [])) _
      refine XS.iload Xt.here hx rfl (hb hby at_222) rfl ?_
      exact kt
    by_cases hc224_1 : (0 : Int32) < sz
    · refine own_st (A' := Tt.setTop (mkF m 235 #[.val (.int p0), .val (.int p1), .val (.int p2), .val (.int p3), z4, z5, z6, z7, z8, z9, .val (.ref am0), .val (.ref st0), z12, .val (.int sz), .val (.int (1 : Int32)), z15] [(.int (0 : Int32)), (.ref st0)])) (fun tg kt => ?_) ?_
      · show Steps p.tables e below (Tt.setTop (mkF m 224 #[.val (.int p0), .val (.int p1), .val (.int p2), .val (.int p3), z4, z5, z6, z7, z8, z9, .val (.ref am0), .val (.ref st0), z12, .val (.int sz), .val (.int (1 : Int32)), z15] [(.int sz)])) _
        refine XS.ifNo Xt.here hx rfl (hb hby at_224) rfl ((if0 _ _).trans (tlt hc224_1).2.2.2) ?_
        show Steps p.tables e below (Tt.setTop (mkF m 227 #[.val (.int p0), .val (.int p1), .val (.int p2), .val (.int p3), z4, z5, z6, z7, z8, z9, .val (.ref am0), .val (.ref st0), z12, .val (.int sz), .val (.int (1 : Int32)), z15] [])) _
        refine XS.iload Xt.here hx rfl (hb hby at_227) rfl ?_
        show Steps p.tables e below (Tt.setTop (mkF m 229 #[.val (.int p0), .val (.int p1), .val (.int p2), .val (.int p3), z4, z5, z6, z7, z8, z9, .val (.ref am0), .val (.ref st0), z12, .val (.int sz), .val (.int (1 : Int32)), z15] [(.int (1 : Int32))])) _
        refine XS.ifNo Xt.here hx rfl (hb hby at_229) rfl ((if0 _ _).trans (feq ((by decide) : ¬ ((1 : Int32) = (0 : Int32)))).1) ?_
        show Steps p.tables e below (Tt.setTop (mkF m 232 #[.val (.int p0), .val (.int p1), .val (.int p2), .val (.int p3), z4, z5, z6, z7, z8, z9, .val (.ref am0), .val (.ref st0), z12, .val (.int sz), .val (.int (1 : Int32)), z15] [])) _
        refine XS.aload Xt.here hx rfl (hb hby at_232) rfl rfl ?_
        show Steps p.tables e below (Tt.setTop (mkF m 234 #[.val (.int p0), .val (.int p1), .val (.int p2), .val (.int p3), z4, z5, z6, z7, z8, z9, .val (.ref am0), .val (.ref st0), z12, .val (.int sz), .val (.int (1 : Int32)), z15] [(.ref st0)])) _
        refine XS.iconst Xt.here hx rfl (hb hby at_234) ?_
        exact kt
      obtain ⟨cq2, kq2, q2a, q2b, q2c⟩ := isOf hZ et ISt.1
      obtain ⟨_, _, ⟨T2, L2, k2, n2⟩, -, X2, ⟨Lc2, hQ2, l2, y2, z2⟩, st2⟩ := Xt.virtualBack hx (y := (⟨"com/example/slotpack/slotpack/IndexSet", "get", "(I)I"⟩ : MethodName)) (z := (⟨"com/example/slotpack/slotpack/IndexSet", "get", "(I)I"⟩ : MethodName)) hown (mvT hZ (hw _ (List.mem_of_getElem? (i := 48) rfl))) (mvT hZ (hw _ (List.mem_of_getElem? (i := 49) rfl))) (notFace_of_selects (args := #[]) (mvT hZ (hw _ (List.mem_of_getElem? (i := 51) rfl)))) (mvT hZ (hw _ (List.mem_of_getElem? (i := 51) rfl))) (mvT hZ (hw _ (List.mem_of_getElem? (i := 50) rfl))) (by decide) (backOf (W := 0) (rm10 l Z a0 hw [] st0 (0 : Int32)  am ap ka kp D ht n0 Zt ISt geo (by decide)) hZ (hw _ (List.mem_of_getElem? (i := 52) rfl)) (hw _ (List.mem_of_getElem? (i := 4) rfl)) (by decide) (by decide)) q2a q2c (g := (mkF m 235 #[.val (.int p0), .val (.int p1), .val (.int p2), .val (.int p3), z4, z5, z6, z7, z8, z9, .val (.ref am0), .val (.ref st0), z12, .val (.int sz), .val (.int (1 : Int32)), z15] [(.int (0 : Int32)), (.ref st0)])) rfl (by rw [hml]; rfl) (Steps.refl _) (argsL := [(.int (0 : Int32))]) (rest := []) (lenOf own_pd4 rfl) rfl (by show 2 * 0 + _ ≤ _; exact Nat.le_of_eq rfl) (hb hby at_235) (fun _ _ => ⟨rfl, et, (by decide : 4 + 0 ≤ _), (by decide : 12 + 0 ≤ _)⟩)
      dsimp only [Pt.U, Pt.locs, Pt.cells, Pt.slots] at X2 l2 y2 z2 st2 hQ2
      subst l2 y2 z2
      obtain ⟨rfl, Nq2, eq2⟩ := hQ2
      have N2 := Fr.app Nt Nq2
      refine own_tr st2 ?_
      show own_Gl _ _ _ _ _ _ _ _ (T2.setTop (mkF m 238 #[.val (.int p0), .val (.int p1), .val (.int p2), .val (.int p3), z4, z5, z6, z7, z8, z9, .val (.ref am0), .val (.ref st0), z12, .val (.int sz), .val (.int (1 : Int32)), z15] [(.int (own_at D.1 (0 : Int32)))]))
      refine own_st (A' := T2.setTop (mkF m 241 #[.val (.int p0), .val (.int p1), .val (.int p2), .val (.int p3), z4, z5, z6, z7, z8, z9, .val (.ref am0), .val (.ref st0), z12, .val (.int sz), .val (.int (1 : Int32)), z15] [(.int (0 : Int32)), (.ref am0), (.int (own_at D.1 (0 : Int32)))])) (fun tg kt => ?_) ?_
      · show Steps p.tables e below (T2.setTop (mkF m 238 #[.val (.int p0), .val (.int p1), .val (.int p2), .val (.int p3), z4, z5, z6, z7, z8, z9, .val (.ref am0), .val (.ref st0), z12, .val (.int sz), .val (.int (1 : Int32)), z15] [(.int (own_at D.1 (0 : Int32)))])) _
        refine XS.aload X2.here hx rfl (hb hby at_238) rfl rfl ?_
        show Steps p.tables e below (T2.setTop (mkF m 240 #[.val (.int p0), .val (.int p1), .val (.int p2), .val (.int p3), z4, z5, z6, z7, z8, z9, .val (.ref am0), .val (.ref st0), z12, .val (.int sz), .val (.int (1 : Int32)), z15] [(.ref am0), (.int (own_at D.1 (0 : Int32)))])) _
        refine XS.iconst X2.here hx rfl (hb hby at_240) ?_
        exact kt
      obtain ⟨cl3, Ar3, hin3, hat3⟩ := own_ai_ld Vt (j := (0 : Int32)) (by decide)
      refine own_st (A' := T2.setTop (mkF m 255 #[.val (.int p0), .val (.int p1), .val (.int p2), .val (.int p3), z4, z5, z6, z7, z8, z9, .val (.ref am0), .val (.ref st0), z12, .val (.int sz), .val (.int (1 : Int32)), z15] [(.int (1 : Int32)), (.int sz)])) (fun tg kt => ?_) ?_
      · show Steps p.tables e below (T2.setTop (mkF m 241 #[.val (.int p0), .val (.int p1), .val (.int p2), .val (.int p3), z4, z5, z6, z7, z8, z9, .val (.ref am0), .val (.ref st0), z12, .val (.int sz), .val (.int (1 : Int32)), z15] [(.int (0 : Int32)), (.ref am0), (.int (own_at D.1 (0 : Int32)))])) _
        refine X2.iaload hx (j := (0 : Int32)) (v := (.int (own_at mm (0 : Int32)))) (own_at_heap eq2 Ar3.1) (State.isArrayOf_alike hZ.alike Ar3.2.1) Ar3.2.2 hin3 hat3 (g := (mkF m 241 #[.val (.int p0), .val (.int p1), .val (.int p2), .val (.int p3), z4, z5, z6, z7, z8, z9, .val (.ref am0), .val (.ref st0), z12, .val (.int sz), .val (.int (1 : Int32)), z15] [(.int (0 : Int32)), (.ref am0), (.int (own_at D.1 (0 : Int32)))])) rfl rfl (hb hby at_241) _ ?_
        show Steps p.tables e below (T2.setTop (mkF m 242 #[.val (.int p0), .val (.int p1), .val (.int p2), .val (.int p3), z4, z5, z6, z7, z8, z9, .val (.ref am0), .val (.ref st0), z12, .val (.int sz), .val (.int (1 : Int32)), z15] [(.int (own_at mm (0 : Int32))), (.int (own_at D.1 (0 : Int32)))])) _
        refine XS.icmpNo X2.here hx rfl (hb hby at_242) rfl (teq (hf.2.1 hc224_1 : (own_at D.1 (0 : Int32)) = (own_at mm (0 : Int32)))).2 ?_
        show Steps p.tables e below (T2.setTop (mkF m 245 #[.val (.int p0), .val (.int p1), .val (.int p2), .val (.int p3), z4, z5, z6, z7, z8, z9, .val (.ref am0), .val (.ref st0), z12, .val (.int sz), .val (.int (1 : Int32)), z15] [])) _
        refine XS.iconst X2.here hx rfl (hb hby at_245) ?_
        show Steps p.tables e below (T2.setTop (mkF m 246 #[.val (.int p0), .val (.int p1), .val (.int p2), .val (.int p3), z4, z5, z6, z7, z8, z9, .val (.ref am0), .val (.ref st0), z12, .val (.int sz), .val (.int (1 : Int32)), z15] [(.int (1 : Int32))])) _
        refine XS.goto X2.here hx rfl (pc0 := 246) (pc' := 250) rfl (hb hby at_246) (by decide) (by decide) ?_
        show Steps p.tables e below (T2.setTop (mkF m 250 #[.val (.int p0), .val (.int p1), .val (.int p2), .val (.int p3), z4, z5, z6, z7, z8, z9, .val (.ref am0), .val (.ref st0), z12, .val (.int sz), .val (.int (1 : Int32)), z15] [(.int (1 : Int32))])) _
        refine XS.istore X2.here hx rfl (hb hby at_250) rfl (l' := #[.val (.int p0), .val (.int p1), .val (.int p2), .val (.int p3), z4, z5, z6, z7, z8, z9, .val (.ref am0), .val (.ref st0), z12, .val (.int sz), .val (.int (1 : Int32)), z15]) rfl ?_
        show Steps p.tables e below (T2.setTop (mkF m 252 #[.val (.int p0), .val (.int p1), .val (.int p2), .val (.int p3), z4, z5, z6, z7, z8, z9, .val (.ref am0), .val (.ref st0), z12, .val (.int sz), .val (.int (1 : Int32)), z15] [])) _
        refine XS.iload X2.here hx rfl (hb hby at_252) rfl ?_
        show Steps p.tables e below (T2.setTop (mkF m 254 #[.val (.int p0), .val (.int p1), .val (.int p2), .val (.int p3), z4, z5, z6, z7, z8, z9, .val (.ref am0), .val (.ref st0), z12, .val (.int sz), .val (.int (1 : Int32)), z15] [(.int sz)])) _
        refine XS.iconst X2.here hx rfl (hb hby at_254) ?_
        exact kt
      by_cases hc255_4 : (1 : Int32) < sz
      · refine own_st (A' := T2.setTop (mkF m 266 #[.val (.int p0), .val (.int p1), .val (.int p2), .val (.int p3), z4, z5, z6, z7, z8, z9, .val (.ref am0), .val (.ref st0), z12, .val (.int sz), .val (.int (1 : Int32)), z15] [(.int (1 : Int32)), (.ref st0)])) (fun tg kt => ?_) ?_
        · show Steps p.tables e below (T2.setTop (mkF m 255 #[.val (.int p0), .val (.int p1), .val (.int p2), .val (.int p3), z4, z5, z6, z7, z8, z9, .val (.ref am0), .val (.ref st0), z12, .val (.int sz), .val (.int (1 : Int32)), z15] [(.int (1 : Int32)), (.int sz)])) _
          refine XS.icmpNo X2.here hx rfl (hb hby at_255) rfl (tlt hc255_4).2.2.2 ?_
          show Steps p.tables e below (T2.setTop (mkF m 258 #[.val (.int p0), .val (.int p1), .val (.int p2), .val (.int p3), z4, z5, z6, z7, z8, z9, .val (.ref am0), .val (.ref st0), z12, .val (.int sz), .val (.int (1 : Int32)), z15] [])) _
          refine XS.iload X2.here hx rfl (hb hby at_258) rfl ?_
          show Steps p.tables e below (T2.setTop (mkF m 260 #[.val (.int p0), .val (.int p1), .val (.int p2), .val (.int p3), z4, z5, z6, z7, z8, z9, .val (.ref am0), .val (.ref st0), z12, .val (.int sz), .val (.int (1 : Int32)), z15] [(.int (1 : Int32))])) _
          refine XS.ifNo X2.here hx rfl (hb hby at_260) rfl ((if0 _ _).trans (feq ((by decide) : ¬ ((1 : Int32) = (0 : Int32)))).1) ?_
          show Steps p.tables e below (T2.setTop (mkF m 263 #[.val (.int p0), .val (.int p1), .val (.int p2), .val (.int p3), z4, z5, z6, z7, z8, z9, .val (.ref am0), .val (.ref st0), z12, .val (.int sz), .val (.int (1 : Int32)), z15] [])) _
          refine XS.aload X2.here hx rfl (hb hby at_263) rfl rfl ?_
          show Steps p.tables e below (T2.setTop (mkF m 265 #[.val (.int p0), .val (.int p1), .val (.int p2), .val (.int p3), z4, z5, z6, z7, z8, z9, .val (.ref am0), .val (.ref st0), z12, .val (.int sz), .val (.int (1 : Int32)), z15] [(.ref st0)])) _
          refine XS.iconst X2.here hx rfl (hb hby at_265) ?_
          exact kt
        obtain ⟨cq5, kq5, q5a, q5b, q5c⟩ := isOf hZ eq2 ISt.1
        obtain ⟨_, _, ⟨T5, L5, k5, n5⟩, -, X5, ⟨Lc5, hQ5, l5, y5, z5⟩, st5⟩ := X2.virtualBack hx (y := (⟨"com/example/slotpack/slotpack/IndexSet", "get", "(I)I"⟩ : MethodName)) (z := (⟨"com/example/slotpack/slotpack/IndexSet", "get", "(I)I"⟩ : MethodName)) hown (mvT hZ (hw _ (List.mem_of_getElem? (i := 48) rfl))) (mvT hZ (hw _ (List.mem_of_getElem? (i := 49) rfl))) (notFace_of_selects (args := #[]) (mvT hZ (hw _ (List.mem_of_getElem? (i := 51) rfl)))) (mvT hZ (hw _ (List.mem_of_getElem? (i := 51) rfl))) (mvT hZ (hw _ (List.mem_of_getElem? (i := 50) rfl))) (by decide) (backOf (W := 0) (rm10 l Z a0 hw [] st0 (1 : Int32)  am ap ka kp D ht n0 Zt ISt geo (by decide)) hZ (hw _ (List.mem_of_getElem? (i := 52) rfl)) (hw _ (List.mem_of_getElem? (i := 4) rfl)) (by decide) (by decide)) q5a q5c (g := (mkF m 266 #[.val (.int p0), .val (.int p1), .val (.int p2), .val (.int p3), z4, z5, z6, z7, z8, z9, .val (.ref am0), .val (.ref st0), z12, .val (.int sz), .val (.int (1 : Int32)), z15] [(.int (1 : Int32)), (.ref st0)])) rfl (by rw [hml]; rfl) (Steps.refl _) (argsL := [(.int (1 : Int32))]) (rest := []) (lenOf own_pd4 rfl) rfl (by show 2 * 0 + _ ≤ _; exact Nat.le_of_eq rfl) (hb hby at_266) (fun _ _ => ⟨rfl, eq2, (by decide : 4 + 0 ≤ _), (by decide : 12 + 0 ≤ _)⟩)
        dsimp only [Pt.U, Pt.locs, Pt.cells, Pt.slots] at X5 l5 y5 z5 st5 hQ5
        subst l5 y5 z5
        obtain ⟨rfl, Nq5, eq5⟩ := hQ5
        have N5 := Fr.app N2 Nq5
        refine own_tr st5 ?_
        show own_Gl _ _ _ _ _ _ _ _ (T5.setTop (mkF m 269 #[.val (.int p0), .val (.int p1), .val (.int p2), .val (.int p3), z4, z5, z6, z7, z8, z9, .val (.ref am0), .val (.ref st0), z12, .val (.int sz), .val (.int (1 : Int32)), z15] [(.int (own_at D.1 (1 : Int32)))]))
        refine own_st (A' := T5.setTop (mkF m 272 #[.val (.int p0), .val (.int p1), .val (.int p2), .val (.int p3), z4, z5, z6, z7, z8, z9, .val (.ref am0), .val (.ref st0), z12, .val (.int sz), .val (.int (1 : Int32)), z15] [(.int (1 : Int32)), (.ref am0), (.int (own_at D.1 (1 : Int32)))])) (fun tg kt => ?_) ?_
        · show Steps p.tables e below (T5.setTop (mkF m 269 #[.val (.int p0), .val (.int p1), .val (.int p2), .val (.int p3), z4, z5, z6, z7, z8, z9, .val (.ref am0), .val (.ref st0), z12, .val (.int sz), .val (.int (1 : Int32)), z15] [(.int (own_at D.1 (1 : Int32)))])) _
          refine XS.aload X5.here hx rfl (hb hby at_269) rfl rfl ?_
          show Steps p.tables e below (T5.setTop (mkF m 271 #[.val (.int p0), .val (.int p1), .val (.int p2), .val (.int p3), z4, z5, z6, z7, z8, z9, .val (.ref am0), .val (.ref st0), z12, .val (.int sz), .val (.int (1 : Int32)), z15] [(.ref am0), (.int (own_at D.1 (1 : Int32)))])) _
          refine XS.iconst X5.here hx rfl (hb hby at_271) ?_
          exact kt
        obtain ⟨cl6, Ar6, hin6, hat6⟩ := own_ai_ld Vt (j := (1 : Int32)) (by decide)
        refine own_st (A' := T5.setTop (mkF m 291 #[.val (.int p0), .val (.int p1), .val (.int p2), .val (.int p3), z4, z5, z6, z7, z8, z9, .val (.ref am0), .val (.ref st0), z12, .val (.int sz), .val (.int (1 : Int32)), z15] [(.int (0 : Int32)), (.ref st0)])) (fun tg kt => ?_) ?_
        · show Steps p.tables e below (T5.setTop (mkF m 272 #[.val (.int p0), .val (.int p1), .val (.int p2), .val (.int p3), z4, z5, z6, z7, z8, z9, .val (.ref am0), .val (.ref st0), z12, .val (.int sz), .val (.int (1 : Int32)), z15] [(.int (1 : Int32)), (.ref am0), (.int (own_at D.1 (1 : Int32)))])) _
          refine X5.iaload hx (j := (1 : Int32)) (v := (.int (own_at mm (1 : Int32)))) (own_at_heap eq5 Ar6.1) (State.isArrayOf_alike hZ.alike Ar6.2.1) Ar6.2.2 hin6 hat6 (g := (mkF m 272 #[.val (.int p0), .val (.int p1), .val (.int p2), .val (.int p3), z4, z5, z6, z7, z8, z9, .val (.ref am0), .val (.ref st0), z12, .val (.int sz), .val (.int (1 : Int32)), z15] [(.int (1 : Int32)), (.ref am0), (.int (own_at D.1 (1 : Int32)))])) rfl rfl (hb hby at_272) _ ?_
          show Steps p.tables e below (T5.setTop (mkF m 273 #[.val (.int p0), .val (.int p1), .val (.int p2), .val (.int p3), z4, z5, z6, z7, z8, z9, .val (.ref am0), .val (.ref st0), z12, .val (.int sz), .val (.int (1 : Int32)), z15] [(.int (own_at mm (1 : Int32))), (.int (own_at D.1 (1 : Int32)))])) _
          refine XS.icmpNo X5.here hx rfl (hb hby at_273) rfl (teq (hf.2.2.1 hc255_4 : (own_at D.1 (1 : Int32)) = (own_at mm (1 : Int32)))).2 ?_
          show Steps p.tables e below (T5.setTop (mkF m 276 #[.val (.int p0), .val (.int p1), .val (.int p2), .val (.int p3), z4, z5, z6, z7, z8, z9, .val (.ref am0), .val (.ref st0), z12, .val (.int sz), .val (.int (1 : Int32)), z15] [])) _
          refine XS.iconst X5.here hx rfl (hb hby at_276) ?_
          show Steps p.tables e below (T5.setTop (mkF m 277 #[.val (.int p0), .val (.int p1), .val (.int p2), .val (.int p3), z4, z5, z6, z7, z8, z9, .val (.ref am0), .val (.ref st0), z12, .val (.int sz), .val (.int (1 : Int32)), z15] [(.int (1 : Int32))])) _
          refine XS.goto X5.here hx rfl (pc0 := 277) (pc' := 281) rfl (hb hby at_277) (by decide) (by decide) ?_
          show Steps p.tables e below (T5.setTop (mkF m 281 #[.val (.int p0), .val (.int p1), .val (.int p2), .val (.int p3), z4, z5, z6, z7, z8, z9, .val (.ref am0), .val (.ref st0), z12, .val (.int sz), .val (.int (1 : Int32)), z15] [(.int (1 : Int32))])) _
          refine XS.istore X5.here hx rfl (hb hby at_281) rfl (l' := #[.val (.int p0), .val (.int p1), .val (.int p2), .val (.int p3), z4, z5, z6, z7, z8, z9, .val (.ref am0), .val (.ref st0), z12, .val (.int sz), .val (.int (1 : Int32)), z15]) rfl ?_
          show Steps p.tables e below (T5.setTop (mkF m 283 #[.val (.int p0), .val (.int p1), .val (.int p2), .val (.int p3), z4, z5, z6, z7, z8, z9, .val (.ref am0), .val (.ref st0), z12, .val (.int sz), .val (.int (1 : Int32)), z15] [])) _
          refine XS.iload X5.here hx rfl (hb hby at_283) rfl ?_
          show Steps p.tables e below (T5.setTop (mkF m 285 #[.val (.int p0), .val (.int p1), .val (.int p2), .val (.int p3), z4, z5, z6, z7, z8, z9, .val (.ref am0), .val (.ref st0), z12, .val (.int sz), .val (.int (1 : Int32)), z15] [(.int (1 : Int32))])) _
          refine XS.ifNo X5.here hx rfl (hb hby at_285) rfl ((if0 _ _).trans (feq ((by decide) : ¬ ((1 : Int32) = (0 : Int32)))).1) ?_
          show Steps p.tables e below (T5.setTop (mkF m 288 #[.val (.int p0), .val (.int p1), .val (.int p2), .val (.int p3), z4, z5, z6, z7, z8, z9, .val (.ref am0), .val (.ref st0), z12, .val (.int sz), .val (.int (1 : Int32)), z15] [])) _
          refine XS.aload X5.here hx rfl (hb hby at_288) rfl rfl ?_
          show Steps p.tables e below (T5.setTop (mkF m 290 #[.val (.int p0), .val (.int p1), .val (.int p2), .val (.int p3), z4, z5, z6, z7, z8, z9, .val (.ref am0), .val (.ref st0), z12, .val (.int sz), .val (.int (1 : Int32)), z15] [(.ref st0)])) _
          refine XS.iconst X5.here hx rfl (hb hby at_290) ?_
          exact kt
        obtain ⟨cq7, kq7, q7a, q7b, q7c⟩ := isOf hZ eq5 ISt.1
        obtain ⟨_, _, ⟨T7, L7, k7, n7⟩, -, X7, ⟨Lc7, hQ7, l7, y7, z7⟩, st7⟩ := X5.virtualBack hx (y := (⟨"com/example/slotpack/slotpack/IndexSet", "contains", "(I)Z"⟩ : MethodName)) (z := (⟨"com/example/slotpack/slotpack/IndexSet", "contains", "(I)Z"⟩ : MethodName)) hown (mvT hZ (hw _ (List.mem_of_getElem? (i := 40) rfl))) (mvT hZ (hw _ (List.mem_of_getElem? (i := 41) rfl))) (notFace_of_selects (args := #[]) (mvT hZ (hw _ (List.mem_of_getElem? (i := 43) rfl)))) (mvT hZ (hw _ (List.mem_of_getElem? (i := 43) rfl))) (mvT hZ (hw _ (List.mem_of_getElem? (i := 42) rfl))) (by decide) (backOf (W := 0) (rm8 l Z a0 hw [] st0 (0 : Int32)  am ap ka kp D ht n0 Zt ISt geo (by decide)) hZ (hw _ (List.mem_of_getElem? (i := 44) rfl)) (hw _ (List.mem_of_getElem? (i := 4) rfl)) (by decide) (by decide)) q7a q7c (g := (mkF m 291 #[.val (.int p0), .val (.int p1), .val (.int p2), .val (.int p3), z4, z5, z6, z7, z8, z9, .val (.ref am0), .val (.ref st0), z12, .val (.int sz), .val (.int (1 : Int32)), z15] [(.int (0 : Int32)), (.ref st0)])) rfl (by rw [hml]; rfl) (Steps.refl _) (argsL := [(.int (0 : Int32))]) (rest := []) (lenOf own_pd5 rfl) rfl (by show 2 * 0 + _ ≤ _; exact Nat.le_of_eq rfl) (hb hby at_291) (fun _ _ => ⟨rfl, eq5, (by decide : 4 + 0 ≤ _), (by decide : 12 + 0 ≤ _)⟩)
        dsimp only [Pt.U, Pt.locs, Pt.cells, Pt.slots] at X7 l7 y7 z7 st7 hQ7
        subst l7 y7 z7
        obtain ⟨rfl, Nq7, eq7⟩ := hQ7
        have N7 := Fr.app N5 Nq7
        refine own_tr st7 ?_
        show own_Gl _ _ _ _ _ _ _ _ (T7.setTop (mkF m 294 #[.val (.int p0), .val (.int p1), .val (.int p2), .val (.int p3), z4, z5, z6, z7, z8, z9, .val (.ref am0), .val (.ref st0), z12, .val (.int sz), .val (.int (1 : Int32)), z15] [(.int (own_con D.2.1 (0 : Int32)))]))
        refine own_st (A' := T7.setTop (mkF m 299 #[.val (.int p0), .val (.int p1), .val (.int p2), .val (.int p3), z4, z5, z6, z7, z8, z9, .val (.ref am0), .val (.ref st0), z12, .val (.int sz), .val (.int (1 : Int32)), z15] [(.int (0 : Int32)), (.int sz), (.ref am0), (.int (own_con D.2.1 (0 : Int32)))])) (fun tg kt => ?_) ?_
        · show Steps p.tables e below (T7.setTop (mkF m 294 #[.val (.int p0), .val (.int p1), .val (.int p2), .val (.int p3), z4, z5, z6, z7, z8, z9, .val (.ref am0), .val (.ref st0), z12, .val (.int sz), .val (.int (1 : Int32)), z15] [(.int (own_con D.2.1 (0 : Int32)))])) _
          refine XS.aload X7.here hx rfl (hb hby at_294) rfl rfl ?_
          show Steps p.tables e below (T7.setTop (mkF m 296 #[.val (.int p0), .val (.int p1), .val (.int p2), .val (.int p3), z4, z5, z6, z7, z8, z9, .val (.ref am0), .val (.ref st0), z12, .val (.int sz), .val (.int (1 : Int32)), z15] [(.ref am0), (.int (own_con D.2.1 (0 : Int32)))])) _
          refine XS.iload X7.here hx rfl (hb hby at_296) rfl ?_
          show Steps p.tables e below (T7.setTop (mkF m 298 #[.val (.int p0), .val (.int p1), .val (.int p2), .val (.int p3), z4, z5, z6, z7, z8, z9, .val (.ref am0), .val (.ref st0), z12, .val (.int sz), .val (.int (1 : Int32)), z15] [(.int sz), (.ref am0), (.int (own_con D.2.1 (0 : Int32)))])) _
          refine XS.iconst X7.here hx rfl (hb hby at_298) ?_
          exact kt
        obtain ⟨_, _, ⟨T8, L8, k8, n8⟩, -, X8, ⟨Lc8, hQ8, l8, y8, z8⟩, st8⟩ := Jvm.LawKit.callS X7 hx (y := (⟨"com/example/slotpack/slotpack/IndexSetRemovePinLaw", "inSet", "([III)Z"⟩ : MethodName)) hown (mvT hZ (hw _ (List.mem_of_getElem? (i := 45) rfl))) (mvT hZ (hw _ (List.mem_of_getElem? (i := 46) rfl))) (mvT hZ (hw _ (List.mem_of_getElem? (i := 33) rfl))) (mvT hZ (hw _ (List.mem_of_getElem? (i := 47) rfl))) (by decide) (backOf (W := 1) (rm9 l Z a0 hw [] am0 sz (0 : Int32) km mm ht n0 Zt Vt gm) hZ (hw _ (List.mem_of_getElem? (i := 47) rfl)) (hw _ (List.mem_of_getElem? (i := 33) rfl)) (by decide) (by decide)) (g := (mkF m 299 #[.val (.int p0), .val (.int p1), .val (.int p2), .val (.int p3), z4, z5, z6, z7, z8, z9, .val (.ref am0), .val (.ref st0), z12, .val (.int sz), .val (.int (1 : Int32)), z15] [(.int (0 : Int32)), (.int sz), (.ref am0), (.int (own_con D.2.1 (0 : Int32)))])) rfl (by rw [hml]; rfl) (argsL := [(.ref am0), (.int sz), (.int (0 : Int32))]) (rest := [(.int (own_con D.2.1 (0 : Int32)))]) (lenOf own_pd6 rfl) rfl (by show 2 * 0 + _ ≤ _; exact Nat.le_of_eq rfl) (hb hby at_299) (fun _ _ => ⟨rfl, eq7, (by decide : 4 + 0 ≤ _), (by decide : 12 + 0 ≤ _)⟩)
        dsimp only [Pt.U, Pt.locs, Pt.cells, Pt.slots] at X8 l8 y8 z8 st8 hQ8
        subst l8 y8 z8
        obtain ⟨rfl, Nq8, eq8⟩ := hQ8
        have N8 := Fr.app N7 Nq8
        refine own_st st8 ?_
        show own_Gl _ _ _ _ _ _ _ _ (T8.setTop (mkF m 302 #[.val (.int p0), .val (.int p1), .val (.int p2), .val (.int p3), z4, z5, z6, z7, z8, z9, .val (.ref am0), .val (.ref st0), z12, .val (.int sz), .val (.int (1 : Int32)), z15] [(.int (own_ins mm sz (0 : Int32))), (.int (own_con D.2.1 (0 : Int32)))]))
        refine own_st (A' := T8.setTop (mkF m 320 #[.val (.int p0), .val (.int p1), .val (.int p2), .val (.int p3), z4, z5, z6, z7, z8, z9, .val (.ref am0), .val (.ref st0), z12, .val (.int sz), .val (.int (1 : Int32)), z15] [(.int (1 : Int32)), (.ref st0)])) (fun tg kt => ?_) ?_
        · show Steps p.tables e below (T8.setTop (mkF m 302 #[.val (.int p0), .val (.int p1), .val (.int p2), .val (.int p3), z4, z5, z6, z7, z8, z9, .val (.ref am0), .val (.ref st0), z12, .val (.int sz), .val (.int (1 : Int32)), z15] [(.int (own_ins mm sz (0 : Int32))), (.int (own_con D.2.1 (0 : Int32)))])) _
          refine XS.icmpNo X8.here hx rfl (hb hby at_302) rfl (teq (hf.2.2.2.1 : (own_con D.2.1 (0 : Int32)) = (own_ins mm sz (0 : Int32)))).2 ?_
          show Steps p.tables e below (T8.setTop (mkF m 305 #[.val (.int p0), .val (.int p1), .val (.int p2), .val (.int p3), z4, z5, z6, z7, z8, z9, .val (.ref am0), .val (.ref st0), z12, .val (.int sz), .val (.int (1 : Int32)), z15] [])) _
          refine XS.iconst X8.here hx rfl (hb hby at_305) ?_
          show Steps p.tables e below (T8.setTop (mkF m 306 #[.val (.int p0), .val (.int p1), .val (.int p2), .val (.int p3), z4, z5, z6, z7, z8, z9, .val (.ref am0), .val (.ref st0), z12, .val (.int sz), .val (.int (1 : Int32)), z15] [(.int (1 : Int32))])) _
          refine XS.goto X8.here hx rfl (pc0 := 306) (pc' := 310) rfl (hb hby at_306) (by decide) (by decide) ?_
          show Steps p.tables e below (T8.setTop (mkF m 310 #[.val (.int p0), .val (.int p1), .val (.int p2), .val (.int p3), z4, z5, z6, z7, z8, z9, .val (.ref am0), .val (.ref st0), z12, .val (.int sz), .val (.int (1 : Int32)), z15] [(.int (1 : Int32))])) _
          refine XS.istore X8.here hx rfl (hb hby at_310) rfl (l' := #[.val (.int p0), .val (.int p1), .val (.int p2), .val (.int p3), z4, z5, z6, z7, z8, z9, .val (.ref am0), .val (.ref st0), z12, .val (.int sz), .val (.int (1 : Int32)), z15]) rfl ?_
          show Steps p.tables e below (T8.setTop (mkF m 312 #[.val (.int p0), .val (.int p1), .val (.int p2), .val (.int p3), z4, z5, z6, z7, z8, z9, .val (.ref am0), .val (.ref st0), z12, .val (.int sz), .val (.int (1 : Int32)), z15] [])) _
          refine XS.iload X8.here hx rfl (hb hby at_312) rfl ?_
          show Steps p.tables e below (T8.setTop (mkF m 314 #[.val (.int p0), .val (.int p1), .val (.int p2), .val (.int p3), z4, z5, z6, z7, z8, z9, .val (.ref am0), .val (.ref st0), z12, .val (.int sz), .val (.int (1 : Int32)), z15] [(.int (1 : Int32))])) _
          refine XS.ifNo X8.here hx rfl (hb hby at_314) rfl ((if0 _ _).trans (feq ((by decide) : ¬ ((1 : Int32) = (0 : Int32)))).1) ?_
          show Steps p.tables e below (T8.setTop (mkF m 317 #[.val (.int p0), .val (.int p1), .val (.int p2), .val (.int p3), z4, z5, z6, z7, z8, z9, .val (.ref am0), .val (.ref st0), z12, .val (.int sz), .val (.int (1 : Int32)), z15] [])) _
          refine XS.aload X8.here hx rfl (hb hby at_317) rfl rfl ?_
          show Steps p.tables e below (T8.setTop (mkF m 319 #[.val (.int p0), .val (.int p1), .val (.int p2), .val (.int p3), z4, z5, z6, z7, z8, z9, .val (.ref am0), .val (.ref st0), z12, .val (.int sz), .val (.int (1 : Int32)), z15] [(.ref st0)])) _
          refine XS.iconst X8.here hx rfl (hb hby at_319) ?_
          exact kt
        obtain ⟨cq9, kq9, q9a, q9b, q9c⟩ := isOf hZ eq8 ISt.1
        obtain ⟨_, _, ⟨T9, L9, k9, n9⟩, -, X9, ⟨Lc9, hQ9, l9, y9, z9⟩, st9⟩ := X8.virtualBack hx (y := (⟨"com/example/slotpack/slotpack/IndexSet", "contains", "(I)Z"⟩ : MethodName)) (z := (⟨"com/example/slotpack/slotpack/IndexSet", "contains", "(I)Z"⟩ : MethodName)) hown (mvT hZ (hw _ (List.mem_of_getElem? (i := 40) rfl))) (mvT hZ (hw _ (List.mem_of_getElem? (i := 41) rfl))) (notFace_of_selects (args := #[]) (mvT hZ (hw _ (List.mem_of_getElem? (i := 43) rfl)))) (mvT hZ (hw _ (List.mem_of_getElem? (i := 43) rfl))) (mvT hZ (hw _ (List.mem_of_getElem? (i := 42) rfl))) (by decide) (backOf (W := 0) (rm8 l Z a0 hw [] st0 (1 : Int32)  am ap ka kp D ht n0 Zt ISt geo (by decide)) hZ (hw _ (List.mem_of_getElem? (i := 44) rfl)) (hw _ (List.mem_of_getElem? (i := 4) rfl)) (by decide) (by decide)) q9a q9c (g := (mkF m 320 #[.val (.int p0), .val (.int p1), .val (.int p2), .val (.int p3), z4, z5, z6, z7, z8, z9, .val (.ref am0), .val (.ref st0), z12, .val (.int sz), .val (.int (1 : Int32)), z15] [(.int (1 : Int32)), (.ref st0)])) rfl (by rw [hml]; rfl) (Steps.refl _) (argsL := [(.int (1 : Int32))]) (rest := []) (lenOf own_pd5 rfl) rfl (by show 2 * 0 + _ ≤ _; exact Nat.le_of_eq rfl) (hb hby at_320) (fun _ _ => ⟨rfl, eq8, (by decide : 4 + 0 ≤ _), (by decide : 12 + 0 ≤ _)⟩)
        dsimp only [Pt.U, Pt.locs, Pt.cells, Pt.slots] at X9 l9 y9 z9 st9 hQ9
        subst l9 y9 z9
        obtain ⟨rfl, Nq9, eq9⟩ := hQ9
        have N9 := Fr.app N8 Nq9
        refine own_tr st9 ?_
        show own_Gl _ _ _ _ _ _ _ _ (T9.setTop (mkF m 323 #[.val (.int p0), .val (.int p1), .val (.int p2), .val (.int p3), z4, z5, z6, z7, z8, z9, .val (.ref am0), .val (.ref st0), z12, .val (.int sz), .val (.int (1 : Int32)), z15] [(.int (own_con D.2.1 (1 : Int32)))]))
        refine own_st (A' := T9.setTop (mkF m 328 #[.val (.int p0), .val (.int p1), .val (.int p2), .val (.int p3), z4, z5, z6, z7, z8, z9, .val (.ref am0), .val (.ref st0), z12, .val (.int sz), .val (.int (1 : Int32)), z15] [(.int (1 : Int32)), (.int sz), (.ref am0), (.int (own_con D.2.1 (1 : Int32)))])) (fun tg kt => ?_) ?_
        · show Steps p.tables e below (T9.setTop (mkF m 323 #[.val (.int p0), .val (.int p1), .val (.int p2), .val (.int p3), z4, z5, z6, z7, z8, z9, .val (.ref am0), .val (.ref st0), z12, .val (.int sz), .val (.int (1 : Int32)), z15] [(.int (own_con D.2.1 (1 : Int32)))])) _
          refine XS.aload X9.here hx rfl (hb hby at_323) rfl rfl ?_
          show Steps p.tables e below (T9.setTop (mkF m 325 #[.val (.int p0), .val (.int p1), .val (.int p2), .val (.int p3), z4, z5, z6, z7, z8, z9, .val (.ref am0), .val (.ref st0), z12, .val (.int sz), .val (.int (1 : Int32)), z15] [(.ref am0), (.int (own_con D.2.1 (1 : Int32)))])) _
          refine XS.iload X9.here hx rfl (hb hby at_325) rfl ?_
          show Steps p.tables e below (T9.setTop (mkF m 327 #[.val (.int p0), .val (.int p1), .val (.int p2), .val (.int p3), z4, z5, z6, z7, z8, z9, .val (.ref am0), .val (.ref st0), z12, .val (.int sz), .val (.int (1 : Int32)), z15] [(.int sz), (.ref am0), (.int (own_con D.2.1 (1 : Int32)))])) _
          refine XS.iconst X9.here hx rfl (hb hby at_327) ?_
          exact kt
        obtain ⟨_, _, ⟨T10, L10, k10, n10⟩, -, X10, ⟨Lc10, hQ10, l10, y10, z10⟩, st10⟩ := Jvm.LawKit.callS X9 hx (y := (⟨"com/example/slotpack/slotpack/IndexSetRemovePinLaw", "inSet", "([III)Z"⟩ : MethodName)) hown (mvT hZ (hw _ (List.mem_of_getElem? (i := 45) rfl))) (mvT hZ (hw _ (List.mem_of_getElem? (i := 46) rfl))) (mvT hZ (hw _ (List.mem_of_getElem? (i := 33) rfl))) (mvT hZ (hw _ (List.mem_of_getElem? (i := 47) rfl))) (by decide) (backOf (W := 1) (rm9 l Z a0 hw [] am0 sz (1 : Int32) km mm ht n0 Zt Vt gm) hZ (hw _ (List.mem_of_getElem? (i := 47) rfl)) (hw _ (List.mem_of_getElem? (i := 33) rfl)) (by decide) (by decide)) (g := (mkF m 328 #[.val (.int p0), .val (.int p1), .val (.int p2), .val (.int p3), z4, z5, z6, z7, z8, z9, .val (.ref am0), .val (.ref st0), z12, .val (.int sz), .val (.int (1 : Int32)), z15] [(.int (1 : Int32)), (.int sz), (.ref am0), (.int (own_con D.2.1 (1 : Int32)))])) rfl (by rw [hml]; rfl) (argsL := [(.ref am0), (.int sz), (.int (1 : Int32))]) (rest := [(.int (own_con D.2.1 (1 : Int32)))]) (lenOf own_pd6 rfl) rfl (by show 2 * 0 + _ ≤ _; exact Nat.le_of_eq rfl) (hb hby at_328) (fun _ _ => ⟨rfl, eq9, (by decide : 4 + 0 ≤ _), (by decide : 12 + 0 ≤ _)⟩)
        dsimp only [Pt.U, Pt.locs, Pt.cells, Pt.slots] at X10 l10 y10 z10 st10 hQ10
        subst l10 y10 z10
        obtain ⟨rfl, Nq10, eq10⟩ := hQ10
        have N10 := Fr.app N9 Nq10
        refine own_st st10 ?_
        show own_Gl _ _ _ _ _ _ _ _ (T10.setTop (mkF m 331 #[.val (.int p0), .val (.int p1), .val (.int p2), .val (.int p3), z4, z5, z6, z7, z8, z9, .val (.ref am0), .val (.ref st0), z12, .val (.int sz), .val (.int (1 : Int32)), z15] [(.int (own_ins mm sz (1 : Int32))), (.int (own_con D.2.1 (1 : Int32)))]))
        refine own_st (A' := T10.setTop (mkF m 349 #[.val (.int p0), .val (.int p1), .val (.int p2), .val (.int p3), z4, z5, z6, z7, z8, z9, .val (.ref am0), .val (.ref st0), z12, .val (.int sz), .val (.int (1 : Int32)), z15] [(.int (2 : Int32)), (.ref st0)])) (fun tg kt => ?_) ?_
        · show Steps p.tables e below (T10.setTop (mkF m 331 #[.val (.int p0), .val (.int p1), .val (.int p2), .val (.int p3), z4, z5, z6, z7, z8, z9, .val (.ref am0), .val (.ref st0), z12, .val (.int sz), .val (.int (1 : Int32)), z15] [(.int (own_ins mm sz (1 : Int32))), (.int (own_con D.2.1 (1 : Int32)))])) _
          refine XS.icmpNo X10.here hx rfl (hb hby at_331) rfl (teq (hf.2.2.2.2.1 : (own_con D.2.1 (1 : Int32)) = (own_ins mm sz (1 : Int32)))).2 ?_
          show Steps p.tables e below (T10.setTop (mkF m 334 #[.val (.int p0), .val (.int p1), .val (.int p2), .val (.int p3), z4, z5, z6, z7, z8, z9, .val (.ref am0), .val (.ref st0), z12, .val (.int sz), .val (.int (1 : Int32)), z15] [])) _
          refine XS.iconst X10.here hx rfl (hb hby at_334) ?_
          show Steps p.tables e below (T10.setTop (mkF m 335 #[.val (.int p0), .val (.int p1), .val (.int p2), .val (.int p3), z4, z5, z6, z7, z8, z9, .val (.ref am0), .val (.ref st0), z12, .val (.int sz), .val (.int (1 : Int32)), z15] [(.int (1 : Int32))])) _
          refine XS.goto X10.here hx rfl (pc0 := 335) (pc' := 339) rfl (hb hby at_335) (by decide) (by decide) ?_
          show Steps p.tables e below (T10.setTop (mkF m 339 #[.val (.int p0), .val (.int p1), .val (.int p2), .val (.int p3), z4, z5, z6, z7, z8, z9, .val (.ref am0), .val (.ref st0), z12, .val (.int sz), .val (.int (1 : Int32)), z15] [(.int (1 : Int32))])) _
          refine XS.istore X10.here hx rfl (hb hby at_339) rfl (l' := #[.val (.int p0), .val (.int p1), .val (.int p2), .val (.int p3), z4, z5, z6, z7, z8, z9, .val (.ref am0), .val (.ref st0), z12, .val (.int sz), .val (.int (1 : Int32)), z15]) rfl ?_
          show Steps p.tables e below (T10.setTop (mkF m 341 #[.val (.int p0), .val (.int p1), .val (.int p2), .val (.int p3), z4, z5, z6, z7, z8, z9, .val (.ref am0), .val (.ref st0), z12, .val (.int sz), .val (.int (1 : Int32)), z15] [])) _
          refine XS.iload X10.here hx rfl (hb hby at_341) rfl ?_
          show Steps p.tables e below (T10.setTop (mkF m 343 #[.val (.int p0), .val (.int p1), .val (.int p2), .val (.int p3), z4, z5, z6, z7, z8, z9, .val (.ref am0), .val (.ref st0), z12, .val (.int sz), .val (.int (1 : Int32)), z15] [(.int (1 : Int32))])) _
          refine XS.ifNo X10.here hx rfl (hb hby at_343) rfl ((if0 _ _).trans (feq ((by decide) : ¬ ((1 : Int32) = (0 : Int32)))).1) ?_
          show Steps p.tables e below (T10.setTop (mkF m 346 #[.val (.int p0), .val (.int p1), .val (.int p2), .val (.int p3), z4, z5, z6, z7, z8, z9, .val (.ref am0), .val (.ref st0), z12, .val (.int sz), .val (.int (1 : Int32)), z15] [])) _
          refine XS.aload X10.here hx rfl (hb hby at_346) rfl rfl ?_
          show Steps p.tables e below (T10.setTop (mkF m 348 #[.val (.int p0), .val (.int p1), .val (.int p2), .val (.int p3), z4, z5, z6, z7, z8, z9, .val (.ref am0), .val (.ref st0), z12, .val (.int sz), .val (.int (1 : Int32)), z15] [(.ref st0)])) _
          refine XS.iconst X10.here hx rfl (hb hby at_348) ?_
          exact kt
        obtain ⟨cq11, kq11, q11a, q11b, q11c⟩ := isOf hZ eq10 ISt.1
        obtain ⟨_, _, ⟨T11, L11, k11, n11⟩, -, X11, ⟨Lc11, hQ11, l11, y11, z11⟩, st11⟩ := X10.virtualBack hx (y := (⟨"com/example/slotpack/slotpack/IndexSet", "contains", "(I)Z"⟩ : MethodName)) (z := (⟨"com/example/slotpack/slotpack/IndexSet", "contains", "(I)Z"⟩ : MethodName)) hown (mvT hZ (hw _ (List.mem_of_getElem? (i := 40) rfl))) (mvT hZ (hw _ (List.mem_of_getElem? (i := 41) rfl))) (notFace_of_selects (args := #[]) (mvT hZ (hw _ (List.mem_of_getElem? (i := 43) rfl)))) (mvT hZ (hw _ (List.mem_of_getElem? (i := 43) rfl))) (mvT hZ (hw _ (List.mem_of_getElem? (i := 42) rfl))) (by decide) (backOf (W := 0) (rm8 l Z a0 hw [] st0 (2 : Int32)  am ap ka kp D ht n0 Zt ISt geo (by decide)) hZ (hw _ (List.mem_of_getElem? (i := 44) rfl)) (hw _ (List.mem_of_getElem? (i := 4) rfl)) (by decide) (by decide)) q11a q11c (g := (mkF m 349 #[.val (.int p0), .val (.int p1), .val (.int p2), .val (.int p3), z4, z5, z6, z7, z8, z9, .val (.ref am0), .val (.ref st0), z12, .val (.int sz), .val (.int (1 : Int32)), z15] [(.int (2 : Int32)), (.ref st0)])) rfl (by rw [hml]; rfl) (Steps.refl _) (argsL := [(.int (2 : Int32))]) (rest := []) (lenOf own_pd5 rfl) rfl (by show 2 * 0 + _ ≤ _; exact Nat.le_of_eq rfl) (hb hby at_349) (fun _ _ => ⟨rfl, eq10, (by decide : 4 + 0 ≤ _), (by decide : 12 + 0 ≤ _)⟩)
        dsimp only [Pt.U, Pt.locs, Pt.cells, Pt.slots] at X11 l11 y11 z11 st11 hQ11
        subst l11 y11 z11
        obtain ⟨rfl, Nq11, eq11⟩ := hQ11
        have N11 := Fr.app N10 Nq11
        refine own_tr st11 ?_
        show own_Gl _ _ _ _ _ _ _ _ (T11.setTop (mkF m 352 #[.val (.int p0), .val (.int p1), .val (.int p2), .val (.int p3), z4, z5, z6, z7, z8, z9, .val (.ref am0), .val (.ref st0), z12, .val (.int sz), .val (.int (1 : Int32)), z15] [(.int (own_con D.2.1 (2 : Int32)))]))
        refine own_st (A' := T11.setTop (mkF m 357 #[.val (.int p0), .val (.int p1), .val (.int p2), .val (.int p3), z4, z5, z6, z7, z8, z9, .val (.ref am0), .val (.ref st0), z12, .val (.int sz), .val (.int (1 : Int32)), z15] [(.int (2 : Int32)), (.int sz), (.ref am0), (.int (own_con D.2.1 (2 : Int32)))])) (fun tg kt => ?_) ?_
        · show Steps p.tables e below (T11.setTop (mkF m 352 #[.val (.int p0), .val (.int p1), .val (.int p2), .val (.int p3), z4, z5, z6, z7, z8, z9, .val (.ref am0), .val (.ref st0), z12, .val (.int sz), .val (.int (1 : Int32)), z15] [(.int (own_con D.2.1 (2 : Int32)))])) _
          refine XS.aload X11.here hx rfl (hb hby at_352) rfl rfl ?_
          show Steps p.tables e below (T11.setTop (mkF m 354 #[.val (.int p0), .val (.int p1), .val (.int p2), .val (.int p3), z4, z5, z6, z7, z8, z9, .val (.ref am0), .val (.ref st0), z12, .val (.int sz), .val (.int (1 : Int32)), z15] [(.ref am0), (.int (own_con D.2.1 (2 : Int32)))])) _
          refine XS.iload X11.here hx rfl (hb hby at_354) rfl ?_
          show Steps p.tables e below (T11.setTop (mkF m 356 #[.val (.int p0), .val (.int p1), .val (.int p2), .val (.int p3), z4, z5, z6, z7, z8, z9, .val (.ref am0), .val (.ref st0), z12, .val (.int sz), .val (.int (1 : Int32)), z15] [(.int sz), (.ref am0), (.int (own_con D.2.1 (2 : Int32)))])) _
          refine XS.iconst X11.here hx rfl (hb hby at_356) ?_
          exact kt
        obtain ⟨_, _, ⟨T12, L12, k12, n12⟩, -, X12, ⟨Lc12, hQ12, l12, y12, z12⟩, st12⟩ := Jvm.LawKit.callS X11 hx (y := (⟨"com/example/slotpack/slotpack/IndexSetRemovePinLaw", "inSet", "([III)Z"⟩ : MethodName)) hown (mvT hZ (hw _ (List.mem_of_getElem? (i := 45) rfl))) (mvT hZ (hw _ (List.mem_of_getElem? (i := 46) rfl))) (mvT hZ (hw _ (List.mem_of_getElem? (i := 33) rfl))) (mvT hZ (hw _ (List.mem_of_getElem? (i := 47) rfl))) (by decide) (backOf (W := 1) (rm9 l Z a0 hw [] am0 sz (2 : Int32) km mm ht n0 Zt Vt gm) hZ (hw _ (List.mem_of_getElem? (i := 47) rfl)) (hw _ (List.mem_of_getElem? (i := 33) rfl)) (by decide) (by decide)) (g := (mkF m 357 #[.val (.int p0), .val (.int p1), .val (.int p2), .val (.int p3), z4, z5, z6, z7, z8, z9, .val (.ref am0), .val (.ref st0), z12, .val (.int sz), .val (.int (1 : Int32)), z15] [(.int (2 : Int32)), (.int sz), (.ref am0), (.int (own_con D.2.1 (2 : Int32)))])) rfl (by rw [hml]; rfl) (argsL := [(.ref am0), (.int sz), (.int (2 : Int32))]) (rest := [(.int (own_con D.2.1 (2 : Int32)))]) (lenOf own_pd6 rfl) rfl (by show 2 * 0 + _ ≤ _; exact Nat.le_of_eq rfl) (hb hby at_357) (fun _ _ => ⟨rfl, eq11, (by decide : 4 + 0 ≤ _), (by decide : 12 + 0 ≤ _)⟩)
        dsimp only [Pt.U, Pt.locs, Pt.cells, Pt.slots] at X12 l12 y12 z12 st12 hQ12
        subst l12 y12 z12
        obtain ⟨rfl, Nq12, eq12⟩ := hQ12
        have N12 := Fr.app N11 Nq12
        refine own_st st12 ?_
        show own_Gl _ _ _ _ _ _ _ _ (T12.setTop (mkF m 360 #[.val (.int p0), .val (.int p1), .val (.int p2), .val (.int p3), z4, z5, z6, z7, z8, z9, .val (.ref am0), .val (.ref st0), z12, .val (.int sz), .val (.int (1 : Int32)), z15] [(.int (own_ins mm sz (2 : Int32))), (.int (own_con D.2.1 (2 : Int32)))]))
        refine own_st (A' := T12.setTop (mkF m 372 #[.val (.int p0), .val (.int p1), .val (.int p2), .val (.int p3), z4, z5, z6, z7, z8, z9, .val (.ref am0), .val (.ref st0), z12, .val (.int sz), .val (.int (1 : Int32)), z15] [(.int (1 : Int32))])) (fun tg kt => ?_) ?_
        · show Steps p.tables e below (T12.setTop (mkF m 360 #[.val (.int p0), .val (.int p1), .val (.int p2), .val (.int p3), z4, z5, z6, z7, z8, z9, .val (.ref am0), .val (.ref st0), z12, .val (.int sz), .val (.int (1 : Int32)), z15] [(.int (own_ins mm sz (2 : Int32))), (.int (own_con D.2.1 (2 : Int32)))])) _
          refine XS.icmpNo X12.here hx rfl (hb hby at_360) rfl (teq (hf.2.2.2.2.2 : (own_con D.2.1 (2 : Int32)) = (own_ins mm sz (2 : Int32)))).2 ?_
          show Steps p.tables e below (T12.setTop (mkF m 363 #[.val (.int p0), .val (.int p1), .val (.int p2), .val (.int p3), z4, z5, z6, z7, z8, z9, .val (.ref am0), .val (.ref st0), z12, .val (.int sz), .val (.int (1 : Int32)), z15] [])) _
          refine XS.iconst X12.here hx rfl (hb hby at_363) ?_
          show Steps p.tables e below (T12.setTop (mkF m 364 #[.val (.int p0), .val (.int p1), .val (.int p2), .val (.int p3), z4, z5, z6, z7, z8, z9, .val (.ref am0), .val (.ref st0), z12, .val (.int sz), .val (.int (1 : Int32)), z15] [(.int (1 : Int32))])) _
          refine XS.goto X12.here hx rfl (pc0 := 364) (pc' := 368) rfl (hb hby at_364) (by decide) (by decide) ?_
          show Steps p.tables e below (T12.setTop (mkF m 368 #[.val (.int p0), .val (.int p1), .val (.int p2), .val (.int p3), z4, z5, z6, z7, z8, z9, .val (.ref am0), .val (.ref st0), z12, .val (.int sz), .val (.int (1 : Int32)), z15] [(.int (1 : Int32))])) _
          refine XS.istore X12.here hx rfl (hb hby at_368) rfl (l' := #[.val (.int p0), .val (.int p1), .val (.int p2), .val (.int p3), z4, z5, z6, z7, z8, z9, .val (.ref am0), .val (.ref st0), z12, .val (.int sz), .val (.int (1 : Int32)), z15]) rfl ?_
          show Steps p.tables e below (T12.setTop (mkF m 370 #[.val (.int p0), .val (.int p1), .val (.int p2), .val (.int p3), z4, z5, z6, z7, z8, z9, .val (.ref am0), .val (.ref st0), z12, .val (.int sz), .val (.int (1 : Int32)), z15] [])) _
          refine XS.iload X12.here hx rfl (hb hby at_370) rfl ?_
          exact kt
        refine own_ret X12 (v := some (.int (1 : Int32))) (fun h => by rw [Bd.returns] at h; cases h) hlk (by decide) (by decide) ?_ (fun fs hr => ?_)
        · show Q0 Z p0 p1 p2 p3 h0 n0 (some (.int (1 : Int32))) T12.heap _
          rw [eq12]
          exact ⟨rfl, N12⟩
        · show Steps p.tables e below (T12.setTop (mkF m 372 #[.val (.int p0), .val (.int p1), .val (.int p2), .val (.int p3), z4, z5, z6, z7, z8, z9, .val (.ref am0), .val (.ref st0), z12, .val (.int sz), .val (.int (1 : Int32)), z15] [(.int (1 : Int32))])) _
          exact retN X12 hx (t := .boolean) Bd.returns (by simp) (hb hby at_372) hr
      · refine own_st (A' := T2.setTop (mkF m 291 #[.val (.int p0), .val (.int p1), .val (.int p2), .val (.int p3), z4, z5, z6, z7, z8, z9, .val (.ref am0), .val (.ref st0), z12, .val (.int sz), .val (.int (1 : Int32)), z15] [(.int (0 : Int32)), (.ref st0)])) (fun tg kt => ?_) ?_
        · show Steps p.tables e below (T2.setTop (mkF m 255 #[.val (.int p0), .val (.int p1), .val (.int p2), .val (.int p3), z4, z5, z6, z7, z8, z9, .val (.ref am0), .val (.ref st0), z12, .val (.int sz), .val (.int (1 : Int32)), z15] [(.int (1 : Int32)), (.int sz)])) _
          refine XS.icmpYes X2.here hx rfl (pc0 := 255) (pc' := 283) rfl (hb hby at_255) rfl (flt hc255_4).2.2.2 (by decide) (by decide) ?_
          show Steps p.tables e below (T2.setTop (mkF m 283 #[.val (.int p0), .val (.int p1), .val (.int p2), .val (.int p3), z4, z5, z6, z7, z8, z9, .val (.ref am0), .val (.ref st0), z12, .val (.int sz), .val (.int (1 : Int32)), z15] [])) _
          refine XS.iload X2.here hx rfl (hb hby at_283) rfl ?_
          show Steps p.tables e below (T2.setTop (mkF m 285 #[.val (.int p0), .val (.int p1), .val (.int p2), .val (.int p3), z4, z5, z6, z7, z8, z9, .val (.ref am0), .val (.ref st0), z12, .val (.int sz), .val (.int (1 : Int32)), z15] [(.int (1 : Int32))])) _
          refine XS.ifNo X2.here hx rfl (hb hby at_285) rfl ((if0 _ _).trans (feq ((by decide) : ¬ ((1 : Int32) = (0 : Int32)))).1) ?_
          show Steps p.tables e below (T2.setTop (mkF m 288 #[.val (.int p0), .val (.int p1), .val (.int p2), .val (.int p3), z4, z5, z6, z7, z8, z9, .val (.ref am0), .val (.ref st0), z12, .val (.int sz), .val (.int (1 : Int32)), z15] [])) _
          refine XS.aload X2.here hx rfl (hb hby at_288) rfl rfl ?_
          show Steps p.tables e below (T2.setTop (mkF m 290 #[.val (.int p0), .val (.int p1), .val (.int p2), .val (.int p3), z4, z5, z6, z7, z8, z9, .val (.ref am0), .val (.ref st0), z12, .val (.int sz), .val (.int (1 : Int32)), z15] [(.ref st0)])) _
          refine XS.iconst X2.here hx rfl (hb hby at_290) ?_
          exact kt
        obtain ⟨cq13, kq13, q13a, q13b, q13c⟩ := isOf hZ eq2 ISt.1
        obtain ⟨_, _, ⟨T13, L13, k13, n13⟩, -, X13, ⟨Lc13, hQ13, l13, y13, z13⟩, st13⟩ := X2.virtualBack hx (y := (⟨"com/example/slotpack/slotpack/IndexSet", "contains", "(I)Z"⟩ : MethodName)) (z := (⟨"com/example/slotpack/slotpack/IndexSet", "contains", "(I)Z"⟩ : MethodName)) hown (mvT hZ (hw _ (List.mem_of_getElem? (i := 40) rfl))) (mvT hZ (hw _ (List.mem_of_getElem? (i := 41) rfl))) (notFace_of_selects (args := #[]) (mvT hZ (hw _ (List.mem_of_getElem? (i := 43) rfl)))) (mvT hZ (hw _ (List.mem_of_getElem? (i := 43) rfl))) (mvT hZ (hw _ (List.mem_of_getElem? (i := 42) rfl))) (by decide) (backOf (W := 0) (rm8 l Z a0 hw [] st0 (0 : Int32)  am ap ka kp D ht n0 Zt ISt geo (by decide)) hZ (hw _ (List.mem_of_getElem? (i := 44) rfl)) (hw _ (List.mem_of_getElem? (i := 4) rfl)) (by decide) (by decide)) q13a q13c (g := (mkF m 291 #[.val (.int p0), .val (.int p1), .val (.int p2), .val (.int p3), z4, z5, z6, z7, z8, z9, .val (.ref am0), .val (.ref st0), z12, .val (.int sz), .val (.int (1 : Int32)), z15] [(.int (0 : Int32)), (.ref st0)])) rfl (by rw [hml]; rfl) (Steps.refl _) (argsL := [(.int (0 : Int32))]) (rest := []) (lenOf own_pd5 rfl) rfl (by show 2 * 0 + _ ≤ _; exact Nat.le_of_eq rfl) (hb hby at_291) (fun _ _ => ⟨rfl, eq2, (by decide : 4 + 0 ≤ _), (by decide : 12 + 0 ≤ _)⟩)
        dsimp only [Pt.U, Pt.locs, Pt.cells, Pt.slots] at X13 l13 y13 z13 st13 hQ13
        subst l13 y13 z13
        obtain ⟨rfl, Nq13, eq13⟩ := hQ13
        have N13 := Fr.app N2 Nq13
        refine own_tr st13 ?_
        show own_Gl _ _ _ _ _ _ _ _ (T13.setTop (mkF m 294 #[.val (.int p0), .val (.int p1), .val (.int p2), .val (.int p3), z4, z5, z6, z7, z8, z9, .val (.ref am0), .val (.ref st0), z12, .val (.int sz), .val (.int (1 : Int32)), z15] [(.int (own_con D.2.1 (0 : Int32)))]))
        refine own_st (A' := T13.setTop (mkF m 299 #[.val (.int p0), .val (.int p1), .val (.int p2), .val (.int p3), z4, z5, z6, z7, z8, z9, .val (.ref am0), .val (.ref st0), z12, .val (.int sz), .val (.int (1 : Int32)), z15] [(.int (0 : Int32)), (.int sz), (.ref am0), (.int (own_con D.2.1 (0 : Int32)))])) (fun tg kt => ?_) ?_
        · show Steps p.tables e below (T13.setTop (mkF m 294 #[.val (.int p0), .val (.int p1), .val (.int p2), .val (.int p3), z4, z5, z6, z7, z8, z9, .val (.ref am0), .val (.ref st0), z12, .val (.int sz), .val (.int (1 : Int32)), z15] [(.int (own_con D.2.1 (0 : Int32)))])) _
          refine XS.aload X13.here hx rfl (hb hby at_294) rfl rfl ?_
          show Steps p.tables e below (T13.setTop (mkF m 296 #[.val (.int p0), .val (.int p1), .val (.int p2), .val (.int p3), z4, z5, z6, z7, z8, z9, .val (.ref am0), .val (.ref st0), z12, .val (.int sz), .val (.int (1 : Int32)), z15] [(.ref am0), (.int (own_con D.2.1 (0 : Int32)))])) _
          refine XS.iload X13.here hx rfl (hb hby at_296) rfl ?_
          show Steps p.tables e below (T13.setTop (mkF m 298 #[.val (.int p0), .val (.int p1), .val (.int p2), .val (.int p3), z4, z5, z6, z7, z8, z9, .val (.ref am0), .val (.ref st0), z12, .val (.int sz), .val (.int (1 : Int32)), z15] [(.int sz), (.ref am0), (.int (own_con D.2.1 (0 : Int32)))])) _
          refine XS.iconst X13.here hx rfl (hb hby at_298) ?_
          exact kt
        obtain ⟨_, _, ⟨T14, L14, k14, n14⟩, -, X14, ⟨Lc14, hQ14, l14, y14, z14⟩, st14⟩ := Jvm.LawKit.callS X13 hx (y := (⟨"com/example/slotpack/slotpack/IndexSetRemovePinLaw", "inSet", "([III)Z"⟩ : MethodName)) hown (mvT hZ (hw _ (List.mem_of_getElem? (i := 45) rfl))) (mvT hZ (hw _ (List.mem_of_getElem? (i := 46) rfl))) (mvT hZ (hw _ (List.mem_of_getElem? (i := 33) rfl))) (mvT hZ (hw _ (List.mem_of_getElem? (i := 47) rfl))) (by decide) (backOf (W := 1) (rm9 l Z a0 hw [] am0 sz (0 : Int32) km mm ht n0 Zt Vt gm) hZ (hw _ (List.mem_of_getElem? (i := 47) rfl)) (hw _ (List.mem_of_getElem? (i := 33) rfl)) (by decide) (by decide)) (g := (mkF m 299 #[.val (.int p0), .val (.int p1), .val (.int p2), .val (.int p3), z4, z5, z6, z7, z8, z9, .val (.ref am0), .val (.ref st0), z12, .val (.int sz), .val (.int (1 : Int32)), z15] [(.int (0 : Int32)), (.int sz), (.ref am0), (.int (own_con D.2.1 (0 : Int32)))])) rfl (by rw [hml]; rfl) (argsL := [(.ref am0), (.int sz), (.int (0 : Int32))]) (rest := [(.int (own_con D.2.1 (0 : Int32)))]) (lenOf own_pd6 rfl) rfl (by show 2 * 0 + _ ≤ _; exact Nat.le_of_eq rfl) (hb hby at_299) (fun _ _ => ⟨rfl, eq13, (by decide : 4 + 0 ≤ _), (by decide : 12 + 0 ≤ _)⟩)
        dsimp only [Pt.U, Pt.locs, Pt.cells, Pt.slots] at X14 l14 y14 z14 st14 hQ14
        subst l14 y14 z14
        obtain ⟨rfl, Nq14, eq14⟩ := hQ14
        have N14 := Fr.app N13 Nq14
        refine own_st st14 ?_
        show own_Gl _ _ _ _ _ _ _ _ (T14.setTop (mkF m 302 #[.val (.int p0), .val (.int p1), .val (.int p2), .val (.int p3), z4, z5, z6, z7, z8, z9, .val (.ref am0), .val (.ref st0), z12, .val (.int sz), .val (.int (1 : Int32)), z15] [(.int (own_ins mm sz (0 : Int32))), (.int (own_con D.2.1 (0 : Int32)))]))
        refine own_st (A' := T14.setTop (mkF m 320 #[.val (.int p0), .val (.int p1), .val (.int p2), .val (.int p3), z4, z5, z6, z7, z8, z9, .val (.ref am0), .val (.ref st0), z12, .val (.int sz), .val (.int (1 : Int32)), z15] [(.int (1 : Int32)), (.ref st0)])) (fun tg kt => ?_) ?_
        · show Steps p.tables e below (T14.setTop (mkF m 302 #[.val (.int p0), .val (.int p1), .val (.int p2), .val (.int p3), z4, z5, z6, z7, z8, z9, .val (.ref am0), .val (.ref st0), z12, .val (.int sz), .val (.int (1 : Int32)), z15] [(.int (own_ins mm sz (0 : Int32))), (.int (own_con D.2.1 (0 : Int32)))])) _
          refine XS.icmpNo X14.here hx rfl (hb hby at_302) rfl (teq (hf.2.2.2.1 : (own_con D.2.1 (0 : Int32)) = (own_ins mm sz (0 : Int32)))).2 ?_
          show Steps p.tables e below (T14.setTop (mkF m 305 #[.val (.int p0), .val (.int p1), .val (.int p2), .val (.int p3), z4, z5, z6, z7, z8, z9, .val (.ref am0), .val (.ref st0), z12, .val (.int sz), .val (.int (1 : Int32)), z15] [])) _
          refine XS.iconst X14.here hx rfl (hb hby at_305) ?_
          show Steps p.tables e below (T14.setTop (mkF m 306 #[.val (.int p0), .val (.int p1), .val (.int p2), .val (.int p3), z4, z5, z6, z7, z8, z9, .val (.ref am0), .val (.ref st0), z12, .val (.int sz), .val (.int (1 : Int32)), z15] [(.int (1 : Int32))])) _
          refine XS.goto X14.here hx rfl (pc0 := 306) (pc' := 310) rfl (hb hby at_306) (by decide) (by decide) ?_
          show Steps p.tables e below (T14.setTop (mkF m 310 #[.val (.int p0), .val (.int p1), .val (.int p2), .val (.int p3), z4, z5, z6, z7, z8, z9, .val (.ref am0), .val (.ref st0), z12, .val (.int sz), .val (.int (1 : Int32)), z15] [(.int (1 : Int32))])) _
          refine XS.istore X14.here hx rfl (hb hby at_310) rfl (l' := #[.val (.int p0), .val (.int p1), .val (.int p2), .val (.int p3), z4, z5, z6, z7, z8, z9, .val (.ref am0), .val (.ref st0), z12, .val (.int sz), .val (.int (1 : Int32)), z15]) rfl ?_
          show Steps p.tables e below (T14.setTop (mkF m 312 #[.val (.int p0), .val (.int p1), .val (.int p2), .val (.int p3), z4, z5, z6, z7, z8, z9, .val (.ref am0), .val (.ref st0), z12, .val (.int sz), .val (.int (1 : Int32)), z15] [])) _
          refine XS.iload X14.here hx rfl (hb hby at_312) rfl ?_
          show Steps p.tables e below (T14.setTop (mkF m 314 #[.val (.int p0), .val (.int p1), .val (.int p2), .val (.int p3), z4, z5, z6, z7, z8, z9, .val (.ref am0), .val (.ref st0), z12, .val (.int sz), .val (.int (1 : Int32)), z15] [(.int (1 : Int32))])) _
          refine XS.ifNo X14.here hx rfl (hb hby at_314) rfl ((if0 _ _).trans (feq ((by decide) : ¬ ((1 : Int32) = (0 : Int32)))).1) ?_
          show Steps p.tables e below (T14.setTop (mkF m 317 #[.val (.int p0), .val (.int p1), .val (.int p2), .val (.int p3), z4, z5, z6, z7, z8, z9, .val (.ref am0), .val (.ref st0), z12, .val (.int sz), .val (.int (1 : Int32)), z15] [])) _
          refine XS.aload X14.here hx rfl (hb hby at_317) rfl rfl ?_
          show Steps p.tables e below (T14.setTop (mkF m 319 #[.val (.int p0), .val (.int p1), .val (.int p2), .val (.int p3), z4, z5, z6, z7, z8, z9, .val (.ref am0), .val (.ref st0), z12, .val (.int sz), .val (.int (1 : Int32)), z15] [(.ref st0)])) _
          refine XS.iconst X14.here hx rfl (hb hby at_319) ?_
          exact kt
        obtain ⟨cq15, kq15, q15a, q15b, q15c⟩ := isOf hZ eq14 ISt.1
        obtain ⟨_, _, ⟨T15, L15, k15, n15⟩, -, X15, ⟨Lc15, hQ15, l15, y15, z15⟩, st15⟩ := X14.virtualBack hx (y := (⟨"com/example/slotpack/slotpack/IndexSet", "contains", "(I)Z"⟩ : MethodName)) (z := (⟨"com/example/slotpack/slotpack/IndexSet", "contains", "(I)Z"⟩ : MethodName)) hown (mvT hZ (hw _ (List.mem_of_getElem? (i := 40) rfl))) (mvT hZ (hw _ (List.mem_of_getElem? (i := 41) rfl))) (notFace_of_selects (args := #[]) (mvT hZ (hw _ (List.mem_of_getElem? (i := 43) rfl)))) (mvT hZ (hw _ (List.mem_of_getElem? (i := 43) rfl))) (mvT hZ (hw _ (List.mem_of_getElem? (i := 42) rfl))) (by decide) (backOf (W := 0) (rm8 l Z a0 hw [] st0 (1 : Int32)  am ap ka kp D ht n0 Zt ISt geo (by decide)) hZ (hw _ (List.mem_of_getElem? (i := 44) rfl)) (hw _ (List.mem_of_getElem? (i := 4) rfl)) (by decide) (by decide)) q15a q15c (g := (mkF m 320 #[.val (.int p0), .val (.int p1), .val (.int p2), .val (.int p3), z4, z5, z6, z7, z8, z9, .val (.ref am0), .val (.ref st0), z12, .val (.int sz), .val (.int (1 : Int32)), z15] [(.int (1 : Int32)), (.ref st0)])) rfl (by rw [hml]; rfl) (Steps.refl _) (argsL := [(.int (1 : Int32))]) (rest := []) (lenOf own_pd5 rfl) rfl (by show 2 * 0 + _ ≤ _; exact Nat.le_of_eq rfl) (hb hby at_320) (fun _ _ => ⟨rfl, eq14, (by decide : 4 + 0 ≤ _), (by decide : 12 + 0 ≤ _)⟩)
        dsimp only [Pt.U, Pt.locs, Pt.cells, Pt.slots] at X15 l15 y15 z15 st15 hQ15
        subst l15 y15 z15
        obtain ⟨rfl, Nq15, eq15⟩ := hQ15
        have N15 := Fr.app N14 Nq15
        refine own_tr st15 ?_
        show own_Gl _ _ _ _ _ _ _ _ (T15.setTop (mkF m 323 #[.val (.int p0), .val (.int p1), .val (.int p2), .val (.int p3), z4, z5, z6, z7, z8, z9, .val (.ref am0), .val (.ref st0), z12, .val (.int sz), .val (.int (1 : Int32)), z15] [(.int (own_con D.2.1 (1 : Int32)))]))
        refine own_st (A' := T15.setTop (mkF m 328 #[.val (.int p0), .val (.int p1), .val (.int p2), .val (.int p3), z4, z5, z6, z7, z8, z9, .val (.ref am0), .val (.ref st0), z12, .val (.int sz), .val (.int (1 : Int32)), z15] [(.int (1 : Int32)), (.int sz), (.ref am0), (.int (own_con D.2.1 (1 : Int32)))])) (fun tg kt => ?_) ?_
        · show Steps p.tables e below (T15.setTop (mkF m 323 #[.val (.int p0), .val (.int p1), .val (.int p2), .val (.int p3), z4, z5, z6, z7, z8, z9, .val (.ref am0), .val (.ref st0), z12, .val (.int sz), .val (.int (1 : Int32)), z15] [(.int (own_con D.2.1 (1 : Int32)))])) _
          refine XS.aload X15.here hx rfl (hb hby at_323) rfl rfl ?_
          show Steps p.tables e below (T15.setTop (mkF m 325 #[.val (.int p0), .val (.int p1), .val (.int p2), .val (.int p3), z4, z5, z6, z7, z8, z9, .val (.ref am0), .val (.ref st0), z12, .val (.int sz), .val (.int (1 : Int32)), z15] [(.ref am0), (.int (own_con D.2.1 (1 : Int32)))])) _
          refine XS.iload X15.here hx rfl (hb hby at_325) rfl ?_
          show Steps p.tables e below (T15.setTop (mkF m 327 #[.val (.int p0), .val (.int p1), .val (.int p2), .val (.int p3), z4, z5, z6, z7, z8, z9, .val (.ref am0), .val (.ref st0), z12, .val (.int sz), .val (.int (1 : Int32)), z15] [(.int sz), (.ref am0), (.int (own_con D.2.1 (1 : Int32)))])) _
          refine XS.iconst X15.here hx rfl (hb hby at_327) ?_
          exact kt
        obtain ⟨_, _, ⟨T16, L16, k16, n16⟩, -, X16, ⟨Lc16, hQ16, l16, y16, z16⟩, st16⟩ := Jvm.LawKit.callS X15 hx (y := (⟨"com/example/slotpack/slotpack/IndexSetRemovePinLaw", "inSet", "([III)Z"⟩ : MethodName)) hown (mvT hZ (hw _ (List.mem_of_getElem? (i := 45) rfl))) (mvT hZ (hw _ (List.mem_of_getElem? (i := 46) rfl))) (mvT hZ (hw _ (List.mem_of_getElem? (i := 33) rfl))) (mvT hZ (hw _ (List.mem_of_getElem? (i := 47) rfl))) (by decide) (backOf (W := 1) (rm9 l Z a0 hw [] am0 sz (1 : Int32) km mm ht n0 Zt Vt gm) hZ (hw _ (List.mem_of_getElem? (i := 47) rfl)) (hw _ (List.mem_of_getElem? (i := 33) rfl)) (by decide) (by decide)) (g := (mkF m 328 #[.val (.int p0), .val (.int p1), .val (.int p2), .val (.int p3), z4, z5, z6, z7, z8, z9, .val (.ref am0), .val (.ref st0), z12, .val (.int sz), .val (.int (1 : Int32)), z15] [(.int (1 : Int32)), (.int sz), (.ref am0), (.int (own_con D.2.1 (1 : Int32)))])) rfl (by rw [hml]; rfl) (argsL := [(.ref am0), (.int sz), (.int (1 : Int32))]) (rest := [(.int (own_con D.2.1 (1 : Int32)))]) (lenOf own_pd6 rfl) rfl (by show 2 * 0 + _ ≤ _; exact Nat.le_of_eq rfl) (hb hby at_328) (fun _ _ => ⟨rfl, eq15, (by decide : 4 + 0 ≤ _), (by decide : 12 + 0 ≤ _)⟩)
        dsimp only [Pt.U, Pt.locs, Pt.cells, Pt.slots] at X16 l16 y16 z16 st16 hQ16
        subst l16 y16 z16
        obtain ⟨rfl, Nq16, eq16⟩ := hQ16
        have N16 := Fr.app N15 Nq16
        refine own_st st16 ?_
        show own_Gl _ _ _ _ _ _ _ _ (T16.setTop (mkF m 331 #[.val (.int p0), .val (.int p1), .val (.int p2), .val (.int p3), z4, z5, z6, z7, z8, z9, .val (.ref am0), .val (.ref st0), z12, .val (.int sz), .val (.int (1 : Int32)), z15] [(.int (own_ins mm sz (1 : Int32))), (.int (own_con D.2.1 (1 : Int32)))]))
        refine own_st (A' := T16.setTop (mkF m 349 #[.val (.int p0), .val (.int p1), .val (.int p2), .val (.int p3), z4, z5, z6, z7, z8, z9, .val (.ref am0), .val (.ref st0), z12, .val (.int sz), .val (.int (1 : Int32)), z15] [(.int (2 : Int32)), (.ref st0)])) (fun tg kt => ?_) ?_
        · show Steps p.tables e below (T16.setTop (mkF m 331 #[.val (.int p0), .val (.int p1), .val (.int p2), .val (.int p3), z4, z5, z6, z7, z8, z9, .val (.ref am0), .val (.ref st0), z12, .val (.int sz), .val (.int (1 : Int32)), z15] [(.int (own_ins mm sz (1 : Int32))), (.int (own_con D.2.1 (1 : Int32)))])) _
          refine XS.icmpNo X16.here hx rfl (hb hby at_331) rfl (teq (hf.2.2.2.2.1 : (own_con D.2.1 (1 : Int32)) = (own_ins mm sz (1 : Int32)))).2 ?_
          show Steps p.tables e below (T16.setTop (mkF m 334 #[.val (.int p0), .val (.int p1), .val (.int p2), .val (.int p3), z4, z5, z6, z7, z8, z9, .val (.ref am0), .val (.ref st0), z12, .val (.int sz), .val (.int (1 : Int32)), z15] [])) _
          refine XS.iconst X16.here hx rfl (hb hby at_334) ?_
          show Steps p.tables e below (T16.setTop (mkF m 335 #[.val (.int p0), .val (.int p1), .val (.int p2), .val (.int p3), z4, z5, z6, z7, z8, z9, .val (.ref am0), .val (.ref st0), z12, .val (.int sz), .val (.int (1 : Int32)), z15] [(.int (1 : Int32))])) _
          refine XS.goto X16.here hx rfl (pc0 := 335) (pc' := 339) rfl (hb hby at_335) (by decide) (by decide) ?_
          show Steps p.tables e below (T16.setTop (mkF m 339 #[.val (.int p0), .val (.int p1), .val (.int p2), .val (.int p3), z4, z5, z6, z7, z8, z9, .val (.ref am0), .val (.ref st0), z12, .val (.int sz), .val (.int (1 : Int32)), z15] [(.int (1 : Int32))])) _
          refine XS.istore X16.here hx rfl (hb hby at_339) rfl (l' := #[.val (.int p0), .val (.int p1), .val (.int p2), .val (.int p3), z4, z5, z6, z7, z8, z9, .val (.ref am0), .val (.ref st0), z12, .val (.int sz), .val (.int (1 : Int32)), z15]) rfl ?_
          show Steps p.tables e below (T16.setTop (mkF m 341 #[.val (.int p0), .val (.int p1), .val (.int p2), .val (.int p3), z4, z5, z6, z7, z8, z9, .val (.ref am0), .val (.ref st0), z12, .val (.int sz), .val (.int (1 : Int32)), z15] [])) _
          refine XS.iload X16.here hx rfl (hb hby at_341) rfl ?_
          show Steps p.tables e below (T16.setTop (mkF m 343 #[.val (.int p0), .val (.int p1), .val (.int p2), .val (.int p3), z4, z5, z6, z7, z8, z9, .val (.ref am0), .val (.ref st0), z12, .val (.int sz), .val (.int (1 : Int32)), z15] [(.int (1 : Int32))])) _
          refine XS.ifNo X16.here hx rfl (hb hby at_343) rfl ((if0 _ _).trans (feq ((by decide) : ¬ ((1 : Int32) = (0 : Int32)))).1) ?_
          show Steps p.tables e below (T16.setTop (mkF m 346 #[.val (.int p0), .val (.int p1), .val (.int p2), .val (.int p3), z4, z5, z6, z7, z8, z9, .val (.ref am0), .val (.ref st0), z12, .val (.int sz), .val (.int (1 : Int32)), z15] [])) _
          refine XS.aload X16.here hx rfl (hb hby at_346) rfl rfl ?_
          show Steps p.tables e below (T16.setTop (mkF m 348 #[.val (.int p0), .val (.int p1), .val (.int p2), .val (.int p3), z4, z5, z6, z7, z8, z9, .val (.ref am0), .val (.ref st0), z12, .val (.int sz), .val (.int (1 : Int32)), z15] [(.ref st0)])) _
          refine XS.iconst X16.here hx rfl (hb hby at_348) ?_
          exact kt
        obtain ⟨cq17, kq17, q17a, q17b, q17c⟩ := isOf hZ eq16 ISt.1
        obtain ⟨_, _, ⟨T17, L17, k17, n17⟩, -, X17, ⟨Lc17, hQ17, l17, y17, z17⟩, st17⟩ := X16.virtualBack hx (y := (⟨"com/example/slotpack/slotpack/IndexSet", "contains", "(I)Z"⟩ : MethodName)) (z := (⟨"com/example/slotpack/slotpack/IndexSet", "contains", "(I)Z"⟩ : MethodName)) hown (mvT hZ (hw _ (List.mem_of_getElem? (i := 40) rfl))) (mvT hZ (hw _ (List.mem_of_getElem? (i := 41) rfl))) (notFace_of_selects (args := #[]) (mvT hZ (hw _ (List.mem_of_getElem? (i := 43) rfl)))) (mvT hZ (hw _ (List.mem_of_getElem? (i := 43) rfl))) (mvT hZ (hw _ (List.mem_of_getElem? (i := 42) rfl))) (by decide) (backOf (W := 0) (rm8 l Z a0 hw [] st0 (2 : Int32)  am ap ka kp D ht n0 Zt ISt geo (by decide)) hZ (hw _ (List.mem_of_getElem? (i := 44) rfl)) (hw _ (List.mem_of_getElem? (i := 4) rfl)) (by decide) (by decide)) q17a q17c (g := (mkF m 349 #[.val (.int p0), .val (.int p1), .val (.int p2), .val (.int p3), z4, z5, z6, z7, z8, z9, .val (.ref am0), .val (.ref st0), z12, .val (.int sz), .val (.int (1 : Int32)), z15] [(.int (2 : Int32)), (.ref st0)])) rfl (by rw [hml]; rfl) (Steps.refl _) (argsL := [(.int (2 : Int32))]) (rest := []) (lenOf own_pd5 rfl) rfl (by show 2 * 0 + _ ≤ _; exact Nat.le_of_eq rfl) (hb hby at_349) (fun _ _ => ⟨rfl, eq16, (by decide : 4 + 0 ≤ _), (by decide : 12 + 0 ≤ _)⟩)
        dsimp only [Pt.U, Pt.locs, Pt.cells, Pt.slots] at X17 l17 y17 z17 st17 hQ17
        subst l17 y17 z17
        obtain ⟨rfl, Nq17, eq17⟩ := hQ17
        have N17 := Fr.app N16 Nq17
        refine own_tr st17 ?_
        show own_Gl _ _ _ _ _ _ _ _ (T17.setTop (mkF m 352 #[.val (.int p0), .val (.int p1), .val (.int p2), .val (.int p3), z4, z5, z6, z7, z8, z9, .val (.ref am0), .val (.ref st0), z12, .val (.int sz), .val (.int (1 : Int32)), z15] [(.int (own_con D.2.1 (2 : Int32)))]))
        refine own_st (A' := T17.setTop (mkF m 357 #[.val (.int p0), .val (.int p1), .val (.int p2), .val (.int p3), z4, z5, z6, z7, z8, z9, .val (.ref am0), .val (.ref st0), z12, .val (.int sz), .val (.int (1 : Int32)), z15] [(.int (2 : Int32)), (.int sz), (.ref am0), (.int (own_con D.2.1 (2 : Int32)))])) (fun tg kt => ?_) ?_
        · show Steps p.tables e below (T17.setTop (mkF m 352 #[.val (.int p0), .val (.int p1), .val (.int p2), .val (.int p3), z4, z5, z6, z7, z8, z9, .val (.ref am0), .val (.ref st0), z12, .val (.int sz), .val (.int (1 : Int32)), z15] [(.int (own_con D.2.1 (2 : Int32)))])) _
          refine XS.aload X17.here hx rfl (hb hby at_352) rfl rfl ?_
          show Steps p.tables e below (T17.setTop (mkF m 354 #[.val (.int p0), .val (.int p1), .val (.int p2), .val (.int p3), z4, z5, z6, z7, z8, z9, .val (.ref am0), .val (.ref st0), z12, .val (.int sz), .val (.int (1 : Int32)), z15] [(.ref am0), (.int (own_con D.2.1 (2 : Int32)))])) _
          refine XS.iload X17.here hx rfl (hb hby at_354) rfl ?_
          show Steps p.tables e below (T17.setTop (mkF m 356 #[.val (.int p0), .val (.int p1), .val (.int p2), .val (.int p3), z4, z5, z6, z7, z8, z9, .val (.ref am0), .val (.ref st0), z12, .val (.int sz), .val (.int (1 : Int32)), z15] [(.int sz), (.ref am0), (.int (own_con D.2.1 (2 : Int32)))])) _
          refine XS.iconst X17.here hx rfl (hb hby at_356) ?_
          exact kt
        obtain ⟨_, _, ⟨T18, L18, k18, n18⟩, -, X18, ⟨Lc18, hQ18, l18, y18, z18⟩, st18⟩ := Jvm.LawKit.callS X17 hx (y := (⟨"com/example/slotpack/slotpack/IndexSetRemovePinLaw", "inSet", "([III)Z"⟩ : MethodName)) hown (mvT hZ (hw _ (List.mem_of_getElem? (i := 45) rfl))) (mvT hZ (hw _ (List.mem_of_getElem? (i := 46) rfl))) (mvT hZ (hw _ (List.mem_of_getElem? (i := 33) rfl))) (mvT hZ (hw _ (List.mem_of_getElem? (i := 47) rfl))) (by decide) (backOf (W := 1) (rm9 l Z a0 hw [] am0 sz (2 : Int32) km mm ht n0 Zt Vt gm) hZ (hw _ (List.mem_of_getElem? (i := 47) rfl)) (hw _ (List.mem_of_getElem? (i := 33) rfl)) (by decide) (by decide)) (g := (mkF m 357 #[.val (.int p0), .val (.int p1), .val (.int p2), .val (.int p3), z4, z5, z6, z7, z8, z9, .val (.ref am0), .val (.ref st0), z12, .val (.int sz), .val (.int (1 : Int32)), z15] [(.int (2 : Int32)), (.int sz), (.ref am0), (.int (own_con D.2.1 (2 : Int32)))])) rfl (by rw [hml]; rfl) (argsL := [(.ref am0), (.int sz), (.int (2 : Int32))]) (rest := [(.int (own_con D.2.1 (2 : Int32)))]) (lenOf own_pd6 rfl) rfl (by show 2 * 0 + _ ≤ _; exact Nat.le_of_eq rfl) (hb hby at_357) (fun _ _ => ⟨rfl, eq17, (by decide : 4 + 0 ≤ _), (by decide : 12 + 0 ≤ _)⟩)
        dsimp only [Pt.U, Pt.locs, Pt.cells, Pt.slots] at X18 l18 y18 z18 st18 hQ18
        subst l18 y18 z18
        obtain ⟨rfl, Nq18, eq18⟩ := hQ18
        have N18 := Fr.app N17 Nq18
        refine own_st st18 ?_
        show own_Gl _ _ _ _ _ _ _ _ (T18.setTop (mkF m 360 #[.val (.int p0), .val (.int p1), .val (.int p2), .val (.int p3), z4, z5, z6, z7, z8, z9, .val (.ref am0), .val (.ref st0), z12, .val (.int sz), .val (.int (1 : Int32)), z15] [(.int (own_ins mm sz (2 : Int32))), (.int (own_con D.2.1 (2 : Int32)))]))
        refine own_st (A' := T18.setTop (mkF m 372 #[.val (.int p0), .val (.int p1), .val (.int p2), .val (.int p3), z4, z5, z6, z7, z8, z9, .val (.ref am0), .val (.ref st0), z12, .val (.int sz), .val (.int (1 : Int32)), z15] [(.int (1 : Int32))])) (fun tg kt => ?_) ?_
        · show Steps p.tables e below (T18.setTop (mkF m 360 #[.val (.int p0), .val (.int p1), .val (.int p2), .val (.int p3), z4, z5, z6, z7, z8, z9, .val (.ref am0), .val (.ref st0), z12, .val (.int sz), .val (.int (1 : Int32)), z15] [(.int (own_ins mm sz (2 : Int32))), (.int (own_con D.2.1 (2 : Int32)))])) _
          refine XS.icmpNo X18.here hx rfl (hb hby at_360) rfl (teq (hf.2.2.2.2.2 : (own_con D.2.1 (2 : Int32)) = (own_ins mm sz (2 : Int32)))).2 ?_
          show Steps p.tables e below (T18.setTop (mkF m 363 #[.val (.int p0), .val (.int p1), .val (.int p2), .val (.int p3), z4, z5, z6, z7, z8, z9, .val (.ref am0), .val (.ref st0), z12, .val (.int sz), .val (.int (1 : Int32)), z15] [])) _
          refine XS.iconst X18.here hx rfl (hb hby at_363) ?_
          show Steps p.tables e below (T18.setTop (mkF m 364 #[.val (.int p0), .val (.int p1), .val (.int p2), .val (.int p3), z4, z5, z6, z7, z8, z9, .val (.ref am0), .val (.ref st0), z12, .val (.int sz), .val (.int (1 : Int32)), z15] [(.int (1 : Int32))])) _
          refine XS.goto X18.here hx rfl (pc0 := 364) (pc' := 368) rfl (hb hby at_364) (by decide) (by decide) ?_
          show Steps p.tables e below (T18.setTop (mkF m 368 #[.val (.int p0), .val (.int p1), .val (.int p2), .val (.int p3), z4, z5, z6, z7, z8, z9, .val (.ref am0), .val (.ref st0), z12, .val (.int sz), .val (.int (1 : Int32)), z15] [(.int (1 : Int32))])) _
          refine XS.istore X18.here hx rfl (hb hby at_368) rfl (l' := #[.val (.int p0), .val (.int p1), .val (.int p2), .val (.int p3), z4, z5, z6, z7, z8, z9, .val (.ref am0), .val (.ref st0), z12, .val (.int sz), .val (.int (1 : Int32)), z15]) rfl ?_
          show Steps p.tables e below (T18.setTop (mkF m 370 #[.val (.int p0), .val (.int p1), .val (.int p2), .val (.int p3), z4, z5, z6, z7, z8, z9, .val (.ref am0), .val (.ref st0), z12, .val (.int sz), .val (.int (1 : Int32)), z15] [])) _
          refine XS.iload X18.here hx rfl (hb hby at_370) rfl ?_
          exact kt
        refine own_ret X18 (v := some (.int (1 : Int32))) (fun h => by rw [Bd.returns] at h; cases h) hlk (by decide) (by decide) ?_ (fun fs hr => ?_)
        · show Q0 Z p0 p1 p2 p3 h0 n0 (some (.int (1 : Int32))) T18.heap _
          rw [eq18]
          exact ⟨rfl, N18⟩
        · show Steps p.tables e below (T18.setTop (mkF m 372 #[.val (.int p0), .val (.int p1), .val (.int p2), .val (.int p3), z4, z5, z6, z7, z8, z9, .val (.ref am0), .val (.ref st0), z12, .val (.int sz), .val (.int (1 : Int32)), z15] [(.int (1 : Int32))])) _
          exact retN X18 hx (t := .boolean) Bd.returns (by simp) (hb hby at_372) hr
    · refine own_st (A' := Tt.setTop (mkF m 255 #[.val (.int p0), .val (.int p1), .val (.int p2), .val (.int p3), z4, z5, z6, z7, z8, z9, .val (.ref am0), .val (.ref st0), z12, .val (.int sz), .val (.int (1 : Int32)), z15] [(.int (1 : Int32)), (.int sz)])) (fun tg kt => ?_) ?_
      · show Steps p.tables e below (Tt.setTop (mkF m 224 #[.val (.int p0), .val (.int p1), .val (.int p2), .val (.int p3), z4, z5, z6, z7, z8, z9, .val (.ref am0), .val (.ref st0), z12, .val (.int sz), .val (.int (1 : Int32)), z15] [(.int sz)])) _
        refine XS.ifYes Xt.here hx rfl (pc0 := 224) (pc' := 252) rfl (hb hby at_224) rfl ((if0 _ _).trans (flt hc224_1).2.2.2) (by decide) (by decide) ?_
        show Steps p.tables e below (Tt.setTop (mkF m 252 #[.val (.int p0), .val (.int p1), .val (.int p2), .val (.int p3), z4, z5, z6, z7, z8, z9, .val (.ref am0), .val (.ref st0), z12, .val (.int sz), .val (.int (1 : Int32)), z15] [])) _
        refine XS.iload Xt.here hx rfl (hb hby at_252) rfl ?_
        show Steps p.tables e below (Tt.setTop (mkF m 254 #[.val (.int p0), .val (.int p1), .val (.int p2), .val (.int p3), z4, z5, z6, z7, z8, z9, .val (.ref am0), .val (.ref st0), z12, .val (.int sz), .val (.int (1 : Int32)), z15] [(.int sz)])) _
        refine XS.iconst Xt.here hx rfl (hb hby at_254) ?_
        exact kt
      by_cases hc255_19 : (1 : Int32) < sz
      · refine own_st (A' := Tt.setTop (mkF m 266 #[.val (.int p0), .val (.int p1), .val (.int p2), .val (.int p3), z4, z5, z6, z7, z8, z9, .val (.ref am0), .val (.ref st0), z12, .val (.int sz), .val (.int (1 : Int32)), z15] [(.int (1 : Int32)), (.ref st0)])) (fun tg kt => ?_) ?_
        · show Steps p.tables e below (Tt.setTop (mkF m 255 #[.val (.int p0), .val (.int p1), .val (.int p2), .val (.int p3), z4, z5, z6, z7, z8, z9, .val (.ref am0), .val (.ref st0), z12, .val (.int sz), .val (.int (1 : Int32)), z15] [(.int (1 : Int32)), (.int sz)])) _
          refine XS.icmpNo Xt.here hx rfl (hb hby at_255) rfl (tlt hc255_19).2.2.2 ?_
          show Steps p.tables e below (Tt.setTop (mkF m 258 #[.val (.int p0), .val (.int p1), .val (.int p2), .val (.int p3), z4, z5, z6, z7, z8, z9, .val (.ref am0), .val (.ref st0), z12, .val (.int sz), .val (.int (1 : Int32)), z15] [])) _
          refine XS.iload Xt.here hx rfl (hb hby at_258) rfl ?_
          show Steps p.tables e below (Tt.setTop (mkF m 260 #[.val (.int p0), .val (.int p1), .val (.int p2), .val (.int p3), z4, z5, z6, z7, z8, z9, .val (.ref am0), .val (.ref st0), z12, .val (.int sz), .val (.int (1 : Int32)), z15] [(.int (1 : Int32))])) _
          refine XS.ifNo Xt.here hx rfl (hb hby at_260) rfl ((if0 _ _).trans (feq ((by decide) : ¬ ((1 : Int32) = (0 : Int32)))).1) ?_
          show Steps p.tables e below (Tt.setTop (mkF m 263 #[.val (.int p0), .val (.int p1), .val (.int p2), .val (.int p3), z4, z5, z6, z7, z8, z9, .val (.ref am0), .val (.ref st0), z12, .val (.int sz), .val (.int (1 : Int32)), z15] [])) _
          refine XS.aload Xt.here hx rfl (hb hby at_263) rfl rfl ?_
          show Steps p.tables e below (Tt.setTop (mkF m 265 #[.val (.int p0), .val (.int p1), .val (.int p2), .val (.int p3), z4, z5, z6, z7, z8, z9, .val (.ref am0), .val (.ref st0), z12, .val (.int sz), .val (.int (1 : Int32)), z15] [(.ref st0)])) _
          refine XS.iconst Xt.here hx rfl (hb hby at_265) ?_
          exact kt
        obtain ⟨cq20, kq20, q20a, q20b, q20c⟩ := isOf hZ et ISt.1
        obtain ⟨_, _, ⟨T20, L20, k20, n20⟩, -, X20, ⟨Lc20, hQ20, l20, y20, z20⟩, st20⟩ := Xt.virtualBack hx (y := (⟨"com/example/slotpack/slotpack/IndexSet", "get", "(I)I"⟩ : MethodName)) (z := (⟨"com/example/slotpack/slotpack/IndexSet", "get", "(I)I"⟩ : MethodName)) hown (mvT hZ (hw _ (List.mem_of_getElem? (i := 48) rfl))) (mvT hZ (hw _ (List.mem_of_getElem? (i := 49) rfl))) (notFace_of_selects (args := #[]) (mvT hZ (hw _ (List.mem_of_getElem? (i := 51) rfl)))) (mvT hZ (hw _ (List.mem_of_getElem? (i := 51) rfl))) (mvT hZ (hw _ (List.mem_of_getElem? (i := 50) rfl))) (by decide) (backOf (W := 0) (rm10 l Z a0 hw [] st0 (1 : Int32)  am ap ka kp D ht n0 Zt ISt geo (by decide)) hZ (hw _ (List.mem_of_getElem? (i := 52) rfl)) (hw _ (List.mem_of_getElem? (i := 4) rfl)) (by decide) (by decide)) q20a q20c (g := (mkF m 266 #[.val (.int p0), .val (.int p1), .val (.int p2), .val (.int p3), z4, z5, z6, z7, z8, z9, .val (.ref am0), .val (.ref st0), z12, .val (.int sz), .val (.int (1 : Int32)), z15] [(.int (1 : Int32)), (.ref st0)])) rfl (by rw [hml]; rfl) (Steps.refl _) (argsL := [(.int (1 : Int32))]) (rest := []) (lenOf own_pd4 rfl) rfl (by show 2 * 0 + _ ≤ _; exact Nat.le_of_eq rfl) (hb hby at_266) (fun _ _ => ⟨rfl, et, (by decide : 4 + 0 ≤ _), (by decide : 12 + 0 ≤ _)⟩)
        dsimp only [Pt.U, Pt.locs, Pt.cells, Pt.slots] at X20 l20 y20 z20 st20 hQ20
        subst l20 y20 z20
        obtain ⟨rfl, Nq20, eq20⟩ := hQ20
        have N20 := Fr.app Nt Nq20
        refine own_tr st20 ?_
        show own_Gl _ _ _ _ _ _ _ _ (T20.setTop (mkF m 269 #[.val (.int p0), .val (.int p1), .val (.int p2), .val (.int p3), z4, z5, z6, z7, z8, z9, .val (.ref am0), .val (.ref st0), z12, .val (.int sz), .val (.int (1 : Int32)), z15] [(.int (own_at D.1 (1 : Int32)))]))
        refine own_st (A' := T20.setTop (mkF m 272 #[.val (.int p0), .val (.int p1), .val (.int p2), .val (.int p3), z4, z5, z6, z7, z8, z9, .val (.ref am0), .val (.ref st0), z12, .val (.int sz), .val (.int (1 : Int32)), z15] [(.int (1 : Int32)), (.ref am0), (.int (own_at D.1 (1 : Int32)))])) (fun tg kt => ?_) ?_
        · show Steps p.tables e below (T20.setTop (mkF m 269 #[.val (.int p0), .val (.int p1), .val (.int p2), .val (.int p3), z4, z5, z6, z7, z8, z9, .val (.ref am0), .val (.ref st0), z12, .val (.int sz), .val (.int (1 : Int32)), z15] [(.int (own_at D.1 (1 : Int32)))])) _
          refine XS.aload X20.here hx rfl (hb hby at_269) rfl rfl ?_
          show Steps p.tables e below (T20.setTop (mkF m 271 #[.val (.int p0), .val (.int p1), .val (.int p2), .val (.int p3), z4, z5, z6, z7, z8, z9, .val (.ref am0), .val (.ref st0), z12, .val (.int sz), .val (.int (1 : Int32)), z15] [(.ref am0), (.int (own_at D.1 (1 : Int32)))])) _
          refine XS.iconst X20.here hx rfl (hb hby at_271) ?_
          exact kt
        obtain ⟨cl21, Ar21, hin21, hat21⟩ := own_ai_ld Vt (j := (1 : Int32)) (by decide)
        refine own_st (A' := T20.setTop (mkF m 291 #[.val (.int p0), .val (.int p1), .val (.int p2), .val (.int p3), z4, z5, z6, z7, z8, z9, .val (.ref am0), .val (.ref st0), z12, .val (.int sz), .val (.int (1 : Int32)), z15] [(.int (0 : Int32)), (.ref st0)])) (fun tg kt => ?_) ?_
        · show Steps p.tables e below (T20.setTop (mkF m 272 #[.val (.int p0), .val (.int p1), .val (.int p2), .val (.int p3), z4, z5, z6, z7, z8, z9, .val (.ref am0), .val (.ref st0), z12, .val (.int sz), .val (.int (1 : Int32)), z15] [(.int (1 : Int32)), (.ref am0), (.int (own_at D.1 (1 : Int32)))])) _
          refine X20.iaload hx (j := (1 : Int32)) (v := (.int (own_at mm (1 : Int32)))) (own_at_heap eq20 Ar21.1) (State.isArrayOf_alike hZ.alike Ar21.2.1) Ar21.2.2 hin21 hat21 (g := (mkF m 272 #[.val (.int p0), .val (.int p1), .val (.int p2), .val (.int p3), z4, z5, z6, z7, z8, z9, .val (.ref am0), .val (.ref st0), z12, .val (.int sz), .val (.int (1 : Int32)), z15] [(.int (1 : Int32)), (.ref am0), (.int (own_at D.1 (1 : Int32)))])) rfl rfl (hb hby at_272) _ ?_
          show Steps p.tables e below (T20.setTop (mkF m 273 #[.val (.int p0), .val (.int p1), .val (.int p2), .val (.int p3), z4, z5, z6, z7, z8, z9, .val (.ref am0), .val (.ref st0), z12, .val (.int sz), .val (.int (1 : Int32)), z15] [(.int (own_at mm (1 : Int32))), (.int (own_at D.1 (1 : Int32)))])) _
          refine XS.icmpNo X20.here hx rfl (hb hby at_273) rfl (teq (hf.2.2.1 hc255_19 : (own_at D.1 (1 : Int32)) = (own_at mm (1 : Int32)))).2 ?_
          show Steps p.tables e below (T20.setTop (mkF m 276 #[.val (.int p0), .val (.int p1), .val (.int p2), .val (.int p3), z4, z5, z6, z7, z8, z9, .val (.ref am0), .val (.ref st0), z12, .val (.int sz), .val (.int (1 : Int32)), z15] [])) _
          refine XS.iconst X20.here hx rfl (hb hby at_276) ?_
          show Steps p.tables e below (T20.setTop (mkF m 277 #[.val (.int p0), .val (.int p1), .val (.int p2), .val (.int p3), z4, z5, z6, z7, z8, z9, .val (.ref am0), .val (.ref st0), z12, .val (.int sz), .val (.int (1 : Int32)), z15] [(.int (1 : Int32))])) _
          refine XS.goto X20.here hx rfl (pc0 := 277) (pc' := 281) rfl (hb hby at_277) (by decide) (by decide) ?_
          show Steps p.tables e below (T20.setTop (mkF m 281 #[.val (.int p0), .val (.int p1), .val (.int p2), .val (.int p3), z4, z5, z6, z7, z8, z9, .val (.ref am0), .val (.ref st0), z12, .val (.int sz), .val (.int (1 : Int32)), z15] [(.int (1 : Int32))])) _
          refine XS.istore X20.here hx rfl (hb hby at_281) rfl (l' := #[.val (.int p0), .val (.int p1), .val (.int p2), .val (.int p3), z4, z5, z6, z7, z8, z9, .val (.ref am0), .val (.ref st0), z12, .val (.int sz), .val (.int (1 : Int32)), z15]) rfl ?_
          show Steps p.tables e below (T20.setTop (mkF m 283 #[.val (.int p0), .val (.int p1), .val (.int p2), .val (.int p3), z4, z5, z6, z7, z8, z9, .val (.ref am0), .val (.ref st0), z12, .val (.int sz), .val (.int (1 : Int32)), z15] [])) _
          refine XS.iload X20.here hx rfl (hb hby at_283) rfl ?_
          show Steps p.tables e below (T20.setTop (mkF m 285 #[.val (.int p0), .val (.int p1), .val (.int p2), .val (.int p3), z4, z5, z6, z7, z8, z9, .val (.ref am0), .val (.ref st0), z12, .val (.int sz), .val (.int (1 : Int32)), z15] [(.int (1 : Int32))])) _
          refine XS.ifNo X20.here hx rfl (hb hby at_285) rfl ((if0 _ _).trans (feq ((by decide) : ¬ ((1 : Int32) = (0 : Int32)))).1) ?_
          show Steps p.tables e below (T20.setTop (mkF m 288 #[.val (.int p0), .val (.int p1), .val (.int p2), .val (.int p3), z4, z5, z6, z7, z8, z9, .val (.ref am0), .val (.ref st0), z12, .val (.int sz), .val (.int (1 : Int32)), z15] [])) _
          refine XS.aload X20.here hx rfl (hb hby at_288) rfl rfl ?_
          show Steps p.tables e below (T20.setTop (mkF m 290 #[.val (.int p0), .val (.int p1), .val (.int p2), .val (.int p3), z4, z5, z6, z7, z8, z9, .val (.ref am0), .val (.ref st0), z12, .val (.int sz), .val (.int (1 : Int32)), z15] [(.ref st0)])) _
          refine XS.iconst X20.here hx rfl (hb hby at_290) ?_
          exact kt
        obtain ⟨cq22, kq22, q22a, q22b, q22c⟩ := isOf hZ eq20 ISt.1
        obtain ⟨_, _, ⟨T22, L22, k22, n22⟩, -, X22, ⟨Lc22, hQ22, l22, y22, z22⟩, st22⟩ := X20.virtualBack hx (y := (⟨"com/example/slotpack/slotpack/IndexSet", "contains", "(I)Z"⟩ : MethodName)) (z := (⟨"com/example/slotpack/slotpack/IndexSet", "contains", "(I)Z"⟩ : MethodName)) hown (mvT hZ (hw _ (List.mem_of_getElem? (i := 40) rfl))) (mvT hZ (hw _ (List.mem_of_getElem? (i := 41) rfl))) (notFace_of_selects (args := #[]) (mvT hZ (hw _ (List.mem_of_getElem? (i := 43) rfl)))) (mvT hZ (hw _ (List.mem_of_getElem? (i := 43) rfl))) (mvT hZ (hw _ (List.mem_of_getElem? (i := 42) rfl))) (by decide) (backOf (W := 0) (rm8 l Z a0 hw [] st0 (0 : Int32)  am ap ka kp D ht n0 Zt ISt geo (by decide)) hZ (hw _ (List.mem_of_getElem? (i := 44) rfl)) (hw _ (List.mem_of_getElem? (i := 4) rfl)) (by decide) (by decide)) q22a q22c (g := (mkF m 291 #[.val (.int p0), .val (.int p1), .val (.int p2), .val (.int p3), z4, z5, z6, z7, z8, z9, .val (.ref am0), .val (.ref st0), z12, .val (.int sz), .val (.int (1 : Int32)), z15] [(.int (0 : Int32)), (.ref st0)])) rfl (by rw [hml]; rfl) (Steps.refl _) (argsL := [(.int (0 : Int32))]) (rest := []) (lenOf own_pd5 rfl) rfl (by show 2 * 0 + _ ≤ _; exact Nat.le_of_eq rfl) (hb hby at_291) (fun _ _ => ⟨rfl, eq20, (by decide : 4 + 0 ≤ _), (by decide : 12 + 0 ≤ _)⟩)
        dsimp only [Pt.U, Pt.locs, Pt.cells, Pt.slots] at X22 l22 y22 z22 st22 hQ22
        subst l22 y22 z22
        obtain ⟨rfl, Nq22, eq22⟩ := hQ22
        have N22 := Fr.app N20 Nq22
        refine own_tr st22 ?_
        show own_Gl _ _ _ _ _ _ _ _ (T22.setTop (mkF m 294 #[.val (.int p0), .val (.int p1), .val (.int p2), .val (.int p3), z4, z5, z6, z7, z8, z9, .val (.ref am0), .val (.ref st0), z12, .val (.int sz), .val (.int (1 : Int32)), z15] [(.int (own_con D.2.1 (0 : Int32)))]))
        refine own_st (A' := T22.setTop (mkF m 299 #[.val (.int p0), .val (.int p1), .val (.int p2), .val (.int p3), z4, z5, z6, z7, z8, z9, .val (.ref am0), .val (.ref st0), z12, .val (.int sz), .val (.int (1 : Int32)), z15] [(.int (0 : Int32)), (.int sz), (.ref am0), (.int (own_con D.2.1 (0 : Int32)))])) (fun tg kt => ?_) ?_
        · show Steps p.tables e below (T22.setTop (mkF m 294 #[.val (.int p0), .val (.int p1), .val (.int p2), .val (.int p3), z4, z5, z6, z7, z8, z9, .val (.ref am0), .val (.ref st0), z12, .val (.int sz), .val (.int (1 : Int32)), z15] [(.int (own_con D.2.1 (0 : Int32)))])) _
          refine XS.aload X22.here hx rfl (hb hby at_294) rfl rfl ?_
          show Steps p.tables e below (T22.setTop (mkF m 296 #[.val (.int p0), .val (.int p1), .val (.int p2), .val (.int p3), z4, z5, z6, z7, z8, z9, .val (.ref am0), .val (.ref st0), z12, .val (.int sz), .val (.int (1 : Int32)), z15] [(.ref am0), (.int (own_con D.2.1 (0 : Int32)))])) _
          refine XS.iload X22.here hx rfl (hb hby at_296) rfl ?_
          show Steps p.tables e below (T22.setTop (mkF m 298 #[.val (.int p0), .val (.int p1), .val (.int p2), .val (.int p3), z4, z5, z6, z7, z8, z9, .val (.ref am0), .val (.ref st0), z12, .val (.int sz), .val (.int (1 : Int32)), z15] [(.int sz), (.ref am0), (.int (own_con D.2.1 (0 : Int32)))])) _
          refine XS.iconst X22.here hx rfl (hb hby at_298) ?_
          exact kt
        obtain ⟨_, _, ⟨T23, L23, k23, n23⟩, -, X23, ⟨Lc23, hQ23, l23, y23, z23⟩, st23⟩ := Jvm.LawKit.callS X22 hx (y := (⟨"com/example/slotpack/slotpack/IndexSetRemovePinLaw", "inSet", "([III)Z"⟩ : MethodName)) hown (mvT hZ (hw _ (List.mem_of_getElem? (i := 45) rfl))) (mvT hZ (hw _ (List.mem_of_getElem? (i := 46) rfl))) (mvT hZ (hw _ (List.mem_of_getElem? (i := 33) rfl))) (mvT hZ (hw _ (List.mem_of_getElem? (i := 47) rfl))) (by decide) (backOf (W := 1) (rm9 l Z a0 hw [] am0 sz (0 : Int32) km mm ht n0 Zt Vt gm) hZ (hw _ (List.mem_of_getElem? (i := 47) rfl)) (hw _ (List.mem_of_getElem? (i := 33) rfl)) (by decide) (by decide)) (g := (mkF m 299 #[.val (.int p0), .val (.int p1), .val (.int p2), .val (.int p3), z4, z5, z6, z7, z8, z9, .val (.ref am0), .val (.ref st0), z12, .val (.int sz), .val (.int (1 : Int32)), z15] [(.int (0 : Int32)), (.int sz), (.ref am0), (.int (own_con D.2.1 (0 : Int32)))])) rfl (by rw [hml]; rfl) (argsL := [(.ref am0), (.int sz), (.int (0 : Int32))]) (rest := [(.int (own_con D.2.1 (0 : Int32)))]) (lenOf own_pd6 rfl) rfl (by show 2 * 0 + _ ≤ _; exact Nat.le_of_eq rfl) (hb hby at_299) (fun _ _ => ⟨rfl, eq22, (by decide : 4 + 0 ≤ _), (by decide : 12 + 0 ≤ _)⟩)
        dsimp only [Pt.U, Pt.locs, Pt.cells, Pt.slots] at X23 l23 y23 z23 st23 hQ23
        subst l23 y23 z23
        obtain ⟨rfl, Nq23, eq23⟩ := hQ23
        have N23 := Fr.app N22 Nq23
        refine own_st st23 ?_
        show own_Gl _ _ _ _ _ _ _ _ (T23.setTop (mkF m 302 #[.val (.int p0), .val (.int p1), .val (.int p2), .val (.int p3), z4, z5, z6, z7, z8, z9, .val (.ref am0), .val (.ref st0), z12, .val (.int sz), .val (.int (1 : Int32)), z15] [(.int (own_ins mm sz (0 : Int32))), (.int (own_con D.2.1 (0 : Int32)))]))
        refine own_st (A' := T23.setTop (mkF m 320 #[.val (.int p0), .val (.int p1), .val (.int p2), .val (.int p3), z4, z5, z6, z7, z8, z9, .val (.ref am0), .val (.ref st0), z12, .val (.int sz), .val (.int (1 : Int32)), z15] [(.int (1 : Int32)), (.ref st0)])) (fun tg kt => ?_) ?_
        · show Steps p.tables e below (T23.setTop (mkF m 302 #[.val (.int p0), .val (.int p1), .val (.int p2), .val (.int p3), z4, z5, z6, z7, z8, z9, .val (.ref am0), .val (.ref st0), z12, .val (.int sz), .val (.int (1 : Int32)), z15] [(.int (own_ins mm sz (0 : Int32))), (.int (own_con D.2.1 (0 : Int32)))])) _
          refine XS.icmpNo X23.here hx rfl (hb hby at_302) rfl (teq (hf.2.2.2.1 : (own_con D.2.1 (0 : Int32)) = (own_ins mm sz (0 : Int32)))).2 ?_
          show Steps p.tables e below (T23.setTop (mkF m 305 #[.val (.int p0), .val (.int p1), .val (.int p2), .val (.int p3), z4, z5, z6, z7, z8, z9, .val (.ref am0), .val (.ref st0), z12, .val (.int sz), .val (.int (1 : Int32)), z15] [])) _
          refine XS.iconst X23.here hx rfl (hb hby at_305) ?_
          show Steps p.tables e below (T23.setTop (mkF m 306 #[.val (.int p0), .val (.int p1), .val (.int p2), .val (.int p3), z4, z5, z6, z7, z8, z9, .val (.ref am0), .val (.ref st0), z12, .val (.int sz), .val (.int (1 : Int32)), z15] [(.int (1 : Int32))])) _
          refine XS.goto X23.here hx rfl (pc0 := 306) (pc' := 310) rfl (hb hby at_306) (by decide) (by decide) ?_
          show Steps p.tables e below (T23.setTop (mkF m 310 #[.val (.int p0), .val (.int p1), .val (.int p2), .val (.int p3), z4, z5, z6, z7, z8, z9, .val (.ref am0), .val (.ref st0), z12, .val (.int sz), .val (.int (1 : Int32)), z15] [(.int (1 : Int32))])) _
          refine XS.istore X23.here hx rfl (hb hby at_310) rfl (l' := #[.val (.int p0), .val (.int p1), .val (.int p2), .val (.int p3), z4, z5, z6, z7, z8, z9, .val (.ref am0), .val (.ref st0), z12, .val (.int sz), .val (.int (1 : Int32)), z15]) rfl ?_
          show Steps p.tables e below (T23.setTop (mkF m 312 #[.val (.int p0), .val (.int p1), .val (.int p2), .val (.int p3), z4, z5, z6, z7, z8, z9, .val (.ref am0), .val (.ref st0), z12, .val (.int sz), .val (.int (1 : Int32)), z15] [])) _
          refine XS.iload X23.here hx rfl (hb hby at_312) rfl ?_
          show Steps p.tables e below (T23.setTop (mkF m 314 #[.val (.int p0), .val (.int p1), .val (.int p2), .val (.int p3), z4, z5, z6, z7, z8, z9, .val (.ref am0), .val (.ref st0), z12, .val (.int sz), .val (.int (1 : Int32)), z15] [(.int (1 : Int32))])) _
          refine XS.ifNo X23.here hx rfl (hb hby at_314) rfl ((if0 _ _).trans (feq ((by decide) : ¬ ((1 : Int32) = (0 : Int32)))).1) ?_
          show Steps p.tables e below (T23.setTop (mkF m 317 #[.val (.int p0), .val (.int p1), .val (.int p2), .val (.int p3), z4, z5, z6, z7, z8, z9, .val (.ref am0), .val (.ref st0), z12, .val (.int sz), .val (.int (1 : Int32)), z15] [])) _
          refine XS.aload X23.here hx rfl (hb hby at_317) rfl rfl ?_
          show Steps p.tables e below (T23.setTop (mkF m 319 #[.val (.int p0), .val (.int p1), .val (.int p2), .val (.int p3), z4, z5, z6, z7, z8, z9, .val (.ref am0), .val (.ref st0), z12, .val (.int sz), .val (.int (1 : Int32)), z15] [(.ref st0)])) _
          refine XS.iconst X23.here hx rfl (hb hby at_319) ?_
          exact kt
        obtain ⟨cq24, kq24, q24a, q24b, q24c⟩ := isOf hZ eq23 ISt.1
        obtain ⟨_, _, ⟨T24, L24, k24, n24⟩, -, X24, ⟨Lc24, hQ24, l24, y24, z24⟩, st24⟩ := X23.virtualBack hx (y := (⟨"com/example/slotpack/slotpack/IndexSet", "contains", "(I)Z"⟩ : MethodName)) (z := (⟨"com/example/slotpack/slotpack/IndexSet", "contains", "(I)Z"⟩ : MethodName)) hown (mvT hZ (hw _ (List.mem_of_getElem? (i := 40) rfl))) (mvT hZ (hw _ (List.mem_of_getElem? (i := 41) rfl))) (notFace_of_selects (args := #[]) (mvT hZ (hw _ (List.mem_of_getElem? (i := 43) rfl)))) (mvT hZ (hw _ (List.mem_of_getElem? (i := 43) rfl))) (mvT hZ (hw _ (List.mem_of_getElem? (i := 42) rfl))) (by decide) (backOf (W := 0) (rm8 l Z a0 hw [] st0 (1 : Int32)  am ap ka kp D ht n0 Zt ISt geo (by decide)) hZ (hw _ (List.mem_of_getElem? (i := 44) rfl)) (hw _ (List.mem_of_getElem? (i := 4) rfl)) (by decide) (by decide)) q24a q24c (g := (mkF m 320 #[.val (.int p0), .val (.int p1), .val (.int p2), .val (.int p3), z4, z5, z6, z7, z8, z9, .val (.ref am0), .val (.ref st0), z12, .val (.int sz), .val (.int (1 : Int32)), z15] [(.int (1 : Int32)), (.ref st0)])) rfl (by rw [hml]; rfl) (Steps.refl _) (argsL := [(.int (1 : Int32))]) (rest := []) (lenOf own_pd5 rfl) rfl (by show 2 * 0 + _ ≤ _; exact Nat.le_of_eq rfl) (hb hby at_320) (fun _ _ => ⟨rfl, eq23, (by decide : 4 + 0 ≤ _), (by decide : 12 + 0 ≤ _)⟩)
        dsimp only [Pt.U, Pt.locs, Pt.cells, Pt.slots] at X24 l24 y24 z24 st24 hQ24
        subst l24 y24 z24
        obtain ⟨rfl, Nq24, eq24⟩ := hQ24
        have N24 := Fr.app N23 Nq24
        refine own_tr st24 ?_
        show own_Gl _ _ _ _ _ _ _ _ (T24.setTop (mkF m 323 #[.val (.int p0), .val (.int p1), .val (.int p2), .val (.int p3), z4, z5, z6, z7, z8, z9, .val (.ref am0), .val (.ref st0), z12, .val (.int sz), .val (.int (1 : Int32)), z15] [(.int (own_con D.2.1 (1 : Int32)))]))
        refine own_st (A' := T24.setTop (mkF m 328 #[.val (.int p0), .val (.int p1), .val (.int p2), .val (.int p3), z4, z5, z6, z7, z8, z9, .val (.ref am0), .val (.ref st0), z12, .val (.int sz), .val (.int (1 : Int32)), z15] [(.int (1 : Int32)), (.int sz), (.ref am0), (.int (own_con D.2.1 (1 : Int32)))])) (fun tg kt => ?_) ?_
        · show Steps p.tables e below (T24.setTop (mkF m 323 #[.val (.int p0), .val (.int p1), .val (.int p2), .val (.int p3), z4, z5, z6, z7, z8, z9, .val (.ref am0), .val (.ref st0), z12, .val (.int sz), .val (.int (1 : Int32)), z15] [(.int (own_con D.2.1 (1 : Int32)))])) _
          refine XS.aload X24.here hx rfl (hb hby at_323) rfl rfl ?_
          show Steps p.tables e below (T24.setTop (mkF m 325 #[.val (.int p0), .val (.int p1), .val (.int p2), .val (.int p3), z4, z5, z6, z7, z8, z9, .val (.ref am0), .val (.ref st0), z12, .val (.int sz), .val (.int (1 : Int32)), z15] [(.ref am0), (.int (own_con D.2.1 (1 : Int32)))])) _
          refine XS.iload X24.here hx rfl (hb hby at_325) rfl ?_
          show Steps p.tables e below (T24.setTop (mkF m 327 #[.val (.int p0), .val (.int p1), .val (.int p2), .val (.int p3), z4, z5, z6, z7, z8, z9, .val (.ref am0), .val (.ref st0), z12, .val (.int sz), .val (.int (1 : Int32)), z15] [(.int sz), (.ref am0), (.int (own_con D.2.1 (1 : Int32)))])) _
          refine XS.iconst X24.here hx rfl (hb hby at_327) ?_
          exact kt
        obtain ⟨_, _, ⟨T25, L25, k25, n25⟩, -, X25, ⟨Lc25, hQ25, l25, y25, z25⟩, st25⟩ := Jvm.LawKit.callS X24 hx (y := (⟨"com/example/slotpack/slotpack/IndexSetRemovePinLaw", "inSet", "([III)Z"⟩ : MethodName)) hown (mvT hZ (hw _ (List.mem_of_getElem? (i := 45) rfl))) (mvT hZ (hw _ (List.mem_of_getElem? (i := 46) rfl))) (mvT hZ (hw _ (List.mem_of_getElem? (i := 33) rfl))) (mvT hZ (hw _ (List.mem_of_getElem? (i := 47) rfl))) (by decide) (backOf (W := 1) (rm9 l Z a0 hw [] am0 sz (1 : Int32) km mm ht n0 Zt Vt gm) hZ (hw _ (List.mem_of_getElem? (i := 47) rfl)) (hw _ (List.mem_of_getElem? (i := 33) rfl)) (by decide) (by decide)) (g := (mkF m 328 #[.val (.int p0), .val (.int p1), .val (.int p2), .val (.int p3), z4, z5, z6, z7, z8, z9, .val (.ref am0), .val (.ref st0), z12, .val (.int sz), .val (.int (1 : Int32)), z15] [(.int (1 : Int32)), (.int sz), (.ref am0), (.int (own_con D.2.1 (1 : Int32)))])) rfl (by rw [hml]; rfl) (argsL := [(.ref am0), (.int sz), (.int (1 : Int32))]) (rest := [(.int (own_con D.2.1 (1 : Int32)))]) (lenOf own_pd6 rfl) rfl (by show 2 * 0 + _ ≤ _; exact Nat.le_of_eq rfl) (hb hby at_328) (fun _ _ => ⟨rfl, eq24, (by decide : 4 + 0 ≤ _), (by decide : 12 + 0 ≤ _)⟩)
        dsimp only [Pt.U, Pt.locs, Pt.cells, Pt.slots] at X25 l25 y25 z25 st25 hQ25
        subst l25 y25 z25
        obtain ⟨rfl, Nq25, eq25⟩ := hQ25
        have N25 := Fr.app N24 Nq25
        refine own_st st25 ?_
        show own_Gl _ _ _ _ _ _ _ _ (T25.setTop (mkF m 331 #[.val (.int p0), .val (.int p1), .val (.int p2), .val (.int p3), z4, z5, z6, z7, z8, z9, .val (.ref am0), .val (.ref st0), z12, .val (.int sz), .val (.int (1 : Int32)), z15] [(.int (own_ins mm sz (1 : Int32))), (.int (own_con D.2.1 (1 : Int32)))]))
        refine own_st (A' := T25.setTop (mkF m 349 #[.val (.int p0), .val (.int p1), .val (.int p2), .val (.int p3), z4, z5, z6, z7, z8, z9, .val (.ref am0), .val (.ref st0), z12, .val (.int sz), .val (.int (1 : Int32)), z15] [(.int (2 : Int32)), (.ref st0)])) (fun tg kt => ?_) ?_
        · show Steps p.tables e below (T25.setTop (mkF m 331 #[.val (.int p0), .val (.int p1), .val (.int p2), .val (.int p3), z4, z5, z6, z7, z8, z9, .val (.ref am0), .val (.ref st0), z12, .val (.int sz), .val (.int (1 : Int32)), z15] [(.int (own_ins mm sz (1 : Int32))), (.int (own_con D.2.1 (1 : Int32)))])) _
          refine XS.icmpNo X25.here hx rfl (hb hby at_331) rfl (teq (hf.2.2.2.2.1 : (own_con D.2.1 (1 : Int32)) = (own_ins mm sz (1 : Int32)))).2 ?_
          show Steps p.tables e below (T25.setTop (mkF m 334 #[.val (.int p0), .val (.int p1), .val (.int p2), .val (.int p3), z4, z5, z6, z7, z8, z9, .val (.ref am0), .val (.ref st0), z12, .val (.int sz), .val (.int (1 : Int32)), z15] [])) _
          refine XS.iconst X25.here hx rfl (hb hby at_334) ?_
          show Steps p.tables e below (T25.setTop (mkF m 335 #[.val (.int p0), .val (.int p1), .val (.int p2), .val (.int p3), z4, z5, z6, z7, z8, z9, .val (.ref am0), .val (.ref st0), z12, .val (.int sz), .val (.int (1 : Int32)), z15] [(.int (1 : Int32))])) _
          refine XS.goto X25.here hx rfl (pc0 := 335) (pc' := 339) rfl (hb hby at_335) (by decide) (by decide) ?_
          show Steps p.tables e below (T25.setTop (mkF m 339 #[.val (.int p0), .val (.int p1), .val (.int p2), .val (.int p3), z4, z5, z6, z7, z8, z9, .val (.ref am0), .val (.ref st0), z12, .val (.int sz), .val (.int (1 : Int32)), z15] [(.int (1 : Int32))])) _
          refine XS.istore X25.here hx rfl (hb hby at_339) rfl (l' := #[.val (.int p0), .val (.int p1), .val (.int p2), .val (.int p3), z4, z5, z6, z7, z8, z9, .val (.ref am0), .val (.ref st0), z12, .val (.int sz), .val (.int (1 : Int32)), z15]) rfl ?_
          show Steps p.tables e below (T25.setTop (mkF m 341 #[.val (.int p0), .val (.int p1), .val (.int p2), .val (.int p3), z4, z5, z6, z7, z8, z9, .val (.ref am0), .val (.ref st0), z12, .val (.int sz), .val (.int (1 : Int32)), z15] [])) _
          refine XS.iload X25.here hx rfl (hb hby at_341) rfl ?_
          show Steps p.tables e below (T25.setTop (mkF m 343 #[.val (.int p0), .val (.int p1), .val (.int p2), .val (.int p3), z4, z5, z6, z7, z8, z9, .val (.ref am0), .val (.ref st0), z12, .val (.int sz), .val (.int (1 : Int32)), z15] [(.int (1 : Int32))])) _
          refine XS.ifNo X25.here hx rfl (hb hby at_343) rfl ((if0 _ _).trans (feq ((by decide) : ¬ ((1 : Int32) = (0 : Int32)))).1) ?_
          show Steps p.tables e below (T25.setTop (mkF m 346 #[.val (.int p0), .val (.int p1), .val (.int p2), .val (.int p3), z4, z5, z6, z7, z8, z9, .val (.ref am0), .val (.ref st0), z12, .val (.int sz), .val (.int (1 : Int32)), z15] [])) _
          refine XS.aload X25.here hx rfl (hb hby at_346) rfl rfl ?_
          show Steps p.tables e below (T25.setTop (mkF m 348 #[.val (.int p0), .val (.int p1), .val (.int p2), .val (.int p3), z4, z5, z6, z7, z8, z9, .val (.ref am0), .val (.ref st0), z12, .val (.int sz), .val (.int (1 : Int32)), z15] [(.ref st0)])) _
          refine XS.iconst X25.here hx rfl (hb hby at_348) ?_
          exact kt
        obtain ⟨cq26, kq26, q26a, q26b, q26c⟩ := isOf hZ eq25 ISt.1
        obtain ⟨_, _, ⟨T26, L26, k26, n26⟩, -, X26, ⟨Lc26, hQ26, l26, y26, z26⟩, st26⟩ := X25.virtualBack hx (y := (⟨"com/example/slotpack/slotpack/IndexSet", "contains", "(I)Z"⟩ : MethodName)) (z := (⟨"com/example/slotpack/slotpack/IndexSet", "contains", "(I)Z"⟩ : MethodName)) hown (mvT hZ (hw _ (List.mem_of_getElem? (i := 40) rfl))) (mvT hZ (hw _ (List.mem_of_getElem? (i := 41) rfl))) (notFace_of_selects (args := #[]) (mvT hZ (hw _ (List.mem_of_getElem? (i := 43) rfl)))) (mvT hZ (hw _ (List.mem_of_getElem? (i := 43) rfl))) (mvT hZ (hw _ (List.mem_of_getElem? (i := 42) rfl))) (by decide) (backOf (W := 0) (rm8 l Z a0 hw [] st0 (2 : Int32)  am ap ka kp D ht n0 Zt ISt geo (by decide)) hZ (hw _ (List.mem_of_getElem? (i := 44) rfl)) (hw _ (List.mem_of_getElem? (i := 4) rfl)) (by decide) (by decide)) q26a q26c (g := (mkF m 349 #[.val (.int p0), .val (.int p1), .val (.int p2), .val (.int p3), z4, z5, z6, z7, z8, z9, .val (.ref am0), .val (.ref st0), z12, .val (.int sz), .val (.int (1 : Int32)), z15] [(.int (2 : Int32)), (.ref st0)])) rfl (by rw [hml]; rfl) (Steps.refl _) (argsL := [(.int (2 : Int32))]) (rest := []) (lenOf own_pd5 rfl) rfl (by show 2 * 0 + _ ≤ _; exact Nat.le_of_eq rfl) (hb hby at_349) (fun _ _ => ⟨rfl, eq25, (by decide : 4 + 0 ≤ _), (by decide : 12 + 0 ≤ _)⟩)
        dsimp only [Pt.U, Pt.locs, Pt.cells, Pt.slots] at X26 l26 y26 z26 st26 hQ26
        subst l26 y26 z26
        obtain ⟨rfl, Nq26, eq26⟩ := hQ26
        have N26 := Fr.app N25 Nq26
        refine own_tr st26 ?_
        show own_Gl _ _ _ _ _ _ _ _ (T26.setTop (mkF m 352 #[.val (.int p0), .val (.int p1), .val (.int p2), .val (.int p3), z4, z5, z6, z7, z8, z9, .val (.ref am0), .val (.ref st0), z12, .val (.int sz), .val (.int (1 : Int32)), z15] [(.int (own_con D.2.1 (2 : Int32)))]))
        refine own_st (A' := T26.setTop (mkF m 357 #[.val (.int p0), .val (.int p1), .val (.int p2), .val (.int p3), z4, z5, z6, z7, z8, z9, .val (.ref am0), .val (.ref st0), z12, .val (.int sz), .val (.int (1 : Int32)), z15] [(.int (2 : Int32)), (.int sz), (.ref am0), (.int (own_con D.2.1 (2 : Int32)))])) (fun tg kt => ?_) ?_
        · show Steps p.tables e below (T26.setTop (mkF m 352 #[.val (.int p0), .val (.int p1), .val (.int p2), .val (.int p3), z4, z5, z6, z7, z8, z9, .val (.ref am0), .val (.ref st0), z12, .val (.int sz), .val (.int (1 : Int32)), z15] [(.int (own_con D.2.1 (2 : Int32)))])) _
          refine XS.aload X26.here hx rfl (hb hby at_352) rfl rfl ?_
          show Steps p.tables e below (T26.setTop (mkF m 354 #[.val (.int p0), .val (.int p1), .val (.int p2), .val (.int p3), z4, z5, z6, z7, z8, z9, .val (.ref am0), .val (.ref st0), z12, .val (.int sz), .val (.int (1 : Int32)), z15] [(.ref am0), (.int (own_con D.2.1 (2 : Int32)))])) _
          refine XS.iload X26.here hx rfl (hb hby at_354) rfl ?_
          show Steps p.tables e below (T26.setTop (mkF m 356 #[.val (.int p0), .val (.int p1), .val (.int p2), .val (.int p3), z4, z5, z6, z7, z8, z9, .val (.ref am0), .val (.ref st0), z12, .val (.int sz), .val (.int (1 : Int32)), z15] [(.int sz), (.ref am0), (.int (own_con D.2.1 (2 : Int32)))])) _
          refine XS.iconst X26.here hx rfl (hb hby at_356) ?_
          exact kt
        obtain ⟨_, _, ⟨T27, L27, k27, n27⟩, -, X27, ⟨Lc27, hQ27, l27, y27, z27⟩, st27⟩ := Jvm.LawKit.callS X26 hx (y := (⟨"com/example/slotpack/slotpack/IndexSetRemovePinLaw", "inSet", "([III)Z"⟩ : MethodName)) hown (mvT hZ (hw _ (List.mem_of_getElem? (i := 45) rfl))) (mvT hZ (hw _ (List.mem_of_getElem? (i := 46) rfl))) (mvT hZ (hw _ (List.mem_of_getElem? (i := 33) rfl))) (mvT hZ (hw _ (List.mem_of_getElem? (i := 47) rfl))) (by decide) (backOf (W := 1) (rm9 l Z a0 hw [] am0 sz (2 : Int32) km mm ht n0 Zt Vt gm) hZ (hw _ (List.mem_of_getElem? (i := 47) rfl)) (hw _ (List.mem_of_getElem? (i := 33) rfl)) (by decide) (by decide)) (g := (mkF m 357 #[.val (.int p0), .val (.int p1), .val (.int p2), .val (.int p3), z4, z5, z6, z7, z8, z9, .val (.ref am0), .val (.ref st0), z12, .val (.int sz), .val (.int (1 : Int32)), z15] [(.int (2 : Int32)), (.int sz), (.ref am0), (.int (own_con D.2.1 (2 : Int32)))])) rfl (by rw [hml]; rfl) (argsL := [(.ref am0), (.int sz), (.int (2 : Int32))]) (rest := [(.int (own_con D.2.1 (2 : Int32)))]) (lenOf own_pd6 rfl) rfl (by show 2 * 0 + _ ≤ _; exact Nat.le_of_eq rfl) (hb hby at_357) (fun _ _ => ⟨rfl, eq26, (by decide : 4 + 0 ≤ _), (by decide : 12 + 0 ≤ _)⟩)
        dsimp only [Pt.U, Pt.locs, Pt.cells, Pt.slots] at X27 l27 y27 z27 st27 hQ27
        subst l27 y27 z27
        obtain ⟨rfl, Nq27, eq27⟩ := hQ27
        have N27 := Fr.app N26 Nq27
        refine own_st st27 ?_
        show own_Gl _ _ _ _ _ _ _ _ (T27.setTop (mkF m 360 #[.val (.int p0), .val (.int p1), .val (.int p2), .val (.int p3), z4, z5, z6, z7, z8, z9, .val (.ref am0), .val (.ref st0), z12, .val (.int sz), .val (.int (1 : Int32)), z15] [(.int (own_ins mm sz (2 : Int32))), (.int (own_con D.2.1 (2 : Int32)))]))
        refine own_st (A' := T27.setTop (mkF m 372 #[.val (.int p0), .val (.int p1), .val (.int p2), .val (.int p3), z4, z5, z6, z7, z8, z9, .val (.ref am0), .val (.ref st0), z12, .val (.int sz), .val (.int (1 : Int32)), z15] [(.int (1 : Int32))])) (fun tg kt => ?_) ?_
        · show Steps p.tables e below (T27.setTop (mkF m 360 #[.val (.int p0), .val (.int p1), .val (.int p2), .val (.int p3), z4, z5, z6, z7, z8, z9, .val (.ref am0), .val (.ref st0), z12, .val (.int sz), .val (.int (1 : Int32)), z15] [(.int (own_ins mm sz (2 : Int32))), (.int (own_con D.2.1 (2 : Int32)))])) _
          refine XS.icmpNo X27.here hx rfl (hb hby at_360) rfl (teq (hf.2.2.2.2.2 : (own_con D.2.1 (2 : Int32)) = (own_ins mm sz (2 : Int32)))).2 ?_
          show Steps p.tables e below (T27.setTop (mkF m 363 #[.val (.int p0), .val (.int p1), .val (.int p2), .val (.int p3), z4, z5, z6, z7, z8, z9, .val (.ref am0), .val (.ref st0), z12, .val (.int sz), .val (.int (1 : Int32)), z15] [])) _
          refine XS.iconst X27.here hx rfl (hb hby at_363) ?_
          show Steps p.tables e below (T27.setTop (mkF m 364 #[.val (.int p0), .val (.int p1), .val (.int p2), .val (.int p3), z4, z5, z6, z7, z8, z9, .val (.ref am0), .val (.ref st0), z12, .val (.int sz), .val (.int (1 : Int32)), z15] [(.int (1 : Int32))])) _
          refine XS.goto X27.here hx rfl (pc0 := 364) (pc' := 368) rfl (hb hby at_364) (by decide) (by decide) ?_
          show Steps p.tables e below (T27.setTop (mkF m 368 #[.val (.int p0), .val (.int p1), .val (.int p2), .val (.int p3), z4, z5, z6, z7, z8, z9, .val (.ref am0), .val (.ref st0), z12, .val (.int sz), .val (.int (1 : Int32)), z15] [(.int (1 : Int32))])) _
          refine XS.istore X27.here hx rfl (hb hby at_368) rfl (l' := #[.val (.int p0), .val (.int p1), .val (.int p2), .val (.int p3), z4, z5, z6, z7, z8, z9, .val (.ref am0), .val (.ref st0), z12, .val (.int sz), .val (.int (1 : Int32)), z15]) rfl ?_
          show Steps p.tables e below (T27.setTop (mkF m 370 #[.val (.int p0), .val (.int p1), .val (.int p2), .val (.int p3), z4, z5, z6, z7, z8, z9, .val (.ref am0), .val (.ref st0), z12, .val (.int sz), .val (.int (1 : Int32)), z15] [])) _
          refine XS.iload X27.here hx rfl (hb hby at_370) rfl ?_
          exact kt
        refine own_ret X27 (v := some (.int (1 : Int32))) (fun h => by rw [Bd.returns] at h; cases h) hlk (by decide) (by decide) ?_ (fun fs hr => ?_)
        · show Q0 Z p0 p1 p2 p3 h0 n0 (some (.int (1 : Int32))) T27.heap _
          rw [eq27]
          exact ⟨rfl, N27⟩
        · show Steps p.tables e below (T27.setTop (mkF m 372 #[.val (.int p0), .val (.int p1), .val (.int p2), .val (.int p3), z4, z5, z6, z7, z8, z9, .val (.ref am0), .val (.ref st0), z12, .val (.int sz), .val (.int (1 : Int32)), z15] [(.int (1 : Int32))])) _
          exact retN X27 hx (t := .boolean) Bd.returns (by simp) (hb hby at_372) hr
      · refine own_st (A' := Tt.setTop (mkF m 291 #[.val (.int p0), .val (.int p1), .val (.int p2), .val (.int p3), z4, z5, z6, z7, z8, z9, .val (.ref am0), .val (.ref st0), z12, .val (.int sz), .val (.int (1 : Int32)), z15] [(.int (0 : Int32)), (.ref st0)])) (fun tg kt => ?_) ?_
        · show Steps p.tables e below (Tt.setTop (mkF m 255 #[.val (.int p0), .val (.int p1), .val (.int p2), .val (.int p3), z4, z5, z6, z7, z8, z9, .val (.ref am0), .val (.ref st0), z12, .val (.int sz), .val (.int (1 : Int32)), z15] [(.int (1 : Int32)), (.int sz)])) _
          refine XS.icmpYes Xt.here hx rfl (pc0 := 255) (pc' := 283) rfl (hb hby at_255) rfl (flt hc255_19).2.2.2 (by decide) (by decide) ?_
          show Steps p.tables e below (Tt.setTop (mkF m 283 #[.val (.int p0), .val (.int p1), .val (.int p2), .val (.int p3), z4, z5, z6, z7, z8, z9, .val (.ref am0), .val (.ref st0), z12, .val (.int sz), .val (.int (1 : Int32)), z15] [])) _
          refine XS.iload Xt.here hx rfl (hb hby at_283) rfl ?_
          show Steps p.tables e below (Tt.setTop (mkF m 285 #[.val (.int p0), .val (.int p1), .val (.int p2), .val (.int p3), z4, z5, z6, z7, z8, z9, .val (.ref am0), .val (.ref st0), z12, .val (.int sz), .val (.int (1 : Int32)), z15] [(.int (1 : Int32))])) _
          refine XS.ifNo Xt.here hx rfl (hb hby at_285) rfl ((if0 _ _).trans (feq ((by decide) : ¬ ((1 : Int32) = (0 : Int32)))).1) ?_
          show Steps p.tables e below (Tt.setTop (mkF m 288 #[.val (.int p0), .val (.int p1), .val (.int p2), .val (.int p3), z4, z5, z6, z7, z8, z9, .val (.ref am0), .val (.ref st0), z12, .val (.int sz), .val (.int (1 : Int32)), z15] [])) _
          refine XS.aload Xt.here hx rfl (hb hby at_288) rfl rfl ?_
          show Steps p.tables e below (Tt.setTop (mkF m 290 #[.val (.int p0), .val (.int p1), .val (.int p2), .val (.int p3), z4, z5, z6, z7, z8, z9, .val (.ref am0), .val (.ref st0), z12, .val (.int sz), .val (.int (1 : Int32)), z15] [(.ref st0)])) _
          refine XS.iconst Xt.here hx rfl (hb hby at_290) ?_
          exact kt
        obtain ⟨cq28, kq28, q28a, q28b, q28c⟩ := isOf hZ et ISt.1
        obtain ⟨_, _, ⟨T28, L28, k28, n28⟩, -, X28, ⟨Lc28, hQ28, l28, y28, z28⟩, st28⟩ := Xt.virtualBack hx (y := (⟨"com/example/slotpack/slotpack/IndexSet", "contains", "(I)Z"⟩ : MethodName)) (z := (⟨"com/example/slotpack/slotpack/IndexSet", "contains", "(I)Z"⟩ : MethodName)) hown (mvT hZ (hw _ (List.mem_of_getElem? (i := 40) rfl))) (mvT hZ (hw _ (List.mem_of_getElem? (i := 41) rfl))) (notFace_of_selects (args := #[]) (mvT hZ (hw _ (List.mem_of_getElem? (i := 43) rfl)))) (mvT hZ (hw _ (List.mem_of_getElem? (i := 43) rfl))) (mvT hZ (hw _ (List.mem_of_getElem? (i := 42) rfl))) (by decide) (backOf (W := 0) (rm8 l Z a0 hw [] st0 (0 : Int32)  am ap ka kp D ht n0 Zt ISt geo (by decide)) hZ (hw _ (List.mem_of_getElem? (i := 44) rfl)) (hw _ (List.mem_of_getElem? (i := 4) rfl)) (by decide) (by decide)) q28a q28c (g := (mkF m 291 #[.val (.int p0), .val (.int p1), .val (.int p2), .val (.int p3), z4, z5, z6, z7, z8, z9, .val (.ref am0), .val (.ref st0), z12, .val (.int sz), .val (.int (1 : Int32)), z15] [(.int (0 : Int32)), (.ref st0)])) rfl (by rw [hml]; rfl) (Steps.refl _) (argsL := [(.int (0 : Int32))]) (rest := []) (lenOf own_pd5 rfl) rfl (by show 2 * 0 + _ ≤ _; exact Nat.le_of_eq rfl) (hb hby at_291) (fun _ _ => ⟨rfl, et, (by decide : 4 + 0 ≤ _), (by decide : 12 + 0 ≤ _)⟩)
        dsimp only [Pt.U, Pt.locs, Pt.cells, Pt.slots] at X28 l28 y28 z28 st28 hQ28
        subst l28 y28 z28
        obtain ⟨rfl, Nq28, eq28⟩ := hQ28
        have N28 := Fr.app Nt Nq28
        refine own_tr st28 ?_
        show own_Gl _ _ _ _ _ _ _ _ (T28.setTop (mkF m 294 #[.val (.int p0), .val (.int p1), .val (.int p2), .val (.int p3), z4, z5, z6, z7, z8, z9, .val (.ref am0), .val (.ref st0), z12, .val (.int sz), .val (.int (1 : Int32)), z15] [(.int (own_con D.2.1 (0 : Int32)))]))
        refine own_st (A' := T28.setTop (mkF m 299 #[.val (.int p0), .val (.int p1), .val (.int p2), .val (.int p3), z4, z5, z6, z7, z8, z9, .val (.ref am0), .val (.ref st0), z12, .val (.int sz), .val (.int (1 : Int32)), z15] [(.int (0 : Int32)), (.int sz), (.ref am0), (.int (own_con D.2.1 (0 : Int32)))])) (fun tg kt => ?_) ?_
        · show Steps p.tables e below (T28.setTop (mkF m 294 #[.val (.int p0), .val (.int p1), .val (.int p2), .val (.int p3), z4, z5, z6, z7, z8, z9, .val (.ref am0), .val (.ref st0), z12, .val (.int sz), .val (.int (1 : Int32)), z15] [(.int (own_con D.2.1 (0 : Int32)))])) _
          refine XS.aload X28.here hx rfl (hb hby at_294) rfl rfl ?_
          show Steps p.tables e below (T28.setTop (mkF m 296 #[.val (.int p0), .val (.int p1), .val (.int p2), .val (.int p3), z4, z5, z6, z7, z8, z9, .val (.ref am0), .val (.ref st0), z12, .val (.int sz), .val (.int (1 : Int32)), z15] [(.ref am0), (.int (own_con D.2.1 (0 : Int32)))])) _
          refine XS.iload X28.here hx rfl (hb hby at_296) rfl ?_
          show Steps p.tables e below (T28.setTop (mkF m 298 #[.val (.int p0), .val (.int p1), .val (.int p2), .val (.int p3), z4, z5, z6, z7, z8, z9, .val (.ref am0), .val (.ref st0), z12, .val (.int sz), .val (.int (1 : Int32)), z15] [(.int sz), (.ref am0), (.int (own_con D.2.1 (0 : Int32)))])) _
          refine XS.iconst X28.here hx rfl (hb hby at_298) ?_
          exact kt
        obtain ⟨_, _, ⟨T29, L29, k29, n29⟩, -, X29, ⟨Lc29, hQ29, l29, y29, z29⟩, st29⟩ := Jvm.LawKit.callS X28 hx (y := (⟨"com/example/slotpack/slotpack/IndexSetRemovePinLaw", "inSet", "([III)Z"⟩ : MethodName)) hown (mvT hZ (hw _ (List.mem_of_getElem? (i := 45) rfl))) (mvT hZ (hw _ (List.mem_of_getElem? (i := 46) rfl))) (mvT hZ (hw _ (List.mem_of_getElem? (i := 33) rfl))) (mvT hZ (hw _ (List.mem_of_getElem? (i := 47) rfl))) (by decide) (backOf (W := 1) (rm9 l Z a0 hw [] am0 sz (0 : Int32) km mm ht n0 Zt Vt gm) hZ (hw _ (List.mem_of_getElem? (i := 47) rfl)) (hw _ (List.mem_of_getElem? (i := 33) rfl)) (by decide) (by decide)) (g := (mkF m 299 #[.val (.int p0), .val (.int p1), .val (.int p2), .val (.int p3), z4, z5, z6, z7, z8, z9, .val (.ref am0), .val (.ref st0), z12, .val (.int sz), .val (.int (1 : Int32)), z15] [(.int (0 : Int32)), (.int sz), (.ref am0), (.int (own_con D.2.1 (0 : Int32)))])) rfl (by rw [hml]; rfl) (argsL := [(.ref am0), (.int sz), (.int (0 : Int32))]) (rest := [(.int (own_con D.2.1 (0 : Int32)))]) (lenOf own_pd6 rfl) rfl (by show 2 * 0 + _ ≤ _; exact Nat.le_of_eq rfl) (hb hby at_299) (fun _ _ => ⟨rfl, eq28, (by decide : 4 + 0 ≤ _), (by decide : 12 + 0 ≤ _)⟩)
        dsimp only [Pt.U, Pt.locs, Pt.cells, Pt.slots] at X29 l29 y29 z29 st29 hQ29
        subst l29 y29 z29
        obtain ⟨rfl, Nq29, eq29⟩ := hQ29
        have N29 := Fr.app N28 Nq29
        refine own_st st29 ?_
        show own_Gl _ _ _ _ _ _ _ _ (T29.setTop (mkF m 302 #[.val (.int p0), .val (.int p1), .val (.int p2), .val (.int p3), z4, z5, z6, z7, z8, z9, .val (.ref am0), .val (.ref st0), z12, .val (.int sz), .val (.int (1 : Int32)), z15] [(.int (own_ins mm sz (0 : Int32))), (.int (own_con D.2.1 (0 : Int32)))]))
        refine own_st (A' := T29.setTop (mkF m 320 #[.val (.int p0), .val (.int p1), .val (.int p2), .val (.int p3), z4, z5, z6, z7, z8, z9, .val (.ref am0), .val (.ref st0), z12, .val (.int sz), .val (.int (1 : Int32)), z15] [(.int (1 : Int32)), (.ref st0)])) (fun tg kt => ?_) ?_
        · show Steps p.tables e below (T29.setTop (mkF m 302 #[.val (.int p0), .val (.int p1), .val (.int p2), .val (.int p3), z4, z5, z6, z7, z8, z9, .val (.ref am0), .val (.ref st0), z12, .val (.int sz), .val (.int (1 : Int32)), z15] [(.int (own_ins mm sz (0 : Int32))), (.int (own_con D.2.1 (0 : Int32)))])) _
          refine XS.icmpNo X29.here hx rfl (hb hby at_302) rfl (teq (hf.2.2.2.1 : (own_con D.2.1 (0 : Int32)) = (own_ins mm sz (0 : Int32)))).2 ?_
          show Steps p.tables e below (T29.setTop (mkF m 305 #[.val (.int p0), .val (.int p1), .val (.int p2), .val (.int p3), z4, z5, z6, z7, z8, z9, .val (.ref am0), .val (.ref st0), z12, .val (.int sz), .val (.int (1 : Int32)), z15] [])) _
          refine XS.iconst X29.here hx rfl (hb hby at_305) ?_
          show Steps p.tables e below (T29.setTop (mkF m 306 #[.val (.int p0), .val (.int p1), .val (.int p2), .val (.int p3), z4, z5, z6, z7, z8, z9, .val (.ref am0), .val (.ref st0), z12, .val (.int sz), .val (.int (1 : Int32)), z15] [(.int (1 : Int32))])) _
          refine XS.goto X29.here hx rfl (pc0 := 306) (pc' := 310) rfl (hb hby at_306) (by decide) (by decide) ?_
          show Steps p.tables e below (T29.setTop (mkF m 310 #[.val (.int p0), .val (.int p1), .val (.int p2), .val (.int p3), z4, z5, z6, z7, z8, z9, .val (.ref am0), .val (.ref st0), z12, .val (.int sz), .val (.int (1 : Int32)), z15] [(.int (1 : Int32))])) _
          refine XS.istore X29.here hx rfl (hb hby at_310) rfl (l' := #[.val (.int p0), .val (.int p1), .val (.int p2), .val (.int p3), z4, z5, z6, z7, z8, z9, .val (.ref am0), .val (.ref st0), z12, .val (.int sz), .val (.int (1 : Int32)), z15]) rfl ?_
          show Steps p.tables e below (T29.setTop (mkF m 312 #[.val (.int p0), .val (.int p1), .val (.int p2), .val (.int p3), z4, z5, z6, z7, z8, z9, .val (.ref am0), .val (.ref st0), z12, .val (.int sz), .val (.int (1 : Int32)), z15] [])) _
          refine XS.iload X29.here hx rfl (hb hby at_312) rfl ?_
          show Steps p.tables e below (T29.setTop (mkF m 314 #[.val (.int p0), .val (.int p1), .val (.int p2), .val (.int p3), z4, z5, z6, z7, z8, z9, .val (.ref am0), .val (.ref st0), z12, .val (.int sz), .val (.int (1 : Int32)), z15] [(.int (1 : Int32))])) _
          refine XS.ifNo X29.here hx rfl (hb hby at_314) rfl ((if0 _ _).trans (feq ((by decide) : ¬ ((1 : Int32) = (0 : Int32)))).1) ?_
          show Steps p.tables e below (T29.setTop (mkF m 317 #[.val (.int p0), .val (.int p1), .val (.int p2), .val (.int p3), z4, z5, z6, z7, z8, z9, .val (.ref am0), .val (.ref st0), z12, .val (.int sz), .val (.int (1 : Int32)), z15] [])) _
          refine XS.aload X29.here hx rfl (hb hby at_317) rfl rfl ?_
          show Steps p.tables e below (T29.setTop (mkF m 319 #[.val (.int p0), .val (.int p1), .val (.int p2), .val (.int p3), z4, z5, z6, z7, z8, z9, .val (.ref am0), .val (.ref st0), z12, .val (.int sz), .val (.int (1 : Int32)), z15] [(.ref st0)])) _
          refine XS.iconst X29.here hx rfl (hb hby at_319) ?_
          exact kt
        obtain ⟨cq30, kq30, q30a, q30b, q30c⟩ := isOf hZ eq29 ISt.1
        obtain ⟨_, _, ⟨T30, L30, k30, n30⟩, -, X30, ⟨Lc30, hQ30, l30, y30, z30⟩, st30⟩ := X29.virtualBack hx (y := (⟨"com/example/slotpack/slotpack/IndexSet", "contains", "(I)Z"⟩ : MethodName)) (z := (⟨"com/example/slotpack/slotpack/IndexSet", "contains", "(I)Z"⟩ : MethodName)) hown (mvT hZ (hw _ (List.mem_of_getElem? (i := 40) rfl))) (mvT hZ (hw _ (List.mem_of_getElem? (i := 41) rfl))) (notFace_of_selects (args := #[]) (mvT hZ (hw _ (List.mem_of_getElem? (i := 43) rfl)))) (mvT hZ (hw _ (List.mem_of_getElem? (i := 43) rfl))) (mvT hZ (hw _ (List.mem_of_getElem? (i := 42) rfl))) (by decide) (backOf (W := 0) (rm8 l Z a0 hw [] st0 (1 : Int32)  am ap ka kp D ht n0 Zt ISt geo (by decide)) hZ (hw _ (List.mem_of_getElem? (i := 44) rfl)) (hw _ (List.mem_of_getElem? (i := 4) rfl)) (by decide) (by decide)) q30a q30c (g := (mkF m 320 #[.val (.int p0), .val (.int p1), .val (.int p2), .val (.int p3), z4, z5, z6, z7, z8, z9, .val (.ref am0), .val (.ref st0), z12, .val (.int sz), .val (.int (1 : Int32)), z15] [(.int (1 : Int32)), (.ref st0)])) rfl (by rw [hml]; rfl) (Steps.refl _) (argsL := [(.int (1 : Int32))]) (rest := []) (lenOf own_pd5 rfl) rfl (by show 2 * 0 + _ ≤ _; exact Nat.le_of_eq rfl) (hb hby at_320) (fun _ _ => ⟨rfl, eq29, (by decide : 4 + 0 ≤ _), (by decide : 12 + 0 ≤ _)⟩)
        dsimp only [Pt.U, Pt.locs, Pt.cells, Pt.slots] at X30 l30 y30 z30 st30 hQ30
        subst l30 y30 z30
        obtain ⟨rfl, Nq30, eq30⟩ := hQ30
        have N30 := Fr.app N29 Nq30
        refine own_tr st30 ?_
        show own_Gl _ _ _ _ _ _ _ _ (T30.setTop (mkF m 323 #[.val (.int p0), .val (.int p1), .val (.int p2), .val (.int p3), z4, z5, z6, z7, z8, z9, .val (.ref am0), .val (.ref st0), z12, .val (.int sz), .val (.int (1 : Int32)), z15] [(.int (own_con D.2.1 (1 : Int32)))]))
        refine own_st (A' := T30.setTop (mkF m 328 #[.val (.int p0), .val (.int p1), .val (.int p2), .val (.int p3), z4, z5, z6, z7, z8, z9, .val (.ref am0), .val (.ref st0), z12, .val (.int sz), .val (.int (1 : Int32)), z15] [(.int (1 : Int32)), (.int sz), (.ref am0), (.int (own_con D.2.1 (1 : Int32)))])) (fun tg kt => ?_) ?_
        · show Steps p.tables e below (T30.setTop (mkF m 323 #[.val (.int p0), .val (.int p1), .val (.int p2), .val (.int p3), z4, z5, z6, z7, z8, z9, .val (.ref am0), .val (.ref st0), z12, .val (.int sz), .val (.int (1 : Int32)), z15] [(.int (own_con D.2.1 (1 : Int32)))])) _
          refine XS.aload X30.here hx rfl (hb hby at_323) rfl rfl ?_
          show Steps p.tables e below (T30.setTop (mkF m 325 #[.val (.int p0), .val (.int p1), .val (.int p2), .val (.int p3), z4, z5, z6, z7, z8, z9, .val (.ref am0), .val (.ref st0), z12, .val (.int sz), .val (.int (1 : Int32)), z15] [(.ref am0), (.int (own_con D.2.1 (1 : Int32)))])) _
          refine XS.iload X30.here hx rfl (hb hby at_325) rfl ?_
          show Steps p.tables e below (T30.setTop (mkF m 327 #[.val (.int p0), .val (.int p1), .val (.int p2), .val (.int p3), z4, z5, z6, z7, z8, z9, .val (.ref am0), .val (.ref st0), z12, .val (.int sz), .val (.int (1 : Int32)), z15] [(.int sz), (.ref am0), (.int (own_con D.2.1 (1 : Int32)))])) _
          refine XS.iconst X30.here hx rfl (hb hby at_327) ?_
          exact kt
        obtain ⟨_, _, ⟨T31, L31, k31, n31⟩, -, X31, ⟨Lc31, hQ31, l31, y31, z31⟩, st31⟩ := Jvm.LawKit.callS X30 hx (y := (⟨"com/example/slotpack/slotpack/IndexSetRemovePinLaw", "inSet", "([III)Z"⟩ : MethodName)) hown (mvT hZ (hw _ (List.mem_of_getElem? (i := 45) rfl))) (mvT hZ (hw _ (List.mem_of_getElem? (i := 46) rfl))) (mvT hZ (hw _ (List.mem_of_getElem? (i := 33) rfl))) (mvT hZ (hw _ (List.mem_of_getElem? (i := 47) rfl))) (by decide) (backOf (W := 1) (rm9 l Z a0 hw [] am0 sz (1 : Int32) km mm ht n0 Zt Vt gm) hZ (hw _ (List.mem_of_getElem? (i := 47) rfl)) (hw _ (List.mem_of_getElem? (i := 33) rfl)) (by decide) (by decide)) (g := (mkF m 328 #[.val (.int p0), .val (.int p1), .val (.int p2), .val (.int p3), z4, z5, z6, z7, z8, z9, .val (.ref am0), .val (.ref st0), z12, .val (.int sz), .val (.int (1 : Int32)), z15] [(.int (1 : Int32)), (.int sz), (.ref am0), (.int (own_con D.2.1 (1 : Int32)))])) rfl (by rw [hml]; rfl) (argsL := [(.ref am0), (.int sz), (.int (1 : Int32))]) (rest := [(.int (own_con D.2.1 (1 : Int32)))]) (lenOf own_pd6 rfl) rfl (by show 2 * 0 + _ ≤ _; exact Nat.le_of_eq rfl) (hb hby at_328) (fun _ _ => ⟨rfl, eq30, (by decide : 4 + 0 ≤ _), (by decide : 12 + 0 ≤ _)⟩)
        dsimp only [Pt.U, Pt.locs, Pt.cells, Pt.slots] at X31 l31 y31 z31 st31 hQ31
        subst l31 y31 z31
        obtain ⟨rfl, Nq31, eq31⟩ := hQ31
        have N31 := Fr.app N30 Nq31
        refine own_st st31 ?_
        show own_Gl _ _ _ _ _ _ _ _ (T31.setTop (mkF m 331 #[.val (.int p0), .val (.int p1), .val (.int p2), .val (.int p3), z4, z5, z6, z7, z8, z9, .val (.ref am0), .val (.ref st0), z12, .val (.int sz), .val (.int (1 : Int32)), z15] [(.int (own_ins mm sz (1 : Int32))), (.int (own_con D.2.1 (1 : Int32)))]))
        refine own_st (A' := T31.setTop (mkF m 349 #[.val (.int p0), .val (.int p1), .val (.int p2), .val (.int p3), z4, z5, z6, z7, z8, z9, .val (.ref am0), .val (.ref st0), z12, .val (.int sz), .val (.int (1 : Int32)), z15] [(.int (2 : Int32)), (.ref st0)])) (fun tg kt => ?_) ?_
        · show Steps p.tables e below (T31.setTop (mkF m 331 #[.val (.int p0), .val (.int p1), .val (.int p2), .val (.int p3), z4, z5, z6, z7, z8, z9, .val (.ref am0), .val (.ref st0), z12, .val (.int sz), .val (.int (1 : Int32)), z15] [(.int (own_ins mm sz (1 : Int32))), (.int (own_con D.2.1 (1 : Int32)))])) _
          refine XS.icmpNo X31.here hx rfl (hb hby at_331) rfl (teq (hf.2.2.2.2.1 : (own_con D.2.1 (1 : Int32)) = (own_ins mm sz (1 : Int32)))).2 ?_
          show Steps p.tables e below (T31.setTop (mkF m 334 #[.val (.int p0), .val (.int p1), .val (.int p2), .val (.int p3), z4, z5, z6, z7, z8, z9, .val (.ref am0), .val (.ref st0), z12, .val (.int sz), .val (.int (1 : Int32)), z15] [])) _
          refine XS.iconst X31.here hx rfl (hb hby at_334) ?_
          show Steps p.tables e below (T31.setTop (mkF m 335 #[.val (.int p0), .val (.int p1), .val (.int p2), .val (.int p3), z4, z5, z6, z7, z8, z9, .val (.ref am0), .val (.ref st0), z12, .val (.int sz), .val (.int (1 : Int32)), z15] [(.int (1 : Int32))])) _
          refine XS.goto X31.here hx rfl (pc0 := 335) (pc' := 339) rfl (hb hby at_335) (by decide) (by decide) ?_
          show Steps p.tables e below (T31.setTop (mkF m 339 #[.val (.int p0), .val (.int p1), .val (.int p2), .val (.int p3), z4, z5, z6, z7, z8, z9, .val (.ref am0), .val (.ref st0), z12, .val (.int sz), .val (.int (1 : Int32)), z15] [(.int (1 : Int32))])) _
          refine XS.istore X31.here hx rfl (hb hby at_339) rfl (l' := #[.val (.int p0), .val (.int p1), .val (.int p2), .val (.int p3), z4, z5, z6, z7, z8, z9, .val (.ref am0), .val (.ref st0), z12, .val (.int sz), .val (.int (1 : Int32)), z15]) rfl ?_
          show Steps p.tables e below (T31.setTop (mkF m 341 #[.val (.int p0), .val (.int p1), .val (.int p2), .val (.int p3), z4, z5, z6, z7, z8, z9, .val (.ref am0), .val (.ref st0), z12, .val (.int sz), .val (.int (1 : Int32)), z15] [])) _
          refine XS.iload X31.here hx rfl (hb hby at_341) rfl ?_
          show Steps p.tables e below (T31.setTop (mkF m 343 #[.val (.int p0), .val (.int p1), .val (.int p2), .val (.int p3), z4, z5, z6, z7, z8, z9, .val (.ref am0), .val (.ref st0), z12, .val (.int sz), .val (.int (1 : Int32)), z15] [(.int (1 : Int32))])) _
          refine XS.ifNo X31.here hx rfl (hb hby at_343) rfl ((if0 _ _).trans (feq ((by decide) : ¬ ((1 : Int32) = (0 : Int32)))).1) ?_
          show Steps p.tables e below (T31.setTop (mkF m 346 #[.val (.int p0), .val (.int p1), .val (.int p2), .val (.int p3), z4, z5, z6, z7, z8, z9, .val (.ref am0), .val (.ref st0), z12, .val (.int sz), .val (.int (1 : Int32)), z15] [])) _
          refine XS.aload X31.here hx rfl (hb hby at_346) rfl rfl ?_
          show Steps p.tables e below (T31.setTop (mkF m 348 #[.val (.int p0), .val (.int p1), .val (.int p2), .val (.int p3), z4, z5, z6, z7, z8, z9, .val (.ref am0), .val (.ref st0), z12, .val (.int sz), .val (.int (1 : Int32)), z15] [(.ref st0)])) _
          refine XS.iconst X31.here hx rfl (hb hby at_348) ?_
          exact kt
        obtain ⟨cq32, kq32, q32a, q32b, q32c⟩ := isOf hZ eq31 ISt.1
        obtain ⟨_, _, ⟨T32, L32, k32, n32⟩, -, X32, ⟨Lc32, hQ32, l32, y32, z32⟩, st32⟩ := X31.virtualBack hx (y := (⟨"com/example/slotpack/slotpack/IndexSet", "contains", "(I)Z"⟩ : MethodName)) (z := (⟨"com/example/slotpack/slotpack/IndexSet", "contains", "(I)Z"⟩ : MethodName)) hown (mvT hZ (hw _ (List.mem_of_getElem? (i := 40) rfl))) (mvT hZ (hw _ (List.mem_of_getElem? (i := 41) rfl))) (notFace_of_selects (args := #[]) (mvT hZ (hw _ (List.mem_of_getElem? (i := 43) rfl)))) (mvT hZ (hw _ (List.mem_of_getElem? (i := 43) rfl))) (mvT hZ (hw _ (List.mem_of_getElem? (i := 42) rfl))) (by decide) (backOf (W := 0) (rm8 l Z a0 hw [] st0 (2 : Int32)  am ap ka kp D ht n0 Zt ISt geo (by decide)) hZ (hw _ (List.mem_of_getElem? (i := 44) rfl)) (hw _ (List.mem_of_getElem? (i := 4) rfl)) (by decide) (by decide)) q32a q32c (g := (mkF m 349 #[.val (.int p0), .val (.int p1), .val (.int p2), .val (.int p3), z4, z5, z6, z7, z8, z9, .val (.ref am0), .val (.ref st0), z12, .val (.int sz), .val (.int (1 : Int32)), z15] [(.int (2 : Int32)), (.ref st0)])) rfl (by rw [hml]; rfl) (Steps.refl _) (argsL := [(.int (2 : Int32))]) (rest := []) (lenOf own_pd5 rfl) rfl (by show 2 * 0 + _ ≤ _; exact Nat.le_of_eq rfl) (hb hby at_349) (fun _ _ => ⟨rfl, eq31, (by decide : 4 + 0 ≤ _), (by decide : 12 + 0 ≤ _)⟩)
        dsimp only [Pt.U, Pt.locs, Pt.cells, Pt.slots] at X32 l32 y32 z32 st32 hQ32
        subst l32 y32 z32
        obtain ⟨rfl, Nq32, eq32⟩ := hQ32
        have N32 := Fr.app N31 Nq32
        refine own_tr st32 ?_
        show own_Gl _ _ _ _ _ _ _ _ (T32.setTop (mkF m 352 #[.val (.int p0), .val (.int p1), .val (.int p2), .val (.int p3), z4, z5, z6, z7, z8, z9, .val (.ref am0), .val (.ref st0), z12, .val (.int sz), .val (.int (1 : Int32)), z15] [(.int (own_con D.2.1 (2 : Int32)))]))
        refine own_st (A' := T32.setTop (mkF m 357 #[.val (.int p0), .val (.int p1), .val (.int p2), .val (.int p3), z4, z5, z6, z7, z8, z9, .val (.ref am0), .val (.ref st0), z12, .val (.int sz), .val (.int (1 : Int32)), z15] [(.int (2 : Int32)), (.int sz), (.ref am0), (.int (own_con D.2.1 (2 : Int32)))])) (fun tg kt => ?_) ?_
        · show Steps p.tables e below (T32.setTop (mkF m 352 #[.val (.int p0), .val (.int p1), .val (.int p2), .val (.int p3), z4, z5, z6, z7, z8, z9, .val (.ref am0), .val (.ref st0), z12, .val (.int sz), .val (.int (1 : Int32)), z15] [(.int (own_con D.2.1 (2 : Int32)))])) _
          refine XS.aload X32.here hx rfl (hb hby at_352) rfl rfl ?_
          show Steps p.tables e below (T32.setTop (mkF m 354 #[.val (.int p0), .val (.int p1), .val (.int p2), .val (.int p3), z4, z5, z6, z7, z8, z9, .val (.ref am0), .val (.ref st0), z12, .val (.int sz), .val (.int (1 : Int32)), z15] [(.ref am0), (.int (own_con D.2.1 (2 : Int32)))])) _
          refine XS.iload X32.here hx rfl (hb hby at_354) rfl ?_
          show Steps p.tables e below (T32.setTop (mkF m 356 #[.val (.int p0), .val (.int p1), .val (.int p2), .val (.int p3), z4, z5, z6, z7, z8, z9, .val (.ref am0), .val (.ref st0), z12, .val (.int sz), .val (.int (1 : Int32)), z15] [(.int sz), (.ref am0), (.int (own_con D.2.1 (2 : Int32)))])) _
          refine XS.iconst X32.here hx rfl (hb hby at_356) ?_
          exact kt
        obtain ⟨_, _, ⟨T33, L33, k33, n33⟩, -, X33, ⟨Lc33, hQ33, l33, y33, z33⟩, st33⟩ := Jvm.LawKit.callS X32 hx (y := (⟨"com/example/slotpack/slotpack/IndexSetRemovePinLaw", "inSet", "([III)Z"⟩ : MethodName)) hown (mvT hZ (hw _ (List.mem_of_getElem? (i := 45) rfl))) (mvT hZ (hw _ (List.mem_of_getElem? (i := 46) rfl))) (mvT hZ (hw _ (List.mem_of_getElem? (i := 33) rfl))) (mvT hZ (hw _ (List.mem_of_getElem? (i := 47) rfl))) (by decide) (backOf (W := 1) (rm9 l Z a0 hw [] am0 sz (2 : Int32) km mm ht n0 Zt Vt gm) hZ (hw _ (List.mem_of_getElem? (i := 47) rfl)) (hw _ (List.mem_of_getElem? (i := 33) rfl)) (by decide) (by decide)) (g := (mkF m 357 #[.val (.int p0), .val (.int p1), .val (.int p2), .val (.int p3), z4, z5, z6, z7, z8, z9, .val (.ref am0), .val (.ref st0), z12, .val (.int sz), .val (.int (1 : Int32)), z15] [(.int (2 : Int32)), (.int sz), (.ref am0), (.int (own_con D.2.1 (2 : Int32)))])) rfl (by rw [hml]; rfl) (argsL := [(.ref am0), (.int sz), (.int (2 : Int32))]) (rest := [(.int (own_con D.2.1 (2 : Int32)))]) (lenOf own_pd6 rfl) rfl (by show 2 * 0 + _ ≤ _; exact Nat.le_of_eq rfl) (hb hby at_357) (fun _ _ => ⟨rfl, eq32, (by decide : 4 + 0 ≤ _), (by decide : 12 + 0 ≤ _)⟩)
        dsimp only [Pt.U, Pt.locs, Pt.cells, Pt.slots] at X33 l33 y33 z33 st33 hQ33
        subst l33 y33 z33
        obtain ⟨rfl, Nq33, eq33⟩ := hQ33
        have N33 := Fr.app N32 Nq33
        refine own_st st33 ?_
        show own_Gl _ _ _ _ _ _ _ _ (T33.setTop (mkF m 360 #[.val (.int p0), .val (.int p1), .val (.int p2), .val (.int p3), z4, z5, z6, z7, z8, z9, .val (.ref am0), .val (.ref st0), z12, .val (.int sz), .val (.int (1 : Int32)), z15] [(.int (own_ins mm sz (2 : Int32))), (.int (own_con D.2.1 (2 : Int32)))]))
        refine own_st (A' := T33.setTop (mkF m 372 #[.val (.int p0), .val (.int p1), .val (.int p2), .val (.int p3), z4, z5, z6, z7, z8, z9, .val (.ref am0), .val (.ref st0), z12, .val (.int sz), .val (.int (1 : Int32)), z15] [(.int (1 : Int32))])) (fun tg kt => ?_) ?_
        · show Steps p.tables e below (T33.setTop (mkF m 360 #[.val (.int p0), .val (.int p1), .val (.int p2), .val (.int p3), z4, z5, z6, z7, z8, z9, .val (.ref am0), .val (.ref st0), z12, .val (.int sz), .val (.int (1 : Int32)), z15] [(.int (own_ins mm sz (2 : Int32))), (.int (own_con D.2.1 (2 : Int32)))])) _
          refine XS.icmpNo X33.here hx rfl (hb hby at_360) rfl (teq (hf.2.2.2.2.2 : (own_con D.2.1 (2 : Int32)) = (own_ins mm sz (2 : Int32)))).2 ?_
          show Steps p.tables e below (T33.setTop (mkF m 363 #[.val (.int p0), .val (.int p1), .val (.int p2), .val (.int p3), z4, z5, z6, z7, z8, z9, .val (.ref am0), .val (.ref st0), z12, .val (.int sz), .val (.int (1 : Int32)), z15] [])) _
          refine XS.iconst X33.here hx rfl (hb hby at_363) ?_
          show Steps p.tables e below (T33.setTop (mkF m 364 #[.val (.int p0), .val (.int p1), .val (.int p2), .val (.int p3), z4, z5, z6, z7, z8, z9, .val (.ref am0), .val (.ref st0), z12, .val (.int sz), .val (.int (1 : Int32)), z15] [(.int (1 : Int32))])) _
          refine XS.goto X33.here hx rfl (pc0 := 364) (pc' := 368) rfl (hb hby at_364) (by decide) (by decide) ?_
          show Steps p.tables e below (T33.setTop (mkF m 368 #[.val (.int p0), .val (.int p1), .val (.int p2), .val (.int p3), z4, z5, z6, z7, z8, z9, .val (.ref am0), .val (.ref st0), z12, .val (.int sz), .val (.int (1 : Int32)), z15] [(.int (1 : Int32))])) _
          refine XS.istore X33.here hx rfl (hb hby at_368) rfl (l' := #[.val (.int p0), .val (.int p1), .val (.int p2), .val (.int p3), z4, z5, z6, z7, z8, z9, .val (.ref am0), .val (.ref st0), z12, .val (.int sz), .val (.int (1 : Int32)), z15]) rfl ?_
          show Steps p.tables e below (T33.setTop (mkF m 370 #[.val (.int p0), .val (.int p1), .val (.int p2), .val (.int p3), z4, z5, z6, z7, z8, z9, .val (.ref am0), .val (.ref st0), z12, .val (.int sz), .val (.int (1 : Int32)), z15] [])) _
          refine XS.iload X33.here hx rfl (hb hby at_370) rfl ?_
          exact kt
        refine own_ret X33 (v := some (.int (1 : Int32))) (fun h => by rw [Bd.returns] at h; cases h) hlk (by decide) (by decide) ?_ (fun fs hr => ?_)
        · show Q0 Z p0 p1 p2 p3 h0 n0 (some (.int (1 : Int32))) T33.heap _
          rw [eq33]
          exact ⟨rfl, N33⟩
        · show Steps p.tables e below (T33.setTop (mkF m 372 #[.val (.int p0), .val (.int p1), .val (.int p2), .val (.int p3), z4, z5, z6, z7, z8, z9, .val (.ref am0), .val (.ref st0), z12, .val (.int sz), .val (.int (1 : Int32)), z15] [(.int (1 : Int32))])) _
          exact retN X33 hx (t := .boolean) Bd.returns (by simp) (hb hby at_372) hr
  refine own_st (A' := s₁.setTop (mkF m 7 #[.val (.int p0), .val (.int p1), .val (.int p2), .val (.int p3), .unset, .unset, .unset, .unset, .unset, .unset, .unset, .unset, .unset, .unset, .unset, .unset] [(.int ((p0 &&& (2147483647 : Int32)) % (6 : Int32)))])) (fun tg kt => ?_) ?_
  · show Steps p.tables e below (s₁.setTop (mkF m 0 #[.val (.int p0), .val (.int p1), .val (.int p2), .val (.int p3), .unset, .unset, .unset, .unset, .unset, .unset, .unset, .unset, .unset, .unset, .unset, .unset] [])) _
    refine XS.iloadN X0.here hx rfl (hb hby at_0) rfl ?_
    show Steps p.tables e below (s₁.setTop (mkF m 1 #[.val (.int p0), .val (.int p1), .val (.int p2), .val (.int p3), .unset, .unset, .unset, .unset, .unset, .unset, .unset, .unset, .unset, .unset, .unset, .unset] [(.int p0)])) _
    refine X0.ldcInt hx hown (mvT hZ (hw _ (List.mem_of_getElem? (i := 0) rfl))) (g := (mkF m 1 #[.val (.int p0), .val (.int p1), .val (.int p2), .val (.int p3), .unset, .unset, .unset, .unset, .unset, .unset, .unset, .unset, .unset, .unset, .unset, .unset] [(.int p0)])) rfl (hb hby at_1) _ ?_
    show Steps p.tables e below (s₁.setTop (mkF m 3 #[.val (.int p0), .val (.int p1), .val (.int p2), .val (.int p3), .unset, .unset, .unset, .unset, .unset, .unset, .unset, .unset, .unset, .unset, .unset, .unset] [(.int (2147483647 : Int32)), (.int p0)])) _
    refine XS.iand X0.here hx rfl (hb hby at_3) rfl ?_
    show Steps p.tables e below (s₁.setTop (mkF m 4 #[.val (.int p0), .val (.int p1), .val (.int p2), .val (.int p3), .unset, .unset, .unset, .unset, .unset, .unset, .unset, .unset, .unset, .unset, .unset, .unset] [(.int (p0 &&& (2147483647 : Int32)))])) _
    refine XS.bipush X0.here hx rfl (hb hby at_4) ?_
    show Steps p.tables e below (s₁.setTop (mkF m 6 #[.val (.int p0), .val (.int p1), .val (.int p2), .val (.int p3), .unset, .unset, .unset, .unset, .unset, .unset, .unset, .unset, .unset, .unset, .unset, .unset] [(.int (6 : Int32)), (.int (p0 &&& (2147483647 : Int32)))])) _
    refine iremM X0 hx rfl (hb hby at_6) rfl (by decide) ?_
    exact kt
  obtain ⟨ix, hix⟩ : ∃ z, z = ((p0 &&& (2147483647 : Int32)) % (6 : Int32)) := ⟨_, rfl⟩
  rw [← hix]
  show own_Gl _ _ _ _ _ _ _ _ (s₁.setTop (mkF m 7 #[.val (.int p0), .val (.int p1), .val (.int p2), .val (.int p3), .unset, .unset, .unset, .unset, .unset, .unset, .unset, .unset, .unset, .unset, .unset, .unset] [(.int ix)]))
  have bx := own_rem p0 6 6 (by decide) (by decide)
  rw [← hix] at bx
  have hpp := own_perm_a ix (own_split6 bx.1 bx.2)
  refine own_st (A' := s₁.setTop (mkF m 31 #[.val (.int p0), .val (.int p1), .val (.int p2), .val (.int p3), .val (.int ix), .val (.int (ix / (2 : Int32))), .val (.int (((ix / (2 : Int32)) + (1 : Int32)) % (3 : Int32))), .val (.int (((ix / (2 : Int32)) + (2 : Int32)) % (3 : Int32))), .unset, .unset, .unset, .unset, .unset, .unset, .unset, .unset] [])) (fun tg kt => ?_) ?_
  · show Steps p.tables e below (s₁.setTop (mkF m 7 #[.val (.int p0), .val (.int p1), .val (.int p2), .val (.int p3), .unset, .unset, .unset, .unset, .unset, .unset, .unset, .unset, .unset, .unset, .unset, .unset] [(.int ix)])) _
    refine XS.istore X0.here hx rfl (hb hby at_7) rfl (l' := #[.val (.int p0), .val (.int p1), .val (.int p2), .val (.int p3), .val (.int ix), .unset, .unset, .unset, .unset, .unset, .unset, .unset, .unset, .unset, .unset, .unset]) rfl ?_
    show Steps p.tables e below (s₁.setTop (mkF m 9 #[.val (.int p0), .val (.int p1), .val (.int p2), .val (.int p3), .val (.int ix), .unset, .unset, .unset, .unset, .unset, .unset, .unset, .unset, .unset, .unset, .unset] [])) _
    refine XS.iload X0.here hx rfl (hb hby at_9) rfl ?_
    show Steps p.tables e below (s₁.setTop (mkF m 11 #[.val (.int p0), .val (.int p1), .val (.int p2), .val (.int p3), .val (.int ix), .unset, .unset, .unset, .unset, .unset, .unset, .unset, .unset, .unset, .unset, .unset] [(.int ix)])) _
    refine XS.iconst X0.here hx rfl (hb hby at_11) ?_
    show Steps p.tables e below (s₁.setTop (mkF m 12 #[.val (.int p0), .val (.int p1), .val (.int p2), .val (.int p3), .val (.int ix), .unset, .unset, .unset, .unset, .unset, .unset, .unset, .unset, .unset, .unset, .unset] [(.int (2 : Int32)), (.int ix)])) _
    refine XS.idiv X0.here hx rfl (hb hby at_12) rfl (by decide) ?_
    show Steps p.tables e below (s₁.setTop (mkF m 13 #[.val (.int p0), .val (.int p1), .val (.int p2), .val (.int p3), .val (.int ix), .unset, .unset, .unset, .unset, .unset, .unset, .unset, .unset, .unset, .unset, .unset] [(.int (ix / (2 : Int32)))])) _
    refine XS.istore X0.here hx rfl (hb hby at_13) rfl (l' := #[.val (.int p0), .val (.int p1), .val (.int p2), .val (.int p3), .val (.int ix), .val (.int (ix / (2 : Int32))), .unset, .unset, .unset, .unset, .unset, .unset, .unset, .unset, .unset, .unset]) rfl ?_
    show Steps p.tables e below (s₁.setTop (mkF m 15 #[.val (.int p0), .val (.int p1), .val (.int p2), .val (.int p3), .val (.int ix), .val (.int (ix / (2 : Int32))), .unset, .unset, .unset, .unset, .unset, .unset, .unset, .unset, .unset, .unset] [])) _
    refine XS.iload X0.here hx rfl (hb hby at_15) rfl ?_
    show Steps p.tables e below (s₁.setTop (mkF m 17 #[.val (.int p0), .val (.int p1), .val (.int p2), .val (.int p3), .val (.int ix), .val (.int (ix / (2 : Int32))), .unset, .unset, .unset, .unset, .unset, .unset, .unset, .unset, .unset, .unset] [(.int (ix / (2 : Int32)))])) _
    refine XS.iconst X0.here hx rfl (hb hby at_17) ?_
    show Steps p.tables e below (s₁.setTop (mkF m 18 #[.val (.int p0), .val (.int p1), .val (.int p2), .val (.int p3), .val (.int ix), .val (.int (ix / (2 : Int32))), .unset, .unset, .unset, .unset, .unset, .unset, .unset, .unset, .unset, .unset] [(.int (1 : Int32)), (.int (ix / (2 : Int32)))])) _
    refine XS.iadd X0.here hx rfl (hb hby at_18) rfl ?_
    show Steps p.tables e below (s₁.setTop (mkF m 19 #[.val (.int p0), .val (.int p1), .val (.int p2), .val (.int p3), .val (.int ix), .val (.int (ix / (2 : Int32))), .unset, .unset, .unset, .unset, .unset, .unset, .unset, .unset, .unset, .unset] [(.int ((ix / (2 : Int32)) + (1 : Int32)))])) _
    refine XS.iconst X0.here hx rfl (hb hby at_19) ?_
    show Steps p.tables e below (s₁.setTop (mkF m 20 #[.val (.int p0), .val (.int p1), .val (.int p2), .val (.int p3), .val (.int ix), .val (.int (ix / (2 : Int32))), .unset, .unset, .unset, .unset, .unset, .unset, .unset, .unset, .unset, .unset] [(.int (3 : Int32)), (.int ((ix / (2 : Int32)) + (1 : Int32)))])) _
    refine iremM X0 hx rfl (hb hby at_20) rfl (by decide) ?_
    show Steps p.tables e below (s₁.setTop (mkF m 21 #[.val (.int p0), .val (.int p1), .val (.int p2), .val (.int p3), .val (.int ix), .val (.int (ix / (2 : Int32))), .unset, .unset, .unset, .unset, .unset, .unset, .unset, .unset, .unset, .unset] [(.int (((ix / (2 : Int32)) + (1 : Int32)) % (3 : Int32)))])) _
    refine XS.istore X0.here hx rfl (hb hby at_21) rfl (l' := #[.val (.int p0), .val (.int p1), .val (.int p2), .val (.int p3), .val (.int ix), .val (.int (ix / (2 : Int32))), .val (.int (((ix / (2 : Int32)) + (1 : Int32)) % (3 : Int32))), .unset, .unset, .unset, .unset, .unset, .unset, .unset, .unset, .unset]) rfl ?_
    show Steps p.tables e below (s₁.setTop (mkF m 23 #[.val (.int p0), .val (.int p1), .val (.int p2), .val (.int p3), .val (.int ix), .val (.int (ix / (2 : Int32))), .val (.int (((ix / (2 : Int32)) + (1 : Int32)) % (3 : Int32))), .unset, .unset, .unset, .unset, .unset, .unset, .unset, .unset, .unset] [])) _
    refine XS.iload X0.here hx rfl (hb hby at_23) rfl ?_
    show Steps p.tables e below (s₁.setTop (mkF m 25 #[.val (.int p0), .val (.int p1), .val (.int p2), .val (.int p3), .val (.int ix), .val (.int (ix / (2 : Int32))), .val (.int (((ix / (2 : Int32)) + (1 : Int32)) % (3 : Int32))), .unset, .unset, .unset, .unset, .unset, .unset, .unset, .unset, .unset] [(.int (ix / (2 : Int32)))])) _
    refine XS.iconst X0.here hx rfl (hb hby at_25) ?_
    show Steps p.tables e below (s₁.setTop (mkF m 26 #[.val (.int p0), .val (.int p1), .val (.int p2), .val (.int p3), .val (.int ix), .val (.int (ix / (2 : Int32))), .val (.int (((ix / (2 : Int32)) + (1 : Int32)) % (3 : Int32))), .unset, .unset, .unset, .unset, .unset, .unset, .unset, .unset, .unset] [(.int (2 : Int32)), (.int (ix / (2 : Int32)))])) _
    refine XS.iadd X0.here hx rfl (hb hby at_26) rfl ?_
    show Steps p.tables e below (s₁.setTop (mkF m 27 #[.val (.int p0), .val (.int p1), .val (.int p2), .val (.int p3), .val (.int ix), .val (.int (ix / (2 : Int32))), .val (.int (((ix / (2 : Int32)) + (1 : Int32)) % (3 : Int32))), .unset, .unset, .unset, .unset, .unset, .unset, .unset, .unset, .unset] [(.int ((ix / (2 : Int32)) + (2 : Int32)))])) _
    refine XS.iconst X0.here hx rfl (hb hby at_27) ?_
    show Steps p.tables e below (s₁.setTop (mkF m 28 #[.val (.int p0), .val (.int p1), .val (.int p2), .val (.int p3), .val (.int ix), .val (.int (ix / (2 : Int32))), .val (.int (((ix / (2 : Int32)) + (1 : Int32)) % (3 : Int32))), .unset, .unset, .unset, .unset, .unset, .unset, .unset, .unset, .unset] [(.int (3 : Int32)), (.int ((ix / (2 : Int32)) + (2 : Int32)))])) _
    refine iremM X0 hx rfl (hb hby at_28) rfl (by decide) ?_
    show Steps p.tables e below (s₁.setTop (mkF m 29 #[.val (.int p0), .val (.int p1), .val (.int p2), .val (.int p3), .val (.int ix), .val (.int (ix / (2 : Int32))), .val (.int (((ix / (2 : Int32)) + (1 : Int32)) % (3 : Int32))), .unset, .unset, .unset, .unset, .unset, .unset, .unset, .unset, .unset] [(.int (((ix / (2 : Int32)) + (2 : Int32)) % (3 : Int32)))])) _
    refine XS.istore X0.here hx rfl (hb hby at_29) rfl (l' := #[.val (.int p0), .val (.int p1), .val (.int p2), .val (.int p3), .val (.int ix), .val (.int (ix / (2 : Int32))), .val (.int (((ix / (2 : Int32)) + (1 : Int32)) % (3 : Int32))), .val (.int (((ix / (2 : Int32)) + (2 : Int32)) % (3 : Int32))), .unset, .unset, .unset, .unset, .unset, .unset, .unset, .unset]) rfl ?_
    exact kt
  have tl60 : ∀ (f0 f1 f2 kk : Int32) (hp : own_perm f0 f1 f2) (hk : kk = 1 ∨ kk = 2 ∨ kk = 3), own_Gl FrameEnd p e below s (Q0 Z p0 p1 p2 p3 h0 n0) room_1.cells room_1.slots (s₁.setTop (mkF m 60 #[.val (.int p0), .val (.int p1), .val (.int p2), .val (.int p3), .val (.int ix), .val (.int f0), .val (.int f1), .val (.int f2), .val (.int kk), .unset, .unset, .unset, .unset, .unset, .unset, .unset] [])) := by
    intro f0 f1 f2 kk hp hk
    refine own_st (A' := s₁.setTop (mkF m 61 #[.val (.int p0), .val (.int p1), .val (.int p2), .val (.int p3), .val (.int ix), .val (.int f0), .val (.int f1), .val (.int f2), .val (.int kk), .unset, .unset, .unset, .unset, .unset, .unset, .unset] [(.int p2)])) (fun tg kt => ?_) ?_
    · show Steps p.tables e below (s₁.setTop (mkF m 60 #[.val (.int p0), .val (.int p1), .val (.int p2), .val (.int p3), .val (.int ix), .val (.int f0), .val (.int f1), .val (.int f2), .val (.int kk), .unset, .unset, .unset, .unset, .unset, .unset, .unset] [])) _
      refine XS.iloadN X0.here hx rfl (hb hby at_60) rfl ?_
      exact kt
    rcases hk with rfl | rfl | rfl
    · show own_Gl _ _ _ _ _ _ _ _ (s₁.setTop (mkF m 61 #[.val (.int p0), .val (.int p1), .val (.int p2), .val (.int p3), .val (.int ix), .val (.int f0), .val (.int f1), .val (.int f2), .val (.int (1 : Int32)), .unset, .unset, .unset, .unset, .unset, .unset, .unset] [(.int p2)]))
      refine own_st (A' := s₁.setTop (mkF m 67 #[.val (.int p0), .val (.int p1), .val (.int p2), .val (.int p3), .val (.int ix), .val (.int f0), .val (.int f1), .val (.int f2), .val (.int (1 : Int32)), .unset, .unset, .unset, .unset, .unset, .unset, .unset] [(.int ((p2 &&& (2147483647 : Int32)) % (1 : Int32)))])) (fun tg kt => ?_) ?_
      · show Steps p.tables e below (s₁.setTop (mkF m 61 #[.val (.int p0), .val (.int p1), .val (.int p2), .val (.int p3), .val (.int ix), .val (.int f0), .val (.int f1), .val (.int f2), .val (.int (1 : Int32)), .unset, .unset, .unset, .unset, .unset, .unset, .unset] [(.int p2)])) _
        refine X0.ldcInt hx hown (mvT hZ (hw _ (List.mem_of_getElem? (i := 0) rfl))) (g := (mkF m 61 #[.val (.int p0), .val (.int p1), .val (.int p2), .val (.int p3), .val (.int ix), .val (.int f0), .val (.int f1), .val (.int f2), .val (.int (1 : Int32)), .unset, .unset, .unset, .unset, .unset, .unset, .unset] [(.int p2)])) rfl (hb hby at_61) _ ?_
        show Steps p.tables e below (s₁.setTop (mkF m 63 #[.val (.int p0), .val (.int p1), .val (.int p2), .val (.int p3), .val (.int ix), .val (.int f0), .val (.int f1), .val (.int f2), .val (.int (1 : Int32)), .unset, .unset, .unset, .unset, .unset, .unset, .unset] [(.int (2147483647 : Int32)), (.int p2)])) _
        refine XS.iand X0.here hx rfl (hb hby at_63) rfl ?_
        show Steps p.tables e below (s₁.setTop (mkF m 64 #[.val (.int p0), .val (.int p1), .val (.int p2), .val (.int p3), .val (.int ix), .val (.int f0), .val (.int f1), .val (.int f2), .val (.int (1 : Int32)), .unset, .unset, .unset, .unset, .unset, .unset, .unset] [(.int (p2 &&& (2147483647 : Int32)))])) _
        refine XS.iload X0.here hx rfl (hb hby at_64) rfl ?_
        show Steps p.tables e below (s₁.setTop (mkF m 66 #[.val (.int p0), .val (.int p1), .val (.int p2), .val (.int p3), .val (.int ix), .val (.int f0), .val (.int f1), .val (.int f2), .val (.int (1 : Int32)), .unset, .unset, .unset, .unset, .unset, .unset, .unset] [(.int (1 : Int32)), (.int (p2 &&& (2147483647 : Int32)))])) _
        refine iremM X0 hx rfl (hb hby at_66) rfl (by decide) ?_
        exact kt
      obtain ⟨r, hr⟩ : ∃ z, z = ((p2 &&& (2147483647 : Int32)) % (1 : Int32)) := ⟨_, rfl⟩
      rw [← hr]
      show own_Gl _ _ _ _ _ _ _ _ (s₁.setTop (mkF m 67 #[.val (.int p0), .val (.int p1), .val (.int p2), .val (.int p3), .val (.int ix), .val (.int f0), .val (.int f1), .val (.int f2), .val (.int (1 : Int32)), .unset, .unset, .unset, .unset, .unset, .unset, .unset] [(.int r)]))
      have br := own_rem p2 1 1 (by decide) (by decide)
      rw [← hr] at br
      have hrr := own_split1 br.1 br.2
      refine own_st (A' := s₁.setTop (mkF m 69 #[.val (.int p0), .val (.int p1), .val (.int p2), .val (.int p3), .val (.int ix), .val (.int f0), .val (.int f1), .val (.int f2), .val (.int (1 : Int32)), .val (.int r), .unset, .unset, .unset, .unset, .unset, .unset] [])) (fun tg kt => ?_) ?_
      · show Steps p.tables e below (s₁.setTop (mkF m 67 #[.val (.int p0), .val (.int p1), .val (.int p2), .val (.int p3), .val (.int ix), .val (.int f0), .val (.int f1), .val (.int f2), .val (.int (1 : Int32)), .unset, .unset, .unset, .unset, .unset, .unset, .unset] [(.int r)])) _
        refine XS.istore X0.here hx rfl (hb hby at_67) rfl (l' := #[.val (.int p0), .val (.int p1), .val (.int p2), .val (.int p3), .val (.int ix), .val (.int f0), .val (.int f1), .val (.int f2), .val (.int (1 : Int32)), .val (.int r), .unset, .unset, .unset, .unset, .unset, .unset]) rfl ?_
        exact kt
      obtain ⟨ok0, okr, okR, okF⟩ := own_k1 f0 f1 f2 hp r hrr
      refine own_st (A' := s₁.setTop (mkF m 70 #[.val (.int p0), .val (.int p1), .val (.int p2), .val (.int p3), .val (.int ix), .val (.int f0), .val (.int f1), .val (.int f2), .val (.int (1 : Int32)), .val (.int r), .unset, .unset, .unset, .unset, .unset, .unset] [(.int (3 : Int32))])) (fun tg kt => ?_) ?_
      · show Steps p.tables e below (s₁.setTop (mkF m 69 #[.val (.int p0), .val (.int p1), .val (.int p2), .val (.int p3), .val (.int ix), .val (.int f0), .val (.int f1), .val (.int f2), .val (.int (1 : Int32)), .val (.int r), .unset, .unset, .unset, .unset, .unset, .unset] [])) _
        refine XS.iconst X0.here hx rfl (hb hby at_69) ?_
        exact kt
      obtain ⟨T34, h34, k34, X34, e34, E34, A34, st34⟩ := newP X0 hx hZ (hw _ (List.mem_of_getElem? (i := 1) rfl)) e0 (g := (mkF m 70 #[.val (.int p0), .val (.int p1), .val (.int p2), .val (.int p3), .val (.int ix), .val (.int f0), .val (.int f1), .val (.int f2), .val (.int (1 : Int32)), .val (.int r), .unset, .unset, .unset, .unset, .unset, .unset] [(.int (3 : Int32))])) rfl (hb hby at_70) rfl (by decide) (cap := 3) (by decide) (by decide) (by decide) (by decide)
      obtain ⟨b34, g34⟩ : ∃ z, z = h0.size := ⟨_, rfl⟩
      rw [← g34] at A34 st34
      have g_b34 : n0 ≤ b34 := Nat.le_trans Z0 (Nat.le_of_eq g34.symm)
      have kw_b34 : h0.size ≤ b34 := Nat.le_trans ((Keep.refl h0 ([] : List Addr))).1 (Nat.le_of_eq g34.symm)
      have K34 := ((Keep.refl h0 ([] : List Addr))).ext E34
      have Z34 : n0 ≤ h34.size := Nat.le_trans Z0 E34.1
      have V_b34 : Arv Z h34 b34 k34 .int (3 : Int32) [(.int (0 : Int32)), (.int (0 : Int32)), (.int (0 : Int32))] (.int (0 : Int32)) := (Arv.new A34 (by decide)).pad (pad_rep [] (.int (0 : Int32)) 3)
      have VA_b34 : own_ai Z h34 b34 k34 [0, 0, 0] := ⟨V_b34, rfl⟩
      refine own_st st34 ?_
      show own_Gl _ _ _ _ _ _ _ _ (T34.setTop (mkF m 72 #[.val (.int p0), .val (.int p1), .val (.int p2), .val (.int p3), .val (.int ix), .val (.int f0), .val (.int f1), .val (.int f2), .val (.int (1 : Int32)), .val (.int r), .unset, .unset, .unset, .unset, .unset, .unset] [(.ref b34)]))
      refine own_st (A' := T34.setTop (mkF m 76 #[.val (.int p0), .val (.int p1), .val (.int p2), .val (.int p3), .val (.int ix), .val (.int f0), .val (.int f1), .val (.int f2), .val (.int (1 : Int32)), .val (.int r), .unset, .unset, .unset, .unset, .unset, .unset] [(.int f0), (.int (0 : Int32)), (.ref b34), (.ref b34)])) (fun tg kt => ?_) ?_
      · show Steps p.tables e below (T34.setTop (mkF m 72 #[.val (.int p0), .val (.int p1), .val (.int p2), .val (.int p3), .val (.int ix), .val (.int f0), .val (.int f1), .val (.int f2), .val (.int (1 : Int32)), .val (.int r), .unset, .unset, .unset, .unset, .unset, .unset] [(.ref b34)])) _
        refine XS.dup X34.here hx rfl (hb hby at_72) rfl rfl ?_
        show Steps p.tables e below (T34.setTop (mkF m 73 #[.val (.int p0), .val (.int p1), .val (.int p2), .val (.int p3), .val (.int ix), .val (.int f0), .val (.int f1), .val (.int f2), .val (.int (1 : Int32)), .val (.int r), .unset, .unset, .unset, .unset, .unset, .unset] [(.ref b34), (.ref b34)])) _
        refine XS.iconst X34.here hx rfl (hb hby at_73) ?_
        show Steps p.tables e below (T34.setTop (mkF m 74 #[.val (.int p0), .val (.int p1), .val (.int p2), .val (.int p3), .val (.int ix), .val (.int f0), .val (.int f1), .val (.int f2), .val (.int (1 : Int32)), .val (.int r), .unset, .unset, .unset, .unset, .unset, .unset] [(.int (0 : Int32)), (.ref b34), (.ref b34)])) _
        refine XS.iload X34.here hx rfl (hb hby at_74) rfl ?_
        exact kt
      obtain ⟨cl35, Ar35, hin35, hset35⟩ := own_ai_st VA_b34 (j := (0 : Int32)) (by decide)
      obtain ⟨T36, h36, X36, e36, W36, st36⟩ := stI X34 hx hZ e34 Ar35 (j := (0 : Int32)) hin35 (g := (mkF m 76 #[.val (.int p0), .val (.int p1), .val (.int p2), .val (.int p3), .val (.int ix), .val (.int f0), .val (.int f1), .val (.int f2), .val (.int (1 : Int32)), .val (.int r), .unset, .unset, .unset, .unset, .unset, .unset] [(.int f0), (.int (0 : Int32)), (.ref b34), (.ref b34)])) rfl rfl (hb hby at_76)
      have N36 := Fr.snoc X36 N0 g_b34
      have K36 := (K34).wr W36 (Or.inr kw_b34)
      have Z36 : n0 ≤ h36.size := Nat.le_trans Z34 (Keep.of_wr W36).1
      have V36 := hset35 _ _ W36
      refine own_st st36 ?_
      show own_Gl _ _ _ _ _ _ _ _ (T36.setTop (mkF m 77 #[.val (.int p0), .val (.int p1), .val (.int p2), .val (.int p3), .val (.int ix), .val (.int f0), .val (.int f1), .val (.int f2), .val (.int (1 : Int32)), .val (.int r), .unset, .unset, .unset, .unset, .unset, .unset] [(.ref b34)]))
      refine own_st (A' := T36.setTop (mkF m 81 #[.val (.int p0), .val (.int p1), .val (.int p2), .val (.int p3), .val (.int ix), .val (.int f0), .val (.int f1), .val (.int f2), .val (.int (1 : Int32)), .val (.int r), .unset, .unset, .unset, .unset, .unset, .unset] [(.int f1), (.int (1 : Int32)), (.ref b34), (.ref b34)])) (fun tg kt => ?_) ?_
      · show Steps p.tables e below (T36.setTop (mkF m 77 #[.val (.int p0), .val (.int p1), .val (.int p2), .val (.int p3), .val (.int ix), .val (.int f0), .val (.int f1), .val (.int f2), .val (.int (1 : Int32)), .val (.int r), .unset, .unset, .unset, .unset, .unset, .unset] [(.ref b34)])) _
        refine XS.dup X36.here hx rfl (hb hby at_77) rfl rfl ?_
        show Steps p.tables e below (T36.setTop (mkF m 78 #[.val (.int p0), .val (.int p1), .val (.int p2), .val (.int p3), .val (.int ix), .val (.int f0), .val (.int f1), .val (.int f2), .val (.int (1 : Int32)), .val (.int r), .unset, .unset, .unset, .unset, .unset, .unset] [(.ref b34), (.ref b34)])) _
        refine XS.iconst X36.here hx rfl (hb hby at_78) ?_
        show Steps p.tables e below (T36.setTop (mkF m 79 #[.val (.int p0), .val (.int p1), .val (.int p2), .val (.int p3), .val (.int ix), .val (.int f0), .val (.int f1), .val (.int f2), .val (.int (1 : Int32)), .val (.int r), .unset, .unset, .unset, .unset, .unset, .unset] [(.int (1 : Int32)), (.ref b34), (.ref b34)])) _
        refine XS.iload X36.here hx rfl (hb hby at_79) rfl ?_
        exact kt
      obtain ⟨cl37, Ar37, hin37, hset37⟩ := own_ai_st V36 (j := (1 : Int32)) (by decide)
      obtain ⟨T38, h38, X38, e38, W38, st38⟩ := stI X36 hx hZ e36 Ar37 (j := (1 : Int32)) hin37 (g := (mkF m 81 #[.val (.int p0), .val (.int p1), .val (.int p2), .val (.int p3), .val (.int ix), .val (.int f0), .val (.int f1), .val (.int f2), .val (.int (1 : Int32)), .val (.int r), .unset, .unset, .unset, .unset, .unset, .unset] [(.int f1), (.int (1 : Int32)), (.ref b34), (.ref b34)])) rfl rfl (hb hby at_81)
      have N38 := Fr.snoc X38 N36 g_b34
      have K38 := (K36).wr W38 (Or.inr kw_b34)
      have Z38 : n0 ≤ h38.size := Nat.le_trans Z36 (Keep.of_wr W38).1
      have V38 := hset37 _ _ W38
      refine own_st st38 ?_
      show own_Gl _ _ _ _ _ _ _ _ (T38.setTop (mkF m 82 #[.val (.int p0), .val (.int p1), .val (.int p2), .val (.int p3), .val (.int ix), .val (.int f0), .val (.int f1), .val (.int f2), .val (.int (1 : Int32)), .val (.int r), .unset, .unset, .unset, .unset, .unset, .unset] [(.ref b34)]))
      refine own_st (A' := T38.setTop (mkF m 86 #[.val (.int p0), .val (.int p1), .val (.int p2), .val (.int p3), .val (.int ix), .val (.int f0), .val (.int f1), .val (.int f2), .val (.int (1 : Int32)), .val (.int r), .unset, .unset, .unset, .unset, .unset, .unset] [(.int f2), (.int (2 : Int32)), (.ref b34), (.ref b34)])) (fun tg kt => ?_) ?_
      · show Steps p.tables e below (T38.setTop (mkF m 82 #[.val (.int p0), .val (.int p1), .val (.int p2), .val (.int p3), .val (.int ix), .val (.int f0), .val (.int f1), .val (.int f2), .val (.int (1 : Int32)), .val (.int r), .unset, .unset, .unset, .unset, .unset, .unset] [(.ref b34)])) _
        refine XS.dup X38.here hx rfl (hb hby at_82) rfl rfl ?_
        show Steps p.tables e below (T38.setTop (mkF m 83 #[.val (.int p0), .val (.int p1), .val (.int p2), .val (.int p3), .val (.int ix), .val (.int f0), .val (.int f1), .val (.int f2), .val (.int (1 : Int32)), .val (.int r), .unset, .unset, .unset, .unset, .unset, .unset] [(.ref b34), (.ref b34)])) _
        refine XS.iconst X38.here hx rfl (hb hby at_83) ?_
        show Steps p.tables e below (T38.setTop (mkF m 84 #[.val (.int p0), .val (.int p1), .val (.int p2), .val (.int p3), .val (.int ix), .val (.int f0), .val (.int f1), .val (.int f2), .val (.int (1 : Int32)), .val (.int r), .unset, .unset, .unset, .unset, .unset, .unset] [(.int (2 : Int32)), (.ref b34), (.ref b34)])) _
        refine XS.iload X38.here hx rfl (hb hby at_84) rfl ?_
        exact kt
      obtain ⟨cl39, Ar39, hin39, hset39⟩ := own_ai_st V38 (j := (2 : Int32)) (by decide)
      obtain ⟨T40, h40, X40, e40, W40, st40⟩ := stI X38 hx hZ e38 Ar39 (j := (2 : Int32)) hin39 (g := (mkF m 86 #[.val (.int p0), .val (.int p1), .val (.int p2), .val (.int p3), .val (.int ix), .val (.int f0), .val (.int f1), .val (.int f2), .val (.int (1 : Int32)), .val (.int r), .unset, .unset, .unset, .unset, .unset, .unset] [(.int f2), (.int (2 : Int32)), (.ref b34), (.ref b34)])) rfl rfl (hb hby at_86)
      have N40 := Fr.snoc X40 N38 g_b34
      have K40 := (K38).wr W40 (Or.inr kw_b34)
      have Z40 : n0 ≤ h40.size := Nat.le_trans Z38 (Keep.of_wr W40).1
      have V40 := hset39 _ _ W40
      refine own_st st40 ?_
      show own_Gl _ _ _ _ _ _ _ _ (T40.setTop (mkF m 87 #[.val (.int p0), .val (.int p1), .val (.int p2), .val (.int p3), .val (.int ix), .val (.int f0), .val (.int f1), .val (.int f2), .val (.int (1 : Int32)), .val (.int r), .unset, .unset, .unset, .unset, .unset, .unset] [(.ref b34)]))
      refine own_st (A' := T40.setTop (mkF m 89 #[.val (.int p0), .val (.int p1), .val (.int p2), .val (.int p3), .val (.int ix), .val (.int f0), .val (.int f1), .val (.int f2), .val (.int (1 : Int32)), .val (.int r), .val (.ref b34), .unset, .unset, .unset, .unset, .unset] [])) (fun tg kt => ?_) ?_
      · show Steps p.tables e below (T40.setTop (mkF m 87 #[.val (.int p0), .val (.int p1), .val (.int p2), .val (.int p3), .val (.int ix), .val (.int f0), .val (.int f1), .val (.int f2), .val (.int (1 : Int32)), .val (.int r), .unset, .unset, .unset, .unset, .unset, .unset] [(.ref b34)])) _
        refine XS.astore X40.here hx rfl (hb hby at_87) rfl rfl (l' := #[.val (.int p0), .val (.int p1), .val (.int p2), .val (.int p3), .val (.int ix), .val (.int f0), .val (.int f1), .val (.int f2), .val (.int (1 : Int32)), .val (.int r), .val (.ref b34), .unset, .unset, .unset, .unset, .unset]) rfl ?_
        exact kt
      obtain ⟨T41, h41, X41, e41, E41, A41, D41, -, st41⟩ := newO X40 hx hZ hown (hw _ (List.mem_of_getElem? (i := 2) rfl)) (hw _ (List.mem_of_getElem? (i := 3) rfl)) (hw _ (List.mem_of_getElem? (i := 4) rfl)) e40 (g := (mkF m 89 #[.val (.int p0), .val (.int p1), .val (.int p2), .val (.int p3), .val (.int ix), .val (.int f0), .val (.int f1), .val (.int f2), .val (.int (1 : Int32)), .val (.int r), .val (.ref b34), .unset, .unset, .unset, .unset, .unset] [])) rfl (hb hby at_89) (by decide) (by decide)
      obtain ⟨b41, g41⟩ : ∃ z, z = h40.size := ⟨_, rfl⟩
      rw [← g41] at A41 D41 st41
      have g_b41 : n0 ≤ b41 := Nat.le_trans Z40 (Nat.le_of_eq g41.symm)
      have kw_b41 : h0.size ≤ b41 := Nat.le_trans (K40).1 (Nat.le_of_eq g41.symm)
      have ne_b34_b41 : b34 ≠ b41 := Nat.ne_of_lt (Nat.lt_of_lt_of_le V40.lt (Nat.le_of_eq g41.symm))
      have K41 := (K40).ext E41
      have Z41 : n0 ≤ h41.size := Nat.le_trans Z40 E41.1
      have F_members_b41 : Fld Z h41 b41 "com/example/slotpack/slotpack/IndexSet" "members" "[I" .null := D41 (Or.inr (hw _ (List.mem_of_getElem? (i := 12) rfl))) (ty := (.array .int)) (by decide)
      have F_positions_b41 : Fld Z h41 b41 "com/example/slotpack/slotpack/IndexSet" "positions" "[I" .null := D41 (Or.inr (hw _ (List.mem_of_getElem? (i := 14) rfl))) (ty := (.array .int)) (by decide)
      have F_size_b41 : Fld Z h41 b41 "com/example/slotpack/slotpack/IndexSet" "size" "I" (.int (0 : Int32)) := D41 (Or.inl (hw _ (List.mem_of_getElem? (i := 25) rfl))) (ty := .int) (by decide)
      refine own_st st41 ?_
      show own_Gl _ _ _ _ _ _ _ _ (T41.setTop (mkF m 92 #[.val (.int p0), .val (.int p1), .val (.int p2), .val (.int p3), .val (.int ix), .val (.int f0), .val (.int f1), .val (.int f2), .val (.int (1 : Int32)), .val (.int r), .val (.ref b34), .unset, .unset, .unset, .unset, .unset] [(.ref b41)]))
      refine own_st (A' := T41.setTop (mkF m 94 #[.val (.int p0), .val (.int p1), .val (.int p2), .val (.int p3), .val (.int ix), .val (.int f0), .val (.int f1), .val (.int f2), .val (.int (1 : Int32)), .val (.int r), .val (.ref b34), .unset, .unset, .unset, .unset, .unset] [(.int (3 : Int32)), (.ref b41), (.ref b41)])) (fun tg kt => ?_) ?_
      · show Steps p.tables e below (T41.setTop (mkF m 92 #[.val (.int p0), .val (.int p1), .val (.int p2), .val (.int p3), .val (.int ix), .val (.int f0), .val (.int f1), .val (.int f2), .val (.int (1 : Int32)), .val (.int r), .val (.ref b34), .unset, .unset, .unset, .unset, .unset] [(.ref b41)])) _
        refine XS.dup X41.here hx rfl (hb hby at_92) rfl rfl ?_
        show Steps p.tables e below (T41.setTop (mkF m 93 #[.val (.int p0), .val (.int p1), .val (.int p2), .val (.int p3), .val (.int ix), .val (.int f0), .val (.int f1), .val (.int f2), .val (.int (1 : Int32)), .val (.int r), .val (.ref b34), .unset, .unset, .unset, .unset, .unset] [(.ref b41), (.ref b41)])) _
        refine XS.iconst X41.here hx rfl (hb hby at_93) ?_
        exact kt
      obtain ⟨_, _, ⟨T42, L42, k42, n42⟩, -, X42, ⟨Lc42, hQ42, l42, y42, z42⟩, st42⟩ := X41.specialBack hx (y := (⟨"com/example/slotpack/slotpack/IndexSet", "<init>", "(I)V"⟩ : MethodName)) rfl hown (mvT hZ (hw _ (List.mem_of_getElem? (i := 5) rfl))) (mvT hZ (hw _ (List.mem_of_getElem? (i := 6) rfl))) (mvT hZ (hw _ (List.mem_of_getElem? (i := 7) rfl))) (by decide) (backOf (W := 1) (rm1 l Z a0 hw [] b41 h41 n0 Z41 F_members_b41 F_positions_b41 F_size_b41 A41 g_b41) hZ (hw _ (List.mem_of_getElem? (i := 7) rfl)) (hw _ (List.mem_of_getElem? (i := 4) rfl)) (by decide) (by decide)) (g := (mkF m 94 #[.val (.int p0), .val (.int p1), .val (.int p2), .val (.int p3), .val (.int ix), .val (.int f0), .val (.int f1), .val (.int f2), .val (.int (1 : Int32)), .val (.int r), .val (.ref b34), .unset, .unset, .unset, .unset, .unset] [(.int (3 : Int32)), (.ref b41), (.ref b41)])) rfl (by rw [hml]; rfl) (Steps.refl _) (a := b41) (argsL := [(.int (3 : Int32))]) (rest := [(.ref b41)]) (lenOf own_pd7 rfl) rfl (by show 2 * 0 + _ ≤ _; exact Nat.le_of_eq rfl) (hb hby at_94) (fun _ _ => ⟨rfl, e41, (by decide : 2 + 2 ≤ _), (by decide : 6 + 6 ≤ _)⟩)
      dsimp only [Pt.U, Pt.locs, Pt.cells, Pt.slots] at X42 l42 y42 z42 st42 hQ42
      subst l42 y42 z42
      obtain ⟨rfl, Nq42, am, ap, ka, kp, Kq42, IS42, kam42, kap42, nea⟩ := hQ42
      have N42 := Fr.app N40 Nq42
      have ne_m_am : b34 ≠ am := Nat.ne_of_lt (Nat.lt_of_lt_of_le (V40.ext E41).lt kam42)
      have ne_m_ap : b34 ≠ ap := Nat.ne_of_lt (Nat.lt_of_lt_of_le (V40.ext E41).lt kap42)
      have ne_b_am : b41 ≠ am := Nat.ne_of_lt (Nat.lt_of_lt_of_le A41.lt kam42)
      have ne_b_ap : b41 ≠ ap := Nat.ne_of_lt (Nat.lt_of_lt_of_le A41.lt kap42)
      have geo : own_geo n0 b41 am ap := ⟨g_b41, Nat.le_trans Z41 kam42, Nat.le_trans Z41 kap42, ne_b_am, ne_b_ap, nea⟩
      have Z42 : n0 ≤ T42.heap.size := Nat.le_trans Z41 Kq42.1
      refine own_tr st42 ?_
      show own_Gl _ _ _ _ _ _ _ _ (T42.setTop (mkF m 97 #[.val (.int p0), .val (.int p1), .val (.int p2), .val (.int p3), .val (.int ix), .val (.int f0), .val (.int f1), .val (.int f2), .val (.int (1 : Int32)), .val (.int r), .val (.ref b34), .unset, .unset, .unset, .unset, .unset] [(.ref b41)]))
      refine own_st (A' := T42.setTop (mkF m 103 #[.val (.int p0), .val (.int p1), .val (.int p2), .val (.int p3), .val (.int ix), .val (.int f0), .val (.int f1), .val (.int f2), .val (.int (1 : Int32)), .val (.int r), .val (.ref b34), .val (.ref b41), .unset, .unset, .unset, .unset] [(.int f0), (.ref b41)])) (fun tg kt => ?_) ?_
      · show Steps p.tables e below (T42.setTop (mkF m 97 #[.val (.int p0), .val (.int p1), .val (.int p2), .val (.int p3), .val (.int ix), .val (.int f0), .val (.int f1), .val (.int f2), .val (.int (1 : Int32)), .val (.int r), .val (.ref b34), .unset, .unset, .unset, .unset, .unset] [(.ref b41)])) _
        refine XS.astore X42.here hx rfl (hb hby at_97) rfl rfl (l' := #[.val (.int p0), .val (.int p1), .val (.int p2), .val (.int p3), .val (.int ix), .val (.int f0), .val (.int f1), .val (.int f2), .val (.int (1 : Int32)), .val (.int r), .val (.ref b34), .val (.ref b41), .unset, .unset, .unset, .unset]) rfl ?_
        show Steps p.tables e below (T42.setTop (mkF m 99 #[.val (.int p0), .val (.int p1), .val (.int p2), .val (.int p3), .val (.int ix), .val (.int f0), .val (.int f1), .val (.int f2), .val (.int (1 : Int32)), .val (.int r), .val (.ref b34), .val (.ref b41), .unset, .unset, .unset, .unset] [])) _
        refine XS.aload X42.here hx rfl (hb hby at_99) rfl rfl ?_
        show Steps p.tables e below (T42.setTop (mkF m 101 #[.val (.int p0), .val (.int p1), .val (.int p2), .val (.int p3), .val (.int ix), .val (.int f0), .val (.int f1), .val (.int f2), .val (.int (1 : Int32)), .val (.int r), .val (.ref b34), .val (.ref b41), .unset, .unset, .unset, .unset] [(.ref b41)])) _
        refine XS.iload X42.here hx rfl (hb hby at_101) rfl ?_
        exact kt
      obtain ⟨cq43, kq43, q43a, q43b, q43c⟩ := isOf hZ rfl (A41.keep Kq42)
      obtain ⟨_, _, ⟨T43, L43, k43, n43⟩, -, X43, ⟨Lc43, hQ43, l43, y43, z43⟩, st43⟩ := X42.virtualBack hx (y := (⟨"com/example/slotpack/slotpack/IndexSet", "add", "(I)V"⟩ : MethodName)) (z := (⟨"com/example/slotpack/slotpack/IndexSet", "add", "(I)V"⟩ : MethodName)) hown (mvT hZ (hw _ (List.mem_of_getElem? (i := 19) rfl))) (mvT hZ (hw _ (List.mem_of_getElem? (i := 20) rfl))) (notFace_of_selects (args := #[]) (mvT hZ (hw _ (List.mem_of_getElem? (i := 22) rfl)))) (mvT hZ (hw _ (List.mem_of_getElem? (i := 22) rfl))) (mvT hZ (hw _ (List.mem_of_getElem? (i := 21) rfl))) (by decide) (backOf (W := 0) (rm4 l Z a0 hw [] b41 f0 am ap ka kp own_D0 T42.heap n0 Z42 IS42 geo ok0) hZ (hw _ (List.mem_of_getElem? (i := 23) rfl)) (hw _ (List.mem_of_getElem? (i := 4) rfl)) (by decide) (by decide)) q43a q43c (g := (mkF m 103 #[.val (.int p0), .val (.int p1), .val (.int p2), .val (.int p3), .val (.int ix), .val (.int f0), .val (.int f1), .val (.int f2), .val (.int (1 : Int32)), .val (.int r), .val (.ref b34), .val (.ref b41), .unset, .unset, .unset, .unset] [(.int f0), (.ref b41)])) rfl (by rw [hml]; rfl) (Steps.refl _) (argsL := [(.int f0)]) (rest := []) (lenOf own_pd7 rfl) rfl (by show 2 * 0 + _ ≤ _; exact Nat.le_of_eq rfl) (hb hby at_103) (fun _ _ => ⟨rfl, rfl, (by decide : 4 + 0 ≤ _), (by decide : 12 + 0 ≤ _)⟩)
      dsimp only [Pt.U, Pt.locs, Pt.cells, Pt.slots] at X43 l43 y43 z43 st43 hQ43
      subst l43 y43 z43
      obtain ⟨rfl, Nq43, Kq43, IS43⟩ := hQ43
      have N43 := Fr.app N42 Nq43
      have E43 := IS43.1
      have Fa44 := (((V40.ext E41).keep Kq42 (ninS ne_b34_b41 nin0)).keep Kq43 (ninS ne_b34_b41 (ninS ne_m_am (ninS ne_m_ap nin0))))
      have Z43 : n0 ≤ T43.heap.size := Nat.le_trans Z42 Kq43.1
      refine own_tr st43 ?_
      show own_Gl _ _ _ _ _ _ _ _ (T43.setTop (mkF m 106 #[.val (.int p0), .val (.int p1), .val (.int p2), .val (.int p3), .val (.int ix), .val (.int f0), .val (.int f1), .val (.int f2), .val (.int (1 : Int32)), .val (.int r), .val (.ref b34), .val (.ref b41), .unset, .unset, .unset, .unset] []))
      refine own_st (A' := T43.setTop (mkF m 136 #[.val (.int p0), .val (.int p1), .val (.int p2), .val (.int p3), .val (.int ix), .val (.int f0), .val (.int f1), .val (.int f2), .val (.int (1 : Int32)), .val (.int r), .val (.ref b34), .val (.ref b41), .unset, .unset, .unset, .unset] [(.int r), (.ref b34)])) (fun tg kt => ?_) ?_
      · show Steps p.tables e below (T43.setTop (mkF m 106 #[.val (.int p0), .val (.int p1), .val (.int p2), .val (.int p3), .val (.int ix), .val (.int f0), .val (.int f1), .val (.int f2), .val (.int (1 : Int32)), .val (.int r), .val (.ref b34), .val (.ref b41), .unset, .unset, .unset, .unset] [])) _
        refine XS.iload X43.here hx rfl (hb hby at_106) rfl ?_
        show Steps p.tables e below (T43.setTop (mkF m 108 #[.val (.int p0), .val (.int p1), .val (.int p2), .val (.int p3), .val (.int ix), .val (.int f0), .val (.int f1), .val (.int f2), .val (.int (1 : Int32)), .val (.int r), .val (.ref b34), .val (.ref b41), .unset, .unset, .unset, .unset] [(.int (1 : Int32))])) _
        refine XS.iconst X43.here hx rfl (hb hby at_108) ?_
        show Steps p.tables e below (T43.setTop (mkF m 109 #[.val (.int p0), .val (.int p1), .val (.int p2), .val (.int p3), .val (.int ix), .val (.int f0), .val (.int f1), .val (.int f2), .val (.int (1 : Int32)), .val (.int r), .val (.ref b34), .val (.ref b41), .unset, .unset, .unset, .unset] [(.int (2 : Int32)), (.int (1 : Int32))])) _
        refine XS.icmpYes X43.here hx rfl (pc0 := 109) (pc' := 119) rfl (hb hby at_109) rfl (tlt ((by decide) : (1 : Int32) < (2 : Int32))).1 (by decide) (by decide) ?_
        show Steps p.tables e below (T43.setTop (mkF m 119 #[.val (.int p0), .val (.int p1), .val (.int p2), .val (.int p3), .val (.int ix), .val (.int f0), .val (.int f1), .val (.int f2), .val (.int (1 : Int32)), .val (.int r), .val (.ref b34), .val (.ref b41), .unset, .unset, .unset, .unset] [])) _
        refine XS.iload X43.here hx rfl (hb hby at_119) rfl ?_
        show Steps p.tables e below (T43.setTop (mkF m 121 #[.val (.int p0), .val (.int p1), .val (.int p2), .val (.int p3), .val (.int ix), .val (.int f0), .val (.int f1), .val (.int f2), .val (.int (1 : Int32)), .val (.int r), .val (.ref b34), .val (.ref b41), .unset, .unset, .unset, .unset] [(.int (1 : Int32))])) _
        refine XS.iconst X43.here hx rfl (hb hby at_121) ?_
        show Steps p.tables e below (T43.setTop (mkF m 122 #[.val (.int p0), .val (.int p1), .val (.int p2), .val (.int p3), .val (.int ix), .val (.int f0), .val (.int f1), .val (.int f2), .val (.int (1 : Int32)), .val (.int r), .val (.ref b34), .val (.ref b41), .unset, .unset, .unset, .unset] [(.int (3 : Int32)), (.int (1 : Int32))])) _
        refine XS.icmpYes X43.here hx rfl (pc0 := 122) (pc' := 132) rfl (hb hby at_122) rfl (tlt ((by decide) : (1 : Int32) < (3 : Int32))).1 (by decide) (by decide) ?_
        show Steps p.tables e below (T43.setTop (mkF m 132 #[.val (.int p0), .val (.int p1), .val (.int p2), .val (.int p3), .val (.int ix), .val (.int f0), .val (.int f1), .val (.int f2), .val (.int (1 : Int32)), .val (.int r), .val (.ref b34), .val (.ref b41), .unset, .unset, .unset, .unset] [])) _
        refine XS.aload X43.here hx rfl (hb hby at_132) rfl rfl ?_
        show Steps p.tables e below (T43.setTop (mkF m 134 #[.val (.int p0), .val (.int p1), .val (.int p2), .val (.int p3), .val (.int ix), .val (.int f0), .val (.int f1), .val (.int f2), .val (.int (1 : Int32)), .val (.int r), .val (.ref b34), .val (.ref b41), .unset, .unset, .unset, .unset] [(.ref b34)])) _
        refine XS.iload X43.here hx rfl (hb hby at_134) rfl ?_
        exact kt
      obtain ⟨cl45, Ar45, hin45, hat45⟩ := own_ai_ld Fa44 (j := r) okr
      refine own_st (A' := T43.setTop (mkF m 143 #[.val (.int p0), .val (.int p1), .val (.int p2), .val (.int p3), .val (.int ix), .val (.int f0), .val (.int f1), .val (.int f2), .val (.int (1 : Int32)), .val (.int r), .val (.ref b34), .val (.ref b41), .val (.int (own_at (own_put (own_put (own_put [0, 0, 0] (0 : Int32) f0) (1 : Int32) f1) (2 : Int32) f2) r)), .unset, .unset, .unset] [(.int (own_at (own_put (own_put (own_put [0, 0, 0] (0 : Int32) f0) (1 : Int32) f1) (2 : Int32) f2) r)), (.ref b41)])) (fun tg kt => ?_) ?_
      · show Steps p.tables e below (T43.setTop (mkF m 136 #[.val (.int p0), .val (.int p1), .val (.int p2), .val (.int p3), .val (.int ix), .val (.int f0), .val (.int f1), .val (.int f2), .val (.int (1 : Int32)), .val (.int r), .val (.ref b34), .val (.ref b41), .unset, .unset, .unset, .unset] [(.int r), (.ref b34)])) _
        refine X43.iaload hx (j := r) (v := (.int (own_at (own_put (own_put (own_put [0, 0, 0] (0 : Int32) f0) (1 : Int32) f1) (2 : Int32) f2) r))) (own_at_heap rfl Ar45.1) (State.isArrayOf_alike hZ.alike Ar45.2.1) Ar45.2.2 hin45 hat45 (g := (mkF m 136 #[.val (.int p0), .val (.int p1), .val (.int p2), .val (.int p3), .val (.int ix), .val (.int f0), .val (.int f1), .val (.int f2), .val (.int (1 : Int32)), .val (.int r), .val (.ref b34), .val (.ref b41), .unset, .unset, .unset, .unset] [(.int r), (.ref b34)])) rfl rfl (hb hby at_136) _ ?_
        show Steps p.tables e below (T43.setTop (mkF m 137 #[.val (.int p0), .val (.int p1), .val (.int p2), .val (.int p3), .val (.int ix), .val (.int f0), .val (.int f1), .val (.int f2), .val (.int (1 : Int32)), .val (.int r), .val (.ref b34), .val (.ref b41), .unset, .unset, .unset, .unset] [(.int (own_at (own_put (own_put (own_put [0, 0, 0] (0 : Int32) f0) (1 : Int32) f1) (2 : Int32) f2) r))])) _
        refine XS.istore X43.here hx rfl (hb hby at_137) rfl (l' := #[.val (.int p0), .val (.int p1), .val (.int p2), .val (.int p3), .val (.int ix), .val (.int f0), .val (.int f1), .val (.int f2), .val (.int (1 : Int32)), .val (.int r), .val (.ref b34), .val (.ref b41), .val (.int (own_at (own_put (own_put (own_put [0, 0, 0] (0 : Int32) f0) (1 : Int32) f1) (2 : Int32) f2) r)), .unset, .unset, .unset]) rfl ?_
        show Steps p.tables e below (T43.setTop (mkF m 139 #[.val (.int p0), .val (.int p1), .val (.int p2), .val (.int p3), .val (.int ix), .val (.int f0), .val (.int f1), .val (.int f2), .val (.int (1 : Int32)), .val (.int r), .val (.ref b34), .val (.ref b41), .val (.int (own_at (own_put (own_put (own_put [0, 0, 0] (0 : Int32) f0) (1 : Int32) f1) (2 : Int32) f2) r)), .unset, .unset, .unset] [])) _
        refine XS.aload X43.here hx rfl (hb hby at_139) rfl rfl ?_
        show Steps p.tables e below (T43.setTop (mkF m 141 #[.val (.int p0), .val (.int p1), .val (.int p2), .val (.int p3), .val (.int ix), .val (.int f0), .val (.int f1), .val (.int f2), .val (.int (1 : Int32)), .val (.int r), .val (.ref b34), .val (.ref b41), .val (.int (own_at (own_put (own_put (own_put [0, 0, 0] (0 : Int32) f0) (1 : Int32) f1) (2 : Int32) f2) r)), .unset, .unset, .unset] [(.ref b41)])) _
        refine XS.iload X43.here hx rfl (hb hby at_141) rfl ?_
        exact kt
      obtain ⟨cq46, kq46, q46a, q46b, q46c⟩ := isOf hZ rfl E43
      obtain ⟨_, _, ⟨T46, L46, k46, n46⟩, -, X46, ⟨Lc46, hQ46, l46, y46, z46⟩, st46⟩ := X43.virtualBack hx (y := (⟨"com/example/slotpack/slotpack/IndexSet", "remove", "(I)V"⟩ : MethodName)) (z := (⟨"com/example/slotpack/slotpack/IndexSet", "remove", "(I)V"⟩ : MethodName)) hown (mvT hZ (hw _ (List.mem_of_getElem? (i := 26) rfl))) (mvT hZ (hw _ (List.mem_of_getElem? (i := 27) rfl))) (notFace_of_selects (args := #[]) (mvT hZ (hw _ (List.mem_of_getElem? (i := 29) rfl)))) (mvT hZ (hw _ (List.mem_of_getElem? (i := 29) rfl))) (mvT hZ (hw _ (List.mem_of_getElem? (i := 28) rfl))) (by decide) (backOf (W := 0) (rm5 l Z a0 hw [] b41 (own_at (own_put (own_put (own_put [0, 0, 0] (0 : Int32) f0) (1 : Int32) f1) (2 : Int32) f2) r) am ap ka kp (own_add own_D0 f0) T43.heap n0 Z43 IS43 geo okR) hZ (hw _ (List.mem_of_getElem? (i := 30) rfl)) (hw _ (List.mem_of_getElem? (i := 4) rfl)) (by decide) (by decide)) q46a q46c (g := (mkF m 143 #[.val (.int p0), .val (.int p1), .val (.int p2), .val (.int p3), .val (.int ix), .val (.int f0), .val (.int f1), .val (.int f2), .val (.int (1 : Int32)), .val (.int r), .val (.ref b34), .val (.ref b41), .val (.int (own_at (own_put (own_put (own_put [0, 0, 0] (0 : Int32) f0) (1 : Int32) f1) (2 : Int32) f2) r)), .unset, .unset, .unset] [(.int (own_at (own_put (own_put (own_put [0, 0, 0] (0 : Int32) f0) (1 : Int32) f1) (2 : Int32) f2) r)), (.ref b41)])) rfl (by rw [hml]; rfl) (Steps.refl _) (argsL := [(.int (own_at (own_put (own_put (own_put [0, 0, 0] (0 : Int32) f0) (1 : Int32) f1) (2 : Int32) f2) r))]) (rest := []) (lenOf own_pd7 rfl) rfl (by show 2 * 0 + _ ≤ _; exact Nat.le_of_eq rfl) (hb hby at_143) (fun _ _ => ⟨rfl, rfl, (by decide : 4 + 0 ≤ _), (by decide : 12 + 0 ≤ _)⟩)
      dsimp only [Pt.U, Pt.locs, Pt.cells, Pt.slots] at X46 l46 y46 z46 st46 hQ46
      subst l46 y46 z46
      obtain ⟨rfl, Nq46, Kq46, IS46⟩ := hQ46
      have N46 := Fr.app N43 Nq46
      have E46 := IS46.1
      have Fa47 := (Fa44.keep Kq46 (ninS ne_b34_b41 (ninS ne_m_am (ninS ne_m_ap nin0))))
      have Z46 : n0 ≤ T46.heap.size := Nat.le_trans Z43 Kq46.1
      refine own_tr st46 ?_
      show own_Gl _ _ _ _ _ _ _ _ (T46.setTop (mkF m 146 #[.val (.int p0), .val (.int p1), .val (.int p2), .val (.int p3), .val (.int ix), .val (.int f0), .val (.int f1), .val (.int f2), .val (.int (1 : Int32)), .val (.int r), .val (.ref b34), .val (.ref b41), .val (.int (own_at (own_put (own_put (own_put [0, 0, 0] (0 : Int32) f0) (1 : Int32) f1) (2 : Int32) f2) r)), .unset, .unset, .unset] []))
      refine own_st (A' := T46.setTop (mkF m 152 #[.val (.int p0), .val (.int p1), .val (.int p2), .val (.int p3), .val (.int ix), .val (.int f0), .val (.int f1), .val (.int f2), .val (.int (1 : Int32)), .val (.int r), .val (.ref b34), .val (.ref b41), .val (.int (own_at (own_put (own_put (own_put [0, 0, 0] (0 : Int32) f0) (1 : Int32) f1) (2 : Int32) f2) r)), .unset, .unset, .unset] [(.int r), (.int (1 : Int32)), (.ref b34)])) (fun tg kt => ?_) ?_
      · show Steps p.tables e below (T46.setTop (mkF m 146 #[.val (.int p0), .val (.int p1), .val (.int p2), .val (.int p3), .val (.int ix), .val (.int f0), .val (.int f1), .val (.int f2), .val (.int (1 : Int32)), .val (.int r), .val (.ref b34), .val (.ref b41), .val (.int (own_at (own_put (own_put (own_put [0, 0, 0] (0 : Int32) f0) (1 : Int32) f1) (2 : Int32) f2) r)), .unset, .unset, .unset] [])) _
        refine XS.aload X46.here hx rfl (hb hby at_146) rfl rfl ?_
        show Steps p.tables e below (T46.setTop (mkF m 148 #[.val (.int p0), .val (.int p1), .val (.int p2), .val (.int p3), .val (.int ix), .val (.int f0), .val (.int f1), .val (.int f2), .val (.int (1 : Int32)), .val (.int r), .val (.ref b34), .val (.ref b41), .val (.int (own_at (own_put (own_put (own_put [0, 0, 0] (0 : Int32) f0) (1 : Int32) f1) (2 : Int32) f2) r)), .unset, .unset, .unset] [(.ref b34)])) _
        refine XS.iload X46.here hx rfl (hb hby at_148) rfl ?_
        show Steps p.tables e below (T46.setTop (mkF m 150 #[.val (.int p0), .val (.int p1), .val (.int p2), .val (.int p3), .val (.int ix), .val (.int f0), .val (.int f1), .val (.int f2), .val (.int (1 : Int32)), .val (.int r), .val (.ref b34), .val (.ref b41), .val (.int (own_at (own_put (own_put (own_put [0, 0, 0] (0 : Int32) f0) (1 : Int32) f1) (2 : Int32) f2) r)), .unset, .unset, .unset] [(.int (1 : Int32)), (.ref b34)])) _
        refine XS.iload X46.here hx rfl (hb hby at_150) rfl ?_
        exact kt
      obtain ⟨_, _, ⟨T48, L48, k48, n48⟩, -, X48, ⟨Lc48, hQ48, l48, y48, z48⟩, st48⟩ := Jvm.LawKit.callS X46 hx (y := (⟨"com/example/slotpack/slotpack/IndexSetRemovePinLaw", "removeAt", "([III)I"⟩ : MethodName)) hown (mvT hZ (hw _ (List.mem_of_getElem? (i := 31) rfl))) (mvT hZ (hw _ (List.mem_of_getElem? (i := 32) rfl))) (mvT hZ (hw _ (List.mem_of_getElem? (i := 33) rfl))) (mvT hZ (hw _ (List.mem_of_getElem? (i := 34) rfl))) (by decide) (backOf (W := 0) (rm6 l Z a0 hw [] b34 (1 : Int32) r k34 (own_put (own_put (own_put [0, 0, 0] (0 : Int32) f0) (1 : Int32) f1) (2 : Int32) f2) T46.heap n0 Z46 Fa47 g_b34 (by decide) okr) hZ (hw _ (List.mem_of_getElem? (i := 34) rfl)) (hw _ (List.mem_of_getElem? (i := 33) rfl)) (by decide) (by decide)) (g := (mkF m 152 #[.val (.int p0), .val (.int p1), .val (.int p2), .val (.int p3), .val (.int ix), .val (.int f0), .val (.int f1), .val (.int f2), .val (.int (1 : Int32)), .val (.int r), .val (.ref b34), .val (.ref b41), .val (.int (own_at (own_put (own_put (own_put [0, 0, 0] (0 : Int32) f0) (1 : Int32) f1) (2 : Int32) f2) r)), .unset, .unset, .unset] [(.int r), (.int (1 : Int32)), (.ref b34)])) rfl (by rw [hml]; rfl) (argsL := [(.ref b34), (.int (1 : Int32)), (.int r)]) (rest := []) (lenOf own_pd8 rfl) rfl (by show 2 * 0 + _ ≤ _; exact Nat.le_of_eq rfl) (hb hby at_152) (fun _ _ => ⟨rfl, rfl, (by decide : 4 + 0 ≤ _), (by decide : 12 + 0 ≤ _)⟩)
      dsimp only [Pt.U, Pt.locs, Pt.cells, Pt.slots] at X48 l48 y48 z48 st48 hQ48
      subst l48 y48 z48
      obtain ⟨rfl, Nq48, Kq48, Vq48⟩ := hQ48
      have N48 := Fr.app N46 Nq48
      have IS48 : own_IS Z T48.heap b41 am ap ka kp (own_del (own_add own_D0 f0) (own_at (own_put (own_put (own_put [0, 0, 0] (0 : Int32) f0) (1 : Int32) f1) (2 : Int32) f2) r)) := ⟨IS46.1.keep Kq48, IS46.2.1.keep Kq48 (ninS (Ne.symm ne_b34_b41) nin0), IS46.2.2.1.keep Kq48 (ninS (Ne.symm ne_b34_b41) nin0), IS46.2.2.2.1.keep Kq48 (ninS (Ne.symm ne_b34_b41) nin0), IS46.2.2.2.2.1.keep Kq48 (ninS (Ne.symm ne_m_am) nin0), IS46.2.2.2.2.2.keep Kq48 (ninS (Ne.symm ne_m_ap) nin0)⟩
      have Z48 : n0 ≤ T48.heap.size := Nat.le_trans Z46 Kq48.1
      refine own_st st48 ?_
      show own_Gl _ _ _ _ _ _ _ _ (T48.setTop (mkF m 155 #[.val (.int p0), .val (.int p1), .val (.int p2), .val (.int p3), .val (.int ix), .val (.int f0), .val (.int f1), .val (.int f2), .val (.int (1 : Int32)), .val (.int r), .val (.ref b34), .val (.ref b41), .val (.int (own_at (own_put (own_put (own_put [0, 0, 0] (0 : Int32) f0) (1 : Int32) f1) (2 : Int32) f2) r)), .unset, .unset, .unset] [(.int (0 : Int32))]))
      refine own_st (A' := T48.setTop (mkF m 160 #[.val (.int p0), .val (.int p1), .val (.int p2), .val (.int p3), .val (.int ix), .val (.int f0), .val (.int f1), .val (.int f2), .val (.int (1 : Int32)), .val (.int r), .val (.ref b34), .val (.ref b41), .val (.int (own_at (own_put (own_put (own_put [0, 0, 0] (0 : Int32) f0) (1 : Int32) f1) (2 : Int32) f2) r)), .val (.int (0 : Int32)), .unset, .unset] [(.int (p3 &&& (1 : Int32)))])) (fun tg kt => ?_) ?_
      · show Steps p.tables e below (T48.setTop (mkF m 155 #[.val (.int p0), .val (.int p1), .val (.int p2), .val (.int p3), .val (.int ix), .val (.int f0), .val (.int f1), .val (.int f2), .val (.int (1 : Int32)), .val (.int r), .val (.ref b34), .val (.ref b41), .val (.int (own_at (own_put (own_put (own_put [0, 0, 0] (0 : Int32) f0) (1 : Int32) f1) (2 : Int32) f2) r)), .unset, .unset, .unset] [(.int (0 : Int32))])) _
        refine XS.istore X48.here hx rfl (hb hby at_155) rfl (l' := #[.val (.int p0), .val (.int p1), .val (.int p2), .val (.int p3), .val (.int ix), .val (.int f0), .val (.int f1), .val (.int f2), .val (.int (1 : Int32)), .val (.int r), .val (.ref b34), .val (.ref b41), .val (.int (own_at (own_put (own_put (own_put [0, 0, 0] (0 : Int32) f0) (1 : Int32) f1) (2 : Int32) f2) r)), .val (.int (0 : Int32)), .unset, .unset]) rfl ?_
        show Steps p.tables e below (T48.setTop (mkF m 157 #[.val (.int p0), .val (.int p1), .val (.int p2), .val (.int p3), .val (.int ix), .val (.int f0), .val (.int f1), .val (.int f2), .val (.int (1 : Int32)), .val (.int r), .val (.ref b34), .val (.ref b41), .val (.int (own_at (own_put (own_put (own_put [0, 0, 0] (0 : Int32) f0) (1 : Int32) f1) (2 : Int32) f2) r)), .val (.int (0 : Int32)), .unset, .unset] [])) _
        refine XS.iloadN X48.here hx rfl (hb hby at_157) rfl ?_
        show Steps p.tables e below (T48.setTop (mkF m 158 #[.val (.int p0), .val (.int p1), .val (.int p2), .val (.int p3), .val (.int ix), .val (.int f0), .val (.int f1), .val (.int f2), .val (.int (1 : Int32)), .val (.int r), .val (.ref b34), .val (.ref b41), .val (.int (own_at (own_put (own_put (own_put [0, 0, 0] (0 : Int32) f0) (1 : Int32) f1) (2 : Int32) f2) r)), .val (.int (0 : Int32)), .unset, .unset] [(.int p3)])) _
        refine XS.iconst X48.here hx rfl (hb hby at_158) ?_
        show Steps p.tables e below (T48.setTop (mkF m 159 #[.val (.int p0), .val (.int p1), .val (.int p2), .val (.int p3), .val (.int ix), .val (.int f0), .val (.int f1), .val (.int f2), .val (.int (1 : Int32)), .val (.int r), .val (.ref b34), .val (.ref b41), .val (.int (own_at (own_put (own_put (own_put [0, 0, 0] (0 : Int32) f0) (1 : Int32) f1) (2 : Int32) f2) r)), .val (.int (0 : Int32)), .unset, .unset] [(.int (1 : Int32)), (.int p3)])) _
        refine XS.iand X48.here hx rfl (hb hby at_159) rfl ?_
        exact kt
      by_cases hc160_49 : (p3 &&& (1 : Int32)) = (0 : Int32)
      · refine own_st (A' := T48.setTop (mkF m 207 #[.val (.int p0), .val (.int p1), .val (.int p2), .val (.int p3), .val (.int ix), .val (.int f0), .val (.int f1), .val (.int f2), .val (.int (1 : Int32)), .val (.int r), .val (.ref b34), .val (.ref b41), .val (.int (own_at (own_put (own_put (own_put [0, 0, 0] (0 : Int32) f0) (1 : Int32) f1) (2 : Int32) f2) r)), .val (.int (0 : Int32)), .unset, .unset] [(.ref b41)])) (fun tg kt => ?_) ?_
        · show Steps p.tables e below (T48.setTop (mkF m 160 #[.val (.int p0), .val (.int p1), .val (.int p2), .val (.int p3), .val (.int ix), .val (.int f0), .val (.int f1), .val (.int f2), .val (.int (1 : Int32)), .val (.int r), .val (.ref b34), .val (.ref b41), .val (.int (own_at (own_put (own_put (own_put [0, 0, 0] (0 : Int32) f0) (1 : Int32) f1) (2 : Int32) f2) r)), .val (.int (0 : Int32)), .unset, .unset] [(.int (p3 &&& (1 : Int32)))])) _
          refine XS.ifYes X48.here hx rfl (pc0 := 160) (pc' := 205) rfl (hb hby at_160) rfl ((if0 _ _).trans (teq hc160_49).1) (by decide) (by decide) ?_
          show Steps p.tables e below (T48.setTop (mkF m 205 #[.val (.int p0), .val (.int p1), .val (.int p2), .val (.int p3), .val (.int ix), .val (.int f0), .val (.int f1), .val (.int f2), .val (.int (1 : Int32)), .val (.int r), .val (.ref b34), .val (.ref b41), .val (.int (own_at (own_put (own_put (own_put [0, 0, 0] (0 : Int32) f0) (1 : Int32) f1) (2 : Int32) f2) r)), .val (.int (0 : Int32)), .unset, .unset] [])) _
          refine XS.aload X48.here hx rfl (hb hby at_205) rfl rfl ?_
          exact kt
        obtain ⟨cq50, kq50, q50a, q50b, q50c⟩ := isOf hZ rfl (E46.keep Kq48)
        obtain ⟨_, _, ⟨T50, L50, k50, n50⟩, -, X50, ⟨Lc50, hQ50, l50, y50, z50⟩, st50⟩ := X48.virtualBack hx (y := (⟨"com/example/slotpack/slotpack/IndexSet", "size", "()I"⟩ : MethodName)) (z := (⟨"com/example/slotpack/slotpack/IndexSet", "size", "()I"⟩ : MethodName)) hown (mvT hZ (hw _ (List.mem_of_getElem? (i := 35) rfl))) (mvT hZ (hw _ (List.mem_of_getElem? (i := 36) rfl))) (notFace_of_selects (args := #[]) (mvT hZ (hw _ (List.mem_of_getElem? (i := 38) rfl)))) (mvT hZ (hw _ (List.mem_of_getElem? (i := 38) rfl))) (mvT hZ (hw _ (List.mem_of_getElem? (i := 37) rfl))) (by decide) (backOf (W := 0) (rm7 l Z a0 hw [] b41   am ap ka kp (own_del (own_add own_D0 f0) (own_at (own_put (own_put (own_put [0, 0, 0] (0 : Int32) f0) (1 : Int32) f1) (2 : Int32) f2) r)) T48.heap n0 Z48 IS48 geo ) hZ (hw _ (List.mem_of_getElem? (i := 39) rfl)) (hw _ (List.mem_of_getElem? (i := 4) rfl)) (by decide) (by decide)) q50a q50c (g := (mkF m 207 #[.val (.int p0), .val (.int p1), .val (.int p2), .val (.int p3), .val (.int ix), .val (.int f0), .val (.int f1), .val (.int f2), .val (.int (1 : Int32)), .val (.int r), .val (.ref b34), .val (.ref b41), .val (.int (own_at (own_put (own_put (own_put [0, 0, 0] (0 : Int32) f0) (1 : Int32) f1) (2 : Int32) f2) r)), .val (.int (0 : Int32)), .unset, .unset] [(.ref b41)])) rfl (by rw [hml]; rfl) (Steps.refl _) (argsL := []) (rest := []) (lenOf own_pd9 rfl) rfl (by show 2 * 0 + _ ≤ _; exact Nat.le_of_eq rfl) (hb hby at_207) (fun _ _ => ⟨rfl, rfl, (by decide : 4 + 0 ≤ _), (by decide : 12 + 0 ≤ _)⟩)
        dsimp only [Pt.U, Pt.locs, Pt.cells, Pt.slots] at X50 l50 y50 z50 st50 hQ50
        subst l50 y50 z50
        obtain ⟨rfl, Nq50, eq50⟩ := hQ50
        have N50 := Fr.app N48 Nq50
        refine own_tr st50 ?_
        show own_Gl _ _ _ _ _ _ _ _ (T50.setTop (mkF m 210 #[.val (.int p0), .val (.int p1), .val (.int p2), .val (.int p3), .val (.int ix), .val (.int f0), .val (.int f1), .val (.int f2), .val (.int (1 : Int32)), .val (.int r), .val (.ref b34), .val (.ref b41), .val (.int (own_at (own_put (own_put (own_put [0, 0, 0] (0 : Int32) f0) (1 : Int32) f1) (2 : Int32) f2) r)), .val (.int (0 : Int32)), .unset, .unset] [(.int (own_del (own_add own_D0 f0) (own_at (own_put (own_put (own_put [0, 0, 0] (0 : Int32) f0) (1 : Int32) f1) (2 : Int32) f2) r)).2.2)]))
        refine own_st (A' := T50.setTop (mkF m 222 #[.val (.int p0), .val (.int p1), .val (.int p2), .val (.int p3), .val (.int ix), .val (.int f0), .val (.int f1), .val (.int f2), .val (.int (1 : Int32)), .val (.int r), .val (.ref b34), .val (.ref b41), .val (.int (own_at (own_put (own_put (own_put [0, 0, 0] (0 : Int32) f0) (1 : Int32) f1) (2 : Int32) f2) r)), .val (.int (0 : Int32)), .val (.int (1 : Int32)), .unset] [])) (fun tg kt => ?_) ?_
        · show Steps p.tables e below (T50.setTop (mkF m 210 #[.val (.int p0), .val (.int p1), .val (.int p2), .val (.int p3), .val (.int ix), .val (.int f0), .val (.int f1), .val (.int f2), .val (.int (1 : Int32)), .val (.int r), .val (.ref b34), .val (.ref b41), .val (.int (own_at (own_put (own_put (own_put [0, 0, 0] (0 : Int32) f0) (1 : Int32) f1) (2 : Int32) f2) r)), .val (.int (0 : Int32)), .unset, .unset] [(.int (own_del (own_add own_D0 f0) (own_at (own_put (own_put (own_put [0, 0, 0] (0 : Int32) f0) (1 : Int32) f1) (2 : Int32) f2) r)).2.2)])) _
          refine XS.iload X50.here hx rfl (hb hby at_210) rfl ?_
          show Steps p.tables e below (T50.setTop (mkF m 212 #[.val (.int p0), .val (.int p1), .val (.int p2), .val (.int p3), .val (.int ix), .val (.int f0), .val (.int f1), .val (.int f2), .val (.int (1 : Int32)), .val (.int r), .val (.ref b34), .val (.ref b41), .val (.int (own_at (own_put (own_put (own_put [0, 0, 0] (0 : Int32) f0) (1 : Int32) f1) (2 : Int32) f2) r)), .val (.int (0 : Int32)), .unset, .unset] [(.int (0 : Int32)), (.int (own_del (own_add own_D0 f0) (own_at (own_put (own_put (own_put [0, 0, 0] (0 : Int32) f0) (1 : Int32) f1) (2 : Int32) f2) r)).2.2)])) _
          refine XS.icmpNo X50.here hx rfl (hb hby at_212) rfl (teq (okF.1 : (own_del (own_add own_D0 f0) (own_at (own_put (own_put (own_put [0, 0, 0] (0 : Int32) f0) (1 : Int32) f1) (2 : Int32) f2) r)).2.2 = (0 : Int32))).2 ?_
          show Steps p.tables e below (T50.setTop (mkF m 215 #[.val (.int p0), .val (.int p1), .val (.int p2), .val (.int p3), .val (.int ix), .val (.int f0), .val (.int f1), .val (.int f2), .val (.int (1 : Int32)), .val (.int r), .val (.ref b34), .val (.ref b41), .val (.int (own_at (own_put (own_put (own_put [0, 0, 0] (0 : Int32) f0) (1 : Int32) f1) (2 : Int32) f2) r)), .val (.int (0 : Int32)), .unset, .unset] [])) _
          refine XS.iconst X50.here hx rfl (hb hby at_215) ?_
          show Steps p.tables e below (T50.setTop (mkF m 216 #[.val (.int p0), .val (.int p1), .val (.int p2), .val (.int p3), .val (.int ix), .val (.int f0), .val (.int f1), .val (.int f2), .val (.int (1 : Int32)), .val (.int r), .val (.ref b34), .val (.ref b41), .val (.int (own_at (own_put (own_put (own_put [0, 0, 0] (0 : Int32) f0) (1 : Int32) f1) (2 : Int32) f2) r)), .val (.int (0 : Int32)), .unset, .unset] [(.int (1 : Int32))])) _
          refine XS.goto X50.here hx rfl (pc0 := 216) (pc' := 220) rfl (hb hby at_216) (by decide) (by decide) ?_
          show Steps p.tables e below (T50.setTop (mkF m 220 #[.val (.int p0), .val (.int p1), .val (.int p2), .val (.int p3), .val (.int ix), .val (.int f0), .val (.int f1), .val (.int f2), .val (.int (1 : Int32)), .val (.int r), .val (.ref b34), .val (.ref b41), .val (.int (own_at (own_put (own_put (own_put [0, 0, 0] (0 : Int32) f0) (1 : Int32) f1) (2 : Int32) f2) r)), .val (.int (0 : Int32)), .unset, .unset] [(.int (1 : Int32))])) _
          refine XS.istore X50.here hx rfl (hb hby at_220) rfl (l' := #[.val (.int p0), .val (.int p1), .val (.int p2), .val (.int p3), .val (.int ix), .val (.int f0), .val (.int f1), .val (.int f2), .val (.int (1 : Int32)), .val (.int r), .val (.ref b34), .val (.ref b41), .val (.int (own_at (own_put (own_put (own_put [0, 0, 0] (0 : Int32) f0) (1 : Int32) f1) (2 : Int32) f2) r)), .val (.int (0 : Int32)), .val (.int (1 : Int32)), .unset]) rfl ?_
          exact kt
        exact tlE _ _ _ _ _ _ _ _ b34 b41 am ap _ ka kp (own_del (own_add own_D0 f0) (own_at (own_put (own_put (own_put [0, 0, 0] (0 : Int32) f0) (1 : Int32) f1) (2 : Int32) f2) r)) (0 : Int32) _ T50 _ _ X50 eq50 N50 Z48 IS48 Vq48 geo g_b34 okF
      · refine own_st (A' := T48.setTop (mkF m 207 #[.val (.int p0), .val (.int p1), .val (.int p2), .val (.int p3), .val (.int ix), .val (.int f0), .val (.int f1), .val (.int f2), .val (.int (1 : Int32)), .val (.int r), .val (.ref b34), .val (.ref b41), .val (.int (own_at (own_put (own_put (own_put [0, 0, 0] (0 : Int32) f0) (1 : Int32) f1) (2 : Int32) f2) r)), .val (.int (0 : Int32)), .unset, .unset] [(.ref b41)])) (fun tg kt => ?_) ?_
        · show Steps p.tables e below (T48.setTop (mkF m 160 #[.val (.int p0), .val (.int p1), .val (.int p2), .val (.int p3), .val (.int ix), .val (.int f0), .val (.int f1), .val (.int f2), .val (.int (1 : Int32)), .val (.int r), .val (.ref b34), .val (.ref b41), .val (.int (own_at (own_put (own_put (own_put [0, 0, 0] (0 : Int32) f0) (1 : Int32) f1) (2 : Int32) f2) r)), .val (.int (0 : Int32)), .unset, .unset] [(.int (p3 &&& (1 : Int32)))])) _
          refine XS.ifNo X48.here hx rfl (hb hby at_160) rfl ((if0 _ _).trans (feq hc160_49).1) ?_
          show Steps p.tables e below (T48.setTop (mkF m 163 #[.val (.int p0), .val (.int p1), .val (.int p2), .val (.int p3), .val (.int ix), .val (.int f0), .val (.int f1), .val (.int f2), .val (.int (1 : Int32)), .val (.int r), .val (.ref b34), .val (.ref b41), .val (.int (own_at (own_put (own_put (own_put [0, 0, 0] (0 : Int32) f0) (1 : Int32) f1) (2 : Int32) f2) r)), .val (.int (0 : Int32)), .unset, .unset] [])) _
          refine XS.iload X48.here hx rfl (hb hby at_163) rfl ?_
          show Steps p.tables e below (T48.setTop (mkF m 165 #[.val (.int p0), .val (.int p1), .val (.int p2), .val (.int p3), .val (.int ix), .val (.int f0), .val (.int f1), .val (.int f2), .val (.int (1 : Int32)), .val (.int r), .val (.ref b34), .val (.ref b41), .val (.int (own_at (own_put (own_put (own_put [0, 0, 0] (0 : Int32) f0) (1 : Int32) f1) (2 : Int32) f2) r)), .val (.int (0 : Int32)), .unset, .unset] [(.int (0 : Int32))])) _
          refine XS.iconst X48.here hx rfl (hb hby at_165) ?_
          show Steps p.tables e below (T48.setTop (mkF m 166 #[.val (.int p0), .val (.int p1), .val (.int p2), .val (.int p3), .val (.int ix), .val (.int f0), .val (.int f1), .val (.int f2), .val (.int (1 : Int32)), .val (.int r), .val (.ref b34), .val (.ref b41), .val (.int (own_at (own_put (own_put (own_put [0, 0, 0] (0 : Int32) f0) (1 : Int32) f1) (2 : Int32) f2) r)), .val (.int (0 : Int32)), .unset, .unset] [(.int (1 : Int32)), (.int (0 : Int32))])) _
          refine XS.icmpYes X48.here hx rfl (pc0 := 166) (pc' := 205) rfl (hb hby at_166) rfl (tlt ((by decide) : (0 : Int32) < (1 : Int32))).1 (by decide) (by decide) ?_
          show Steps p.tables e below (T48.setTop (mkF m 205 #[.val (.int p0), .val (.int p1), .val (.int p2), .val (.int p3), .val (.int ix), .val (.int f0), .val (.int f1), .val (.int f2), .val (.int (1 : Int32)), .val (.int r), .val (.ref b34), .val (.ref b41), .val (.int (own_at (own_put (own_put (own_put [0, 0, 0] (0 : Int32) f0) (1 : Int32) f1) (2 : Int32) f2) r)), .val (.int (0 : Int32)), .unset, .unset] [])) _
          refine XS.aload X48.here hx rfl (hb hby at_205) rfl rfl ?_
          exact kt
        obtain ⟨cq51, kq51, q51a, q51b, q51c⟩ := isOf hZ rfl (E46.keep Kq48)
        obtain ⟨_, _, ⟨T51, L51, k51, n51⟩, -, X51, ⟨Lc51, hQ51, l51, y51, z51⟩, st51⟩ := X48.virtualBack hx (y := (⟨"com/example/slotpack/slotpack/IndexSet", "size", "()I"⟩ : MethodName)) (z := (⟨"com/example/slotpack/slotpack/IndexSet", "size", "()I"⟩ : MethodName)) hown (mvT hZ (hw _ (List.mem_of_getElem? (i := 35) rfl))) (mvT hZ (hw _ (List.mem_of_getElem? (i := 36) rfl))) (notFace_of_selects (args := #[]) (mvT hZ (hw _ (List.mem_of_getElem? (i := 38) rfl)))) (mvT hZ (hw _ (List.mem_of_getElem? (i := 38) rfl))) (mvT hZ (hw _ (List.mem_of_getElem? (i := 37) rfl))) (by decide) (backOf (W := 0) (rm7 l Z a0 hw [] b41   am ap ka kp (own_del (own_add own_D0 f0) (own_at (own_put (own_put (own_put [0, 0, 0] (0 : Int32) f0) (1 : Int32) f1) (2 : Int32) f2) r)) T48.heap n0 Z48 IS48 geo ) hZ (hw _ (List.mem_of_getElem? (i := 39) rfl)) (hw _ (List.mem_of_getElem? (i := 4) rfl)) (by decide) (by decide)) q51a q51c (g := (mkF m 207 #[.val (.int p0), .val (.int p1), .val (.int p2), .val (.int p3), .val (.int ix), .val (.int f0), .val (.int f1), .val (.int f2), .val (.int (1 : Int32)), .val (.int r), .val (.ref b34), .val (.ref b41), .val (.int (own_at (own_put (own_put (own_put [0, 0, 0] (0 : Int32) f0) (1 : Int32) f1) (2 : Int32) f2) r)), .val (.int (0 : Int32)), .unset, .unset] [(.ref b41)])) rfl (by rw [hml]; rfl) (Steps.refl _) (argsL := []) (rest := []) (lenOf own_pd9 rfl) rfl (by show 2 * 0 + _ ≤ _; exact Nat.le_of_eq rfl) (hb hby at_207) (fun _ _ => ⟨rfl, rfl, (by decide : 4 + 0 ≤ _), (by decide : 12 + 0 ≤ _)⟩)
        dsimp only [Pt.U, Pt.locs, Pt.cells, Pt.slots] at X51 l51 y51 z51 st51 hQ51
        subst l51 y51 z51
        obtain ⟨rfl, Nq51, eq51⟩ := hQ51
        have N51 := Fr.app N48 Nq51
        refine own_tr st51 ?_
        show own_Gl _ _ _ _ _ _ _ _ (T51.setTop (mkF m 210 #[.val (.int p0), .val (.int p1), .val (.int p2), .val (.int p3), .val (.int ix), .val (.int f0), .val (.int f1), .val (.int f2), .val (.int (1 : Int32)), .val (.int r), .val (.ref b34), .val (.ref b41), .val (.int (own_at (own_put (own_put (own_put [0, 0, 0] (0 : Int32) f0) (1 : Int32) f1) (2 : Int32) f2) r)), .val (.int (0 : Int32)), .unset, .unset] [(.int (own_del (own_add own_D0 f0) (own_at (own_put (own_put (own_put [0, 0, 0] (0 : Int32) f0) (1 : Int32) f1) (2 : Int32) f2) r)).2.2)]))
        refine own_st (A' := T51.setTop (mkF m 222 #[.val (.int p0), .val (.int p1), .val (.int p2), .val (.int p3), .val (.int ix), .val (.int f0), .val (.int f1), .val (.int f2), .val (.int (1 : Int32)), .val (.int r), .val (.ref b34), .val (.ref b41), .val (.int (own_at (own_put (own_put (own_put [0, 0, 0] (0 : Int32) f0) (1 : Int32) f1) (2 : Int32) f2) r)), .val (.int (0 : Int32)), .val (.int (1 : Int32)), .unset] [])) (fun tg kt => ?_) ?_
        · show Steps p.tables e below (T51.setTop (mkF m 210 #[.val (.int p0), .val (.int p1), .val (.int p2), .val (.int p3), .val (.int ix), .val (.int f0), .val (.int f1), .val (.int f2), .val (.int (1 : Int32)), .val (.int r), .val (.ref b34), .val (.ref b41), .val (.int (own_at (own_put (own_put (own_put [0, 0, 0] (0 : Int32) f0) (1 : Int32) f1) (2 : Int32) f2) r)), .val (.int (0 : Int32)), .unset, .unset] [(.int (own_del (own_add own_D0 f0) (own_at (own_put (own_put (own_put [0, 0, 0] (0 : Int32) f0) (1 : Int32) f1) (2 : Int32) f2) r)).2.2)])) _
          refine XS.iload X51.here hx rfl (hb hby at_210) rfl ?_
          show Steps p.tables e below (T51.setTop (mkF m 212 #[.val (.int p0), .val (.int p1), .val (.int p2), .val (.int p3), .val (.int ix), .val (.int f0), .val (.int f1), .val (.int f2), .val (.int (1 : Int32)), .val (.int r), .val (.ref b34), .val (.ref b41), .val (.int (own_at (own_put (own_put (own_put [0, 0, 0] (0 : Int32) f0) (1 : Int32) f1) (2 : Int32) f2) r)), .val (.int (0 : Int32)), .unset, .unset] [(.int (0 : Int32)), (.int (own_del (own_add own_D0 f0) (own_at (own_put (own_put (own_put [0, 0, 0] (0 : Int32) f0) (1 : Int32) f1) (2 : Int32) f2) r)).2.2)])) _
          refine XS.icmpNo X51.here hx rfl (hb hby at_212) rfl (teq (okF.1 : (own_del (own_add own_D0 f0) (own_at (own_put (own_put (own_put [0, 0, 0] (0 : Int32) f0) (1 : Int32) f1) (2 : Int32) f2) r)).2.2 = (0 : Int32))).2 ?_
          show Steps p.tables e below (T51.setTop (mkF m 215 #[.val (.int p0), .val (.int p1), .val (.int p2), .val (.int p3), .val (.int ix), .val (.int f0), .val (.int f1), .val (.int f2), .val (.int (1 : Int32)), .val (.int r), .val (.ref b34), .val (.ref b41), .val (.int (own_at (own_put (own_put (own_put [0, 0, 0] (0 : Int32) f0) (1 : Int32) f1) (2 : Int32) f2) r)), .val (.int (0 : Int32)), .unset, .unset] [])) _
          refine XS.iconst X51.here hx rfl (hb hby at_215) ?_
          show Steps p.tables e below (T51.setTop (mkF m 216 #[.val (.int p0), .val (.int p1), .val (.int p2), .val (.int p3), .val (.int ix), .val (.int f0), .val (.int f1), .val (.int f2), .val (.int (1 : Int32)), .val (.int r), .val (.ref b34), .val (.ref b41), .val (.int (own_at (own_put (own_put (own_put [0, 0, 0] (0 : Int32) f0) (1 : Int32) f1) (2 : Int32) f2) r)), .val (.int (0 : Int32)), .unset, .unset] [(.int (1 : Int32))])) _
          refine XS.goto X51.here hx rfl (pc0 := 216) (pc' := 220) rfl (hb hby at_216) (by decide) (by decide) ?_
          show Steps p.tables e below (T51.setTop (mkF m 220 #[.val (.int p0), .val (.int p1), .val (.int p2), .val (.int p3), .val (.int ix), .val (.int f0), .val (.int f1), .val (.int f2), .val (.int (1 : Int32)), .val (.int r), .val (.ref b34), .val (.ref b41), .val (.int (own_at (own_put (own_put (own_put [0, 0, 0] (0 : Int32) f0) (1 : Int32) f1) (2 : Int32) f2) r)), .val (.int (0 : Int32)), .unset, .unset] [(.int (1 : Int32))])) _
          refine XS.istore X51.here hx rfl (hb hby at_220) rfl (l' := #[.val (.int p0), .val (.int p1), .val (.int p2), .val (.int p3), .val (.int ix), .val (.int f0), .val (.int f1), .val (.int f2), .val (.int (1 : Int32)), .val (.int r), .val (.ref b34), .val (.ref b41), .val (.int (own_at (own_put (own_put (own_put [0, 0, 0] (0 : Int32) f0) (1 : Int32) f1) (2 : Int32) f2) r)), .val (.int (0 : Int32)), .val (.int (1 : Int32)), .unset]) rfl ?_
          exact kt
        exact tlE _ _ _ _ _ _ _ _ b34 b41 am ap _ ka kp (own_del (own_add own_D0 f0) (own_at (own_put (own_put (own_put [0, 0, 0] (0 : Int32) f0) (1 : Int32) f1) (2 : Int32) f2) r)) (0 : Int32) _ T51 _ _ X51 eq51 N51 Z48 IS48 Vq48 geo g_b34 okF
    · show own_Gl _ _ _ _ _ _ _ _ (s₁.setTop (mkF m 61 #[.val (.int p0), .val (.int p1), .val (.int p2), .val (.int p3), .val (.int ix), .val (.int f0), .val (.int f1), .val (.int f2), .val (.int (2 : Int32)), .unset, .unset, .unset, .unset, .unset, .unset, .unset] [(.int p2)]))
      refine own_st (A' := s₁.setTop (mkF m 67 #[.val (.int p0), .val (.int p1), .val (.int p2), .val (.int p3), .val (.int ix), .val (.int f0), .val (.int f1), .val (.int f2), .val (.int (2 : Int32)), .unset, .unset, .unset, .unset, .unset, .unset, .unset] [(.int ((p2 &&& (2147483647 : Int32)) % (2 : Int32)))])) (fun tg kt => ?_) ?_
      · show Steps p.tables e below (s₁.setTop (mkF m 61 #[.val (.int p0), .val (.int p1), .val (.int p2), .val (.int p3), .val (.int ix), .val (.int f0), .val (.int f1), .val (.int f2), .val (.int (2 : Int32)), .unset, .unset, .unset, .unset, .unset, .unset, .unset] [(.int p2)])) _
        refine X0.ldcInt hx hown (mvT hZ (hw _ (List.mem_of_getElem? (i := 0) rfl))) (g := (mkF m 61 #[.val (.int p0), .val (.int p1), .val (.int p2), .val (.int p3), .val (.int ix), .val (.int f0), .val (.int f1), .val (.int f2), .val (.int (2 : Int32)), .unset, .unset, .unset, .unset, .unset, .unset, .unset] [(.int p2)])) rfl (hb hby at_61) _ ?_
        show Steps p.tables e below (s₁.setTop (mkF m 63 #[.val (.int p0), .val (.int p1), .val (.int p2), .val (.int p3), .val (.int ix), .val (.int f0), .val (.int f1), .val (.int f2), .val (.int (2 : Int32)), .unset, .unset, .unset, .unset, .unset, .unset, .unset] [(.int (2147483647 : Int32)), (.int p2)])) _
        refine XS.iand X0.here hx rfl (hb hby at_63) rfl ?_
        show Steps p.tables e below (s₁.setTop (mkF m 64 #[.val (.int p0), .val (.int p1), .val (.int p2), .val (.int p3), .val (.int ix), .val (.int f0), .val (.int f1), .val (.int f2), .val (.int (2 : Int32)), .unset, .unset, .unset, .unset, .unset, .unset, .unset] [(.int (p2 &&& (2147483647 : Int32)))])) _
        refine XS.iload X0.here hx rfl (hb hby at_64) rfl ?_
        show Steps p.tables e below (s₁.setTop (mkF m 66 #[.val (.int p0), .val (.int p1), .val (.int p2), .val (.int p3), .val (.int ix), .val (.int f0), .val (.int f1), .val (.int f2), .val (.int (2 : Int32)), .unset, .unset, .unset, .unset, .unset, .unset, .unset] [(.int (2 : Int32)), (.int (p2 &&& (2147483647 : Int32)))])) _
        refine iremM X0 hx rfl (hb hby at_66) rfl (by decide) ?_
        exact kt
      obtain ⟨r, hr⟩ : ∃ z, z = ((p2 &&& (2147483647 : Int32)) % (2 : Int32)) := ⟨_, rfl⟩
      rw [← hr]
      show own_Gl _ _ _ _ _ _ _ _ (s₁.setTop (mkF m 67 #[.val (.int p0), .val (.int p1), .val (.int p2), .val (.int p3), .val (.int ix), .val (.int f0), .val (.int f1), .val (.int f2), .val (.int (2 : Int32)), .unset, .unset, .unset, .unset, .unset, .unset, .unset] [(.int r)]))
      have br := own_rem p2 2 2 (by decide) (by decide)
      rw [← hr] at br
      have hrr := own_split2 br.1 br.2
      refine own_st (A' := s₁.setTop (mkF m 69 #[.val (.int p0), .val (.int p1), .val (.int p2), .val (.int p3), .val (.int ix), .val (.int f0), .val (.int f1), .val (.int f2), .val (.int (2 : Int32)), .val (.int r), .unset, .unset, .unset, .unset, .unset, .unset] [])) (fun tg kt => ?_) ?_
      · show Steps p.tables e below (s₁.setTop (mkF m 67 #[.val (.int p0), .val (.int p1), .val (.int p2), .val (.int p3), .val (.int ix), .val (.int f0), .val (.int f1), .val (.int f2), .val (.int (2 : Int32)), .unset, .unset, .unset, .unset, .unset, .unset, .unset] [(.int r)])) _
        refine XS.istore X0.here hx rfl (hb hby at_67) rfl (l' := #[.val (.int p0), .val (.int p1), .val (.int p2), .val (.int p3), .val (.int ix), .val (.int f0), .val (.int f1), .val (.int f2), .val (.int (2 : Int32)), .val (.int r), .unset, .unset, .unset, .unset, .unset, .unset]) rfl ?_
        exact kt
      obtain ⟨ok0, ok1, okr, okR, okF⟩ := own_k2 f0 f1 f2 hp r hrr
      refine own_st (A' := s₁.setTop (mkF m 70 #[.val (.int p0), .val (.int p1), .val (.int p2), .val (.int p3), .val (.int ix), .val (.int f0), .val (.int f1), .val (.int f2), .val (.int (2 : Int32)), .val (.int r), .unset, .unset, .unset, .unset, .unset, .unset] [(.int (3 : Int32))])) (fun tg kt => ?_) ?_
      · show Steps p.tables e below (s₁.setTop (mkF m 69 #[.val (.int p0), .val (.int p1), .val (.int p2), .val (.int p3), .val (.int ix), .val (.int f0), .val (.int f1), .val (.int f2), .val (.int (2 : Int32)), .val (.int r), .unset, .unset, .unset, .unset, .unset, .unset] [])) _
        refine XS.iconst X0.here hx rfl (hb hby at_69) ?_
        exact kt
      obtain ⟨T52, h52, k52, X52, e52, E52, A52, st52⟩ := newP X0 hx hZ (hw _ (List.mem_of_getElem? (i := 1) rfl)) e0 (g := (mkF m 70 #[.val (.int p0), .val (.int p1), .val (.int p2), .val (.int p3), .val (.int ix), .val (.int f0), .val (.int f1), .val (.int f2), .val (.int (2 : Int32)), .val (.int r), .unset, .unset, .unset, .unset, .unset, .unset] [(.int (3 : Int32))])) rfl (hb hby at_70) rfl (by decide) (cap := 3) (by decide) (by decide) (by decide) (by decide)
      obtain ⟨b52, g52⟩ : ∃ z, z = h0.size := ⟨_, rfl⟩
      rw [← g52] at A52 st52
      have g_b52 : n0 ≤ b52 := Nat.le_trans Z0 (Nat.le_of_eq g52.symm)
      have kw_b52 : h0.size ≤ b52 := Nat.le_trans ((Keep.refl h0 ([] : List Addr))).1 (Nat.le_of_eq g52.symm)
      have K52 := ((Keep.refl h0 ([] : List Addr))).ext E52
      have Z52 : n0 ≤ h52.size := Nat.le_trans Z0 E52.1
      have V_b52 : Arv Z h52 b52 k52 .int (3 : Int32) [(.int (0 : Int32)), (.int (0 : Int32)), (.int (0 : Int32))] (.int (0 : Int32)) := (Arv.new A52 (by decide)).pad (pad_rep [] (.int (0 : Int32)) 3)
      have VA_b52 : own_ai Z h52 b52 k52 [0, 0, 0] := ⟨V_b52, rfl⟩
      refine own_st st52 ?_
      show own_Gl _ _ _ _ _ _ _ _ (T52.setTop (mkF m 72 #[.val (.int p0), .val (.int p1), .val (.int p2), .val (.int p3), .val (.int ix), .val (.int f0), .val (.int f1), .val (.int f2), .val (.int (2 : Int32)), .val (.int r), .unset, .unset, .unset, .unset, .unset, .unset] [(.ref b52)]))
      refine own_st (A' := T52.setTop (mkF m 76 #[.val (.int p0), .val (.int p1), .val (.int p2), .val (.int p3), .val (.int ix), .val (.int f0), .val (.int f1), .val (.int f2), .val (.int (2 : Int32)), .val (.int r), .unset, .unset, .unset, .unset, .unset, .unset] [(.int f0), (.int (0 : Int32)), (.ref b52), (.ref b52)])) (fun tg kt => ?_) ?_
      · show Steps p.tables e below (T52.setTop (mkF m 72 #[.val (.int p0), .val (.int p1), .val (.int p2), .val (.int p3), .val (.int ix), .val (.int f0), .val (.int f1), .val (.int f2), .val (.int (2 : Int32)), .val (.int r), .unset, .unset, .unset, .unset, .unset, .unset] [(.ref b52)])) _
        refine XS.dup X52.here hx rfl (hb hby at_72) rfl rfl ?_
        show Steps p.tables e below (T52.setTop (mkF m 73 #[.val (.int p0), .val (.int p1), .val (.int p2), .val (.int p3), .val (.int ix), .val (.int f0), .val (.int f1), .val (.int f2), .val (.int (2 : Int32)), .val (.int r), .unset, .unset, .unset, .unset, .unset, .unset] [(.ref b52), (.ref b52)])) _
        refine XS.iconst X52.here hx rfl (hb hby at_73) ?_
        show Steps p.tables e below (T52.setTop (mkF m 74 #[.val (.int p0), .val (.int p1), .val (.int p2), .val (.int p3), .val (.int ix), .val (.int f0), .val (.int f1), .val (.int f2), .val (.int (2 : Int32)), .val (.int r), .unset, .unset, .unset, .unset, .unset, .unset] [(.int (0 : Int32)), (.ref b52), (.ref b52)])) _
        refine XS.iload X52.here hx rfl (hb hby at_74) rfl ?_
        exact kt
      obtain ⟨cl53, Ar53, hin53, hset53⟩ := own_ai_st VA_b52 (j := (0 : Int32)) (by decide)
      obtain ⟨T54, h54, X54, e54, W54, st54⟩ := stI X52 hx hZ e52 Ar53 (j := (0 : Int32)) hin53 (g := (mkF m 76 #[.val (.int p0), .val (.int p1), .val (.int p2), .val (.int p3), .val (.int ix), .val (.int f0), .val (.int f1), .val (.int f2), .val (.int (2 : Int32)), .val (.int r), .unset, .unset, .unset, .unset, .unset, .unset] [(.int f0), (.int (0 : Int32)), (.ref b52), (.ref b52)])) rfl rfl (hb hby at_76)
      have N54 := Fr.snoc X54 N0 g_b52
      have K54 := (K52).wr W54 (Or.inr kw_b52)
      have Z54 : n0 ≤ h54.size := Nat.le_trans Z52 (Keep.of_wr W54).1
      have V54 := hset53 _ _ W54
      refine own_st st54 ?_
      show own_Gl _ _ _ _ _ _ _ _ (T54.setTop (mkF m 77 #[.val (.int p0), .val (.int p1), .val (.int p2), .val (.int p3), .val (.int ix), .val (.int f0), .val (.int f1), .val (.int f2), .val (.int (2 : Int32)), .val (.int r), .unset, .unset, .unset, .unset, .unset, .unset] [(.ref b52)]))
      refine own_st (A' := T54.setTop (mkF m 81 #[.val (.int p0), .val (.int p1), .val (.int p2), .val (.int p3), .val (.int ix), .val (.int f0), .val (.int f1), .val (.int f2), .val (.int (2 : Int32)), .val (.int r), .unset, .unset, .unset, .unset, .unset, .unset] [(.int f1), (.int (1 : Int32)), (.ref b52), (.ref b52)])) (fun tg kt => ?_) ?_
      · show Steps p.tables e below (T54.setTop (mkF m 77 #[.val (.int p0), .val (.int p1), .val (.int p2), .val (.int p3), .val (.int ix), .val (.int f0), .val (.int f1), .val (.int f2), .val (.int (2 : Int32)), .val (.int r), .unset, .unset, .unset, .unset, .unset, .unset] [(.ref b52)])) _
        refine XS.dup X54.here hx rfl (hb hby at_77) rfl rfl ?_
        show Steps p.tables e below (T54.setTop (mkF m 78 #[.val (.int p0), .val (.int p1), .val (.int p2), .val (.int p3), .val (.int ix), .val (.int f0), .val (.int f1), .val (.int f2), .val (.int (2 : Int32)), .val (.int r), .unset, .unset, .unset, .unset, .unset, .unset] [(.ref b52), (.ref b52)])) _
        refine XS.iconst X54.here hx rfl (hb hby at_78) ?_
        show Steps p.tables e below (T54.setTop (mkF m 79 #[.val (.int p0), .val (.int p1), .val (.int p2), .val (.int p3), .val (.int ix), .val (.int f0), .val (.int f1), .val (.int f2), .val (.int (2 : Int32)), .val (.int r), .unset, .unset, .unset, .unset, .unset, .unset] [(.int (1 : Int32)), (.ref b52), (.ref b52)])) _
        refine XS.iload X54.here hx rfl (hb hby at_79) rfl ?_
        exact kt
      obtain ⟨cl55, Ar55, hin55, hset55⟩ := own_ai_st V54 (j := (1 : Int32)) (by decide)
      obtain ⟨T56, h56, X56, e56, W56, st56⟩ := stI X54 hx hZ e54 Ar55 (j := (1 : Int32)) hin55 (g := (mkF m 81 #[.val (.int p0), .val (.int p1), .val (.int p2), .val (.int p3), .val (.int ix), .val (.int f0), .val (.int f1), .val (.int f2), .val (.int (2 : Int32)), .val (.int r), .unset, .unset, .unset, .unset, .unset, .unset] [(.int f1), (.int (1 : Int32)), (.ref b52), (.ref b52)])) rfl rfl (hb hby at_81)
      have N56 := Fr.snoc X56 N54 g_b52
      have K56 := (K54).wr W56 (Or.inr kw_b52)
      have Z56 : n0 ≤ h56.size := Nat.le_trans Z54 (Keep.of_wr W56).1
      have V56 := hset55 _ _ W56
      refine own_st st56 ?_
      show own_Gl _ _ _ _ _ _ _ _ (T56.setTop (mkF m 82 #[.val (.int p0), .val (.int p1), .val (.int p2), .val (.int p3), .val (.int ix), .val (.int f0), .val (.int f1), .val (.int f2), .val (.int (2 : Int32)), .val (.int r), .unset, .unset, .unset, .unset, .unset, .unset] [(.ref b52)]))
      refine own_st (A' := T56.setTop (mkF m 86 #[.val (.int p0), .val (.int p1), .val (.int p2), .val (.int p3), .val (.int ix), .val (.int f0), .val (.int f1), .val (.int f2), .val (.int (2 : Int32)), .val (.int r), .unset, .unset, .unset, .unset, .unset, .unset] [(.int f2), (.int (2 : Int32)), (.ref b52), (.ref b52)])) (fun tg kt => ?_) ?_
      · show Steps p.tables e below (T56.setTop (mkF m 82 #[.val (.int p0), .val (.int p1), .val (.int p2), .val (.int p3), .val (.int ix), .val (.int f0), .val (.int f1), .val (.int f2), .val (.int (2 : Int32)), .val (.int r), .unset, .unset, .unset, .unset, .unset, .unset] [(.ref b52)])) _
        refine XS.dup X56.here hx rfl (hb hby at_82) rfl rfl ?_
        show Steps p.tables e below (T56.setTop (mkF m 83 #[.val (.int p0), .val (.int p1), .val (.int p2), .val (.int p3), .val (.int ix), .val (.int f0), .val (.int f1), .val (.int f2), .val (.int (2 : Int32)), .val (.int r), .unset, .unset, .unset, .unset, .unset, .unset] [(.ref b52), (.ref b52)])) _
        refine XS.iconst X56.here hx rfl (hb hby at_83) ?_
        show Steps p.tables e below (T56.setTop (mkF m 84 #[.val (.int p0), .val (.int p1), .val (.int p2), .val (.int p3), .val (.int ix), .val (.int f0), .val (.int f1), .val (.int f2), .val (.int (2 : Int32)), .val (.int r), .unset, .unset, .unset, .unset, .unset, .unset] [(.int (2 : Int32)), (.ref b52), (.ref b52)])) _
        refine XS.iload X56.here hx rfl (hb hby at_84) rfl ?_
        exact kt
      obtain ⟨cl57, Ar57, hin57, hset57⟩ := own_ai_st V56 (j := (2 : Int32)) (by decide)
      obtain ⟨T58, h58, X58, e58, W58, st58⟩ := stI X56 hx hZ e56 Ar57 (j := (2 : Int32)) hin57 (g := (mkF m 86 #[.val (.int p0), .val (.int p1), .val (.int p2), .val (.int p3), .val (.int ix), .val (.int f0), .val (.int f1), .val (.int f2), .val (.int (2 : Int32)), .val (.int r), .unset, .unset, .unset, .unset, .unset, .unset] [(.int f2), (.int (2 : Int32)), (.ref b52), (.ref b52)])) rfl rfl (hb hby at_86)
      have N58 := Fr.snoc X58 N56 g_b52
      have K58 := (K56).wr W58 (Or.inr kw_b52)
      have Z58 : n0 ≤ h58.size := Nat.le_trans Z56 (Keep.of_wr W58).1
      have V58 := hset57 _ _ W58
      refine own_st st58 ?_
      show own_Gl _ _ _ _ _ _ _ _ (T58.setTop (mkF m 87 #[.val (.int p0), .val (.int p1), .val (.int p2), .val (.int p3), .val (.int ix), .val (.int f0), .val (.int f1), .val (.int f2), .val (.int (2 : Int32)), .val (.int r), .unset, .unset, .unset, .unset, .unset, .unset] [(.ref b52)]))
      refine own_st (A' := T58.setTop (mkF m 89 #[.val (.int p0), .val (.int p1), .val (.int p2), .val (.int p3), .val (.int ix), .val (.int f0), .val (.int f1), .val (.int f2), .val (.int (2 : Int32)), .val (.int r), .val (.ref b52), .unset, .unset, .unset, .unset, .unset] [])) (fun tg kt => ?_) ?_
      · show Steps p.tables e below (T58.setTop (mkF m 87 #[.val (.int p0), .val (.int p1), .val (.int p2), .val (.int p3), .val (.int ix), .val (.int f0), .val (.int f1), .val (.int f2), .val (.int (2 : Int32)), .val (.int r), .unset, .unset, .unset, .unset, .unset, .unset] [(.ref b52)])) _
        refine XS.astore X58.here hx rfl (hb hby at_87) rfl rfl (l' := #[.val (.int p0), .val (.int p1), .val (.int p2), .val (.int p3), .val (.int ix), .val (.int f0), .val (.int f1), .val (.int f2), .val (.int (2 : Int32)), .val (.int r), .val (.ref b52), .unset, .unset, .unset, .unset, .unset]) rfl ?_
        exact kt
      obtain ⟨T59, h59, X59, e59, E59, A59, D59, -, st59⟩ := newO X58 hx hZ hown (hw _ (List.mem_of_getElem? (i := 2) rfl)) (hw _ (List.mem_of_getElem? (i := 3) rfl)) (hw _ (List.mem_of_getElem? (i := 4) rfl)) e58 (g := (mkF m 89 #[.val (.int p0), .val (.int p1), .val (.int p2), .val (.int p3), .val (.int ix), .val (.int f0), .val (.int f1), .val (.int f2), .val (.int (2 : Int32)), .val (.int r), .val (.ref b52), .unset, .unset, .unset, .unset, .unset] [])) rfl (hb hby at_89) (by decide) (by decide)
      obtain ⟨b59, g59⟩ : ∃ z, z = h58.size := ⟨_, rfl⟩
      rw [← g59] at A59 D59 st59
      have g_b59 : n0 ≤ b59 := Nat.le_trans Z58 (Nat.le_of_eq g59.symm)
      have kw_b59 : h0.size ≤ b59 := Nat.le_trans (K58).1 (Nat.le_of_eq g59.symm)
      have ne_b52_b59 : b52 ≠ b59 := Nat.ne_of_lt (Nat.lt_of_lt_of_le V58.lt (Nat.le_of_eq g59.symm))
      have K59 := (K58).ext E59
      have Z59 : n0 ≤ h59.size := Nat.le_trans Z58 E59.1
      have F_members_b59 : Fld Z h59 b59 "com/example/slotpack/slotpack/IndexSet" "members" "[I" .null := D59 (Or.inr (hw _ (List.mem_of_getElem? (i := 12) rfl))) (ty := (.array .int)) (by decide)
      have F_positions_b59 : Fld Z h59 b59 "com/example/slotpack/slotpack/IndexSet" "positions" "[I" .null := D59 (Or.inr (hw _ (List.mem_of_getElem? (i := 14) rfl))) (ty := (.array .int)) (by decide)
      have F_size_b59 : Fld Z h59 b59 "com/example/slotpack/slotpack/IndexSet" "size" "I" (.int (0 : Int32)) := D59 (Or.inl (hw _ (List.mem_of_getElem? (i := 25) rfl))) (ty := .int) (by decide)
      refine own_st st59 ?_
      show own_Gl _ _ _ _ _ _ _ _ (T59.setTop (mkF m 92 #[.val (.int p0), .val (.int p1), .val (.int p2), .val (.int p3), .val (.int ix), .val (.int f0), .val (.int f1), .val (.int f2), .val (.int (2 : Int32)), .val (.int r), .val (.ref b52), .unset, .unset, .unset, .unset, .unset] [(.ref b59)]))
      refine own_st (A' := T59.setTop (mkF m 94 #[.val (.int p0), .val (.int p1), .val (.int p2), .val (.int p3), .val (.int ix), .val (.int f0), .val (.int f1), .val (.int f2), .val (.int (2 : Int32)), .val (.int r), .val (.ref b52), .unset, .unset, .unset, .unset, .unset] [(.int (3 : Int32)), (.ref b59), (.ref b59)])) (fun tg kt => ?_) ?_
      · show Steps p.tables e below (T59.setTop (mkF m 92 #[.val (.int p0), .val (.int p1), .val (.int p2), .val (.int p3), .val (.int ix), .val (.int f0), .val (.int f1), .val (.int f2), .val (.int (2 : Int32)), .val (.int r), .val (.ref b52), .unset, .unset, .unset, .unset, .unset] [(.ref b59)])) _
        refine XS.dup X59.here hx rfl (hb hby at_92) rfl rfl ?_
        show Steps p.tables e below (T59.setTop (mkF m 93 #[.val (.int p0), .val (.int p1), .val (.int p2), .val (.int p3), .val (.int ix), .val (.int f0), .val (.int f1), .val (.int f2), .val (.int (2 : Int32)), .val (.int r), .val (.ref b52), .unset, .unset, .unset, .unset, .unset] [(.ref b59), (.ref b59)])) _
        refine XS.iconst X59.here hx rfl (hb hby at_93) ?_
        exact kt
      obtain ⟨_, _, ⟨T60, L60, k60, n60⟩, -, X60, ⟨Lc60, hQ60, l60, y60, z60⟩, st60⟩ := X59.specialBack hx (y := (⟨"com/example/slotpack/slotpack/IndexSet", "<init>", "(I)V"⟩ : MethodName)) rfl hown (mvT hZ (hw _ (List.mem_of_getElem? (i := 5) rfl))) (mvT hZ (hw _ (List.mem_of_getElem? (i := 6) rfl))) (mvT hZ (hw _ (List.mem_of_getElem? (i := 7) rfl))) (by decide) (backOf (W := 1) (rm1 l Z a0 hw [] b59 h59 n0 Z59 F_members_b59 F_positions_b59 F_size_b59 A59 g_b59) hZ (hw _ (List.mem_of_getElem? (i := 7) rfl)) (hw _ (List.mem_of_getElem? (i := 4) rfl)) (by decide) (by decide)) (g := (mkF m 94 #[.val (.int p0), .val (.int p1), .val (.int p2), .val (.int p3), .val (.int ix), .val (.int f0), .val (.int f1), .val (.int f2), .val (.int (2 : Int32)), .val (.int r), .val (.ref b52), .unset, .unset, .unset, .unset, .unset] [(.int (3 : Int32)), (.ref b59), (.ref b59)])) rfl (by rw [hml]; rfl) (Steps.refl _) (a := b59) (argsL := [(.int (3 : Int32))]) (rest := [(.ref b59)]) (lenOf own_pd7 rfl) rfl (by show 2 * 0 + _ ≤ _; exact Nat.le_of_eq rfl) (hb hby at_94) (fun _ _ => ⟨rfl, e59, (by decide : 2 + 2 ≤ _), (by decide : 6 + 6 ≤ _)⟩)
      dsimp only [Pt.U, Pt.locs, Pt.cells, Pt.slots] at X60 l60 y60 z60 st60 hQ60
      subst l60 y60 z60
      obtain ⟨rfl, Nq60, am, ap, ka, kp, Kq60, IS60, kam60, kap60, nea⟩ := hQ60
      have N60 := Fr.app N58 Nq60
      have ne_m_am : b52 ≠ am := Nat.ne_of_lt (Nat.lt_of_lt_of_le (V58.ext E59).lt kam60)
      have ne_m_ap : b52 ≠ ap := Nat.ne_of_lt (Nat.lt_of_lt_of_le (V58.ext E59).lt kap60)
      have ne_b_am : b59 ≠ am := Nat.ne_of_lt (Nat.lt_of_lt_of_le A59.lt kam60)
      have ne_b_ap : b59 ≠ ap := Nat.ne_of_lt (Nat.lt_of_lt_of_le A59.lt kap60)
      have geo : own_geo n0 b59 am ap := ⟨g_b59, Nat.le_trans Z59 kam60, Nat.le_trans Z59 kap60, ne_b_am, ne_b_ap, nea⟩
      have Z60 : n0 ≤ T60.heap.size := Nat.le_trans Z59 Kq60.1
      refine own_tr st60 ?_
      show own_Gl _ _ _ _ _ _ _ _ (T60.setTop (mkF m 97 #[.val (.int p0), .val (.int p1), .val (.int p2), .val (.int p3), .val (.int ix), .val (.int f0), .val (.int f1), .val (.int f2), .val (.int (2 : Int32)), .val (.int r), .val (.ref b52), .unset, .unset, .unset, .unset, .unset] [(.ref b59)]))
      refine own_st (A' := T60.setTop (mkF m 103 #[.val (.int p0), .val (.int p1), .val (.int p2), .val (.int p3), .val (.int ix), .val (.int f0), .val (.int f1), .val (.int f2), .val (.int (2 : Int32)), .val (.int r), .val (.ref b52), .val (.ref b59), .unset, .unset, .unset, .unset] [(.int f0), (.ref b59)])) (fun tg kt => ?_) ?_
      · show Steps p.tables e below (T60.setTop (mkF m 97 #[.val (.int p0), .val (.int p1), .val (.int p2), .val (.int p3), .val (.int ix), .val (.int f0), .val (.int f1), .val (.int f2), .val (.int (2 : Int32)), .val (.int r), .val (.ref b52), .unset, .unset, .unset, .unset, .unset] [(.ref b59)])) _
        refine XS.astore X60.here hx rfl (hb hby at_97) rfl rfl (l' := #[.val (.int p0), .val (.int p1), .val (.int p2), .val (.int p3), .val (.int ix), .val (.int f0), .val (.int f1), .val (.int f2), .val (.int (2 : Int32)), .val (.int r), .val (.ref b52), .val (.ref b59), .unset, .unset, .unset, .unset]) rfl ?_
        show Steps p.tables e below (T60.setTop (mkF m 99 #[.val (.int p0), .val (.int p1), .val (.int p2), .val (.int p3), .val (.int ix), .val (.int f0), .val (.int f1), .val (.int f2), .val (.int (2 : Int32)), .val (.int r), .val (.ref b52), .val (.ref b59), .unset, .unset, .unset, .unset] [])) _
        refine XS.aload X60.here hx rfl (hb hby at_99) rfl rfl ?_
        show Steps p.tables e below (T60.setTop (mkF m 101 #[.val (.int p0), .val (.int p1), .val (.int p2), .val (.int p3), .val (.int ix), .val (.int f0), .val (.int f1), .val (.int f2), .val (.int (2 : Int32)), .val (.int r), .val (.ref b52), .val (.ref b59), .unset, .unset, .unset, .unset] [(.ref b59)])) _
        refine XS.iload X60.here hx rfl (hb hby at_101) rfl ?_
        exact kt
      obtain ⟨cq61, kq61, q61a, q61b, q61c⟩ := isOf hZ rfl (A59.keep Kq60)
      obtain ⟨_, _, ⟨T61, L61, k61, n61⟩, -, X61, ⟨Lc61, hQ61, l61, y61, z61⟩, st61⟩ := X60.virtualBack hx (y := (⟨"com/example/slotpack/slotpack/IndexSet", "add", "(I)V"⟩ : MethodName)) (z := (⟨"com/example/slotpack/slotpack/IndexSet", "add", "(I)V"⟩ : MethodName)) hown (mvT hZ (hw _ (List.mem_of_getElem? (i := 19) rfl))) (mvT hZ (hw _ (List.mem_of_getElem? (i := 20) rfl))) (notFace_of_selects (args := #[]) (mvT hZ (hw _ (List.mem_of_getElem? (i := 22) rfl)))) (mvT hZ (hw _ (List.mem_of_getElem? (i := 22) rfl))) (mvT hZ (hw _ (List.mem_of_getElem? (i := 21) rfl))) (by decide) (backOf (W := 0) (rm4 l Z a0 hw [] b59 f0 am ap ka kp own_D0 T60.heap n0 Z60 IS60 geo ok0) hZ (hw _ (List.mem_of_getElem? (i := 23) rfl)) (hw _ (List.mem_of_getElem? (i := 4) rfl)) (by decide) (by decide)) q61a q61c (g := (mkF m 103 #[.val (.int p0), .val (.int p1), .val (.int p2), .val (.int p3), .val (.int ix), .val (.int f0), .val (.int f1), .val (.int f2), .val (.int (2 : Int32)), .val (.int r), .val (.ref b52), .val (.ref b59), .unset, .unset, .unset, .unset] [(.int f0), (.ref b59)])) rfl (by rw [hml]; rfl) (Steps.refl _) (argsL := [(.int f0)]) (rest := []) (lenOf own_pd7 rfl) rfl (by show 2 * 0 + _ ≤ _; exact Nat.le_of_eq rfl) (hb hby at_103) (fun _ _ => ⟨rfl, rfl, (by decide : 4 + 0 ≤ _), (by decide : 12 + 0 ≤ _)⟩)
      dsimp only [Pt.U, Pt.locs, Pt.cells, Pt.slots] at X61 l61 y61 z61 st61 hQ61
      subst l61 y61 z61
      obtain ⟨rfl, Nq61, Kq61, IS61⟩ := hQ61
      have N61 := Fr.app N60 Nq61
      have E61 := IS61.1
      have Fa62 := (((V58.ext E59).keep Kq60 (ninS ne_b52_b59 nin0)).keep Kq61 (ninS ne_b52_b59 (ninS ne_m_am (ninS ne_m_ap nin0))))
      have Z61 : n0 ≤ T61.heap.size := Nat.le_trans Z60 Kq61.1
      refine own_tr st61 ?_
      show own_Gl _ _ _ _ _ _ _ _ (T61.setTop (mkF m 106 #[.val (.int p0), .val (.int p1), .val (.int p2), .val (.int p3), .val (.int ix), .val (.int f0), .val (.int f1), .val (.int f2), .val (.int (2 : Int32)), .val (.int r), .val (.ref b52), .val (.ref b59), .unset, .unset, .unset, .unset] []))
      refine own_st (A' := T61.setTop (mkF m 116 #[.val (.int p0), .val (.int p1), .val (.int p2), .val (.int p3), .val (.int ix), .val (.int f0), .val (.int f1), .val (.int f2), .val (.int (2 : Int32)), .val (.int r), .val (.ref b52), .val (.ref b59), .unset, .unset, .unset, .unset] [(.int f1), (.ref b59)])) (fun tg kt => ?_) ?_
      · show Steps p.tables e below (T61.setTop (mkF m 106 #[.val (.int p0), .val (.int p1), .val (.int p2), .val (.int p3), .val (.int ix), .val (.int f0), .val (.int f1), .val (.int f2), .val (.int (2 : Int32)), .val (.int r), .val (.ref b52), .val (.ref b59), .unset, .unset, .unset, .unset] [])) _
        refine XS.iload X61.here hx rfl (hb hby at_106) rfl ?_
        show Steps p.tables e below (T61.setTop (mkF m 108 #[.val (.int p0), .val (.int p1), .val (.int p2), .val (.int p3), .val (.int ix), .val (.int f0), .val (.int f1), .val (.int f2), .val (.int (2 : Int32)), .val (.int r), .val (.ref b52), .val (.ref b59), .unset, .unset, .unset, .unset] [(.int (2 : Int32))])) _
        refine XS.iconst X61.here hx rfl (hb hby at_108) ?_
        show Steps p.tables e below (T61.setTop (mkF m 109 #[.val (.int p0), .val (.int p1), .val (.int p2), .val (.int p3), .val (.int ix), .val (.int f0), .val (.int f1), .val (.int f2), .val (.int (2 : Int32)), .val (.int r), .val (.ref b52), .val (.ref b59), .unset, .unset, .unset, .unset] [(.int (2 : Int32)), (.int (2 : Int32))])) _
        refine XS.icmpNo X61.here hx rfl (hb hby at_109) rfl (flt ((by decide) : ¬ ((2 : Int32) < (2 : Int32)))).1 ?_
        show Steps p.tables e below (T61.setTop (mkF m 112 #[.val (.int p0), .val (.int p1), .val (.int p2), .val (.int p3), .val (.int ix), .val (.int f0), .val (.int f1), .val (.int f2), .val (.int (2 : Int32)), .val (.int r), .val (.ref b52), .val (.ref b59), .unset, .unset, .unset, .unset] [])) _
        refine XS.aload X61.here hx rfl (hb hby at_112) rfl rfl ?_
        show Steps p.tables e below (T61.setTop (mkF m 114 #[.val (.int p0), .val (.int p1), .val (.int p2), .val (.int p3), .val (.int ix), .val (.int f0), .val (.int f1), .val (.int f2), .val (.int (2 : Int32)), .val (.int r), .val (.ref b52), .val (.ref b59), .unset, .unset, .unset, .unset] [(.ref b59)])) _
        refine XS.iload X61.here hx rfl (hb hby at_114) rfl ?_
        exact kt
      obtain ⟨cq63, kq63, q63a, q63b, q63c⟩ := isOf hZ rfl E61
      obtain ⟨_, _, ⟨T63, L63, k63, n63⟩, -, X63, ⟨Lc63, hQ63, l63, y63, z63⟩, st63⟩ := X61.virtualBack hx (y := (⟨"com/example/slotpack/slotpack/IndexSet", "add", "(I)V"⟩ : MethodName)) (z := (⟨"com/example/slotpack/slotpack/IndexSet", "add", "(I)V"⟩ : MethodName)) hown (mvT hZ (hw _ (List.mem_of_getElem? (i := 19) rfl))) (mvT hZ (hw _ (List.mem_of_getElem? (i := 20) rfl))) (notFace_of_selects (args := #[]) (mvT hZ (hw _ (List.mem_of_getElem? (i := 22) rfl)))) (mvT hZ (hw _ (List.mem_of_getElem? (i := 22) rfl))) (mvT hZ (hw _ (List.mem_of_getElem? (i := 21) rfl))) (by decide) (backOf (W := 0) (rm4 l Z a0 hw [] b59 f1 am ap ka kp (own_add own_D0 f0) T61.heap n0 Z61 IS61 geo ok1) hZ (hw _ (List.mem_of_getElem? (i := 23) rfl)) (hw _ (List.mem_of_getElem? (i := 4) rfl)) (by decide) (by decide)) q63a q63c (g := (mkF m 116 #[.val (.int p0), .val (.int p1), .val (.int p2), .val (.int p3), .val (.int ix), .val (.int f0), .val (.int f1), .val (.int f2), .val (.int (2 : Int32)), .val (.int r), .val (.ref b52), .val (.ref b59), .unset, .unset, .unset, .unset] [(.int f1), (.ref b59)])) rfl (by rw [hml]; rfl) (Steps.refl _) (argsL := [(.int f1)]) (rest := []) (lenOf own_pd7 rfl) rfl (by show 2 * 0 + _ ≤ _; exact Nat.le_of_eq rfl) (hb hby at_116) (fun _ _ => ⟨rfl, rfl, (by decide : 4 + 0 ≤ _), (by decide : 12 + 0 ≤ _)⟩)
      dsimp only [Pt.U, Pt.locs, Pt.cells, Pt.slots] at X63 l63 y63 z63 st63 hQ63
      subst l63 y63 z63
      obtain ⟨rfl, Nq63, Kq63, IS63⟩ := hQ63
      have N63 := Fr.app N61 Nq63
      have E63 := IS63.1
      have Fa64 := (Fa62.keep Kq63 (ninS ne_b52_b59 (ninS ne_m_am (ninS ne_m_ap nin0))))
      have Z63 : n0 ≤ T63.heap.size := Nat.le_trans Z61 Kq63.1
      refine own_tr st63 ?_
      show own_Gl _ _ _ _ _ _ _ _ (T63.setTop (mkF m 119 #[.val (.int p0), .val (.int p1), .val (.int p2), .val (.int p3), .val (.int ix), .val (.int f0), .val (.int f1), .val (.int f2), .val (.int (2 : Int32)), .val (.int r), .val (.ref b52), .val (.ref b59), .unset, .unset, .unset, .unset] []))
      refine own_st (A' := T63.setTop (mkF m 136 #[.val (.int p0), .val (.int p1), .val (.int p2), .val (.int p3), .val (.int ix), .val (.int f0), .val (.int f1), .val (.int f2), .val (.int (2 : Int32)), .val (.int r), .val (.ref b52), .val (.ref b59), .unset, .unset, .unset, .unset] [(.int r), (.ref b52)])) (fun tg kt => ?_) ?_
      · show Steps p.tables e below (T63.setTop (mkF m 119 #[.val (.int p0), .val (.int p1), .val (.int p2), .val (.int p3), .val (.int ix), .val (.int f0), .val (.int f1), .val (.int f2), .val (.int (2 : Int32)), .val (.int r), .val (.ref b52), .val (.ref b59), .unset, .unset, .unset, .unset] [])) _
        refine XS.iload X63.here hx rfl (hb hby at_119) rfl ?_
        show Steps p.tables e below (T63.setTop (mkF m 121 #[.val (.int p0), .val (.int p1), .val (.int p2), .val (.int p3), .val (.int ix), .val (.int f0), .val (.int f1), .val (.int f2), .val (.int (2 : Int32)), .val (.int r), .val (.ref b52), .val (.ref b59), .unset, .unset, .unset, .unset] [(.int (2 : Int32))])) _
        refine XS.iconst X63.here hx rfl (hb hby at_121) ?_
        show Steps p.tables e below (T63.setTop (mkF m 122 #[.val (.int p0), .val (.int p1), .val (.int p2), .val (.int p3), .val (.int ix), .val (.int f0), .val (.int f1), .val (.int f2), .val (.int (2 : Int32)), .val (.int r), .val (.ref b52), .val (.ref b59), .unset, .unset, .unset, .unset] [(.int (3 : Int32)), (.int (2 : Int32))])) _
        refine XS.icmpYes X63.here hx rfl (pc0 := 122) (pc' := 132) rfl (hb hby at_122) rfl (tlt ((by decide) : (2 : Int32) < (3 : Int32))).1 (by decide) (by decide) ?_
        show Steps p.tables e below (T63.setTop (mkF m 132 #[.val (.int p0), .val (.int p1), .val (.int p2), .val (.int p3), .val (.int ix), .val (.int f0), .val (.int f1), .val (.int f2), .val (.int (2 : Int32)), .val (.int r), .val (.ref b52), .val (.ref b59), .unset, .unset, .unset, .unset] [])) _
        refine XS.aload X63.here hx rfl (hb hby at_132) rfl rfl ?_
        show Steps p.tables e below (T63.setTop (mkF m 134 #[.val (.int p0), .val (.int p1), .val (.int p2), .val (.int p3), .val (.int ix), .val (.int f0), .val (.int f1), .val (.int f2), .val (.int (2 : Int32)), .val (.int r), .val (.ref b52), .val (.ref b59), .unset, .unset, .unset, .unset] [(.ref b52)])) _
        refine XS.iload X63.here hx rfl (hb hby at_134) rfl ?_
        exact kt
      obtain ⟨cl65, Ar65, hin65, hat65⟩ := own_ai_ld Fa64 (j := r) okr
      refine own_st (A' := T63.setTop (mkF m 143 #[.val (.int p0), .val (.int p1), .val (.int p2), .val (.int p3), .val (.int ix), .val (.int f0), .val (.int f1), .val (.int f2), .val (.int (2 : Int32)), .val (.int r), .val (.ref b52), .val (.ref b59), .val (.int (own_at (own_put (own_put (own_put [0, 0, 0] (0 : Int32) f0) (1 : Int32) f1) (2 : Int32) f2) r)), .unset, .unset, .unset] [(.int (own_at (own_put (own_put (own_put [0, 0, 0] (0 : Int32) f0) (1 : Int32) f1) (2 : Int32) f2) r)), (.ref b59)])) (fun tg kt => ?_) ?_
      · show Steps p.tables e below (T63.setTop (mkF m 136 #[.val (.int p0), .val (.int p1), .val (.int p2), .val (.int p3), .val (.int ix), .val (.int f0), .val (.int f1), .val (.int f2), .val (.int (2 : Int32)), .val (.int r), .val (.ref b52), .val (.ref b59), .unset, .unset, .unset, .unset] [(.int r), (.ref b52)])) _
        refine X63.iaload hx (j := r) (v := (.int (own_at (own_put (own_put (own_put [0, 0, 0] (0 : Int32) f0) (1 : Int32) f1) (2 : Int32) f2) r))) (own_at_heap rfl Ar65.1) (State.isArrayOf_alike hZ.alike Ar65.2.1) Ar65.2.2 hin65 hat65 (g := (mkF m 136 #[.val (.int p0), .val (.int p1), .val (.int p2), .val (.int p3), .val (.int ix), .val (.int f0), .val (.int f1), .val (.int f2), .val (.int (2 : Int32)), .val (.int r), .val (.ref b52), .val (.ref b59), .unset, .unset, .unset, .unset] [(.int r), (.ref b52)])) rfl rfl (hb hby at_136) _ ?_
        show Steps p.tables e below (T63.setTop (mkF m 137 #[.val (.int p0), .val (.int p1), .val (.int p2), .val (.int p3), .val (.int ix), .val (.int f0), .val (.int f1), .val (.int f2), .val (.int (2 : Int32)), .val (.int r), .val (.ref b52), .val (.ref b59), .unset, .unset, .unset, .unset] [(.int (own_at (own_put (own_put (own_put [0, 0, 0] (0 : Int32) f0) (1 : Int32) f1) (2 : Int32) f2) r))])) _
        refine XS.istore X63.here hx rfl (hb hby at_137) rfl (l' := #[.val (.int p0), .val (.int p1), .val (.int p2), .val (.int p3), .val (.int ix), .val (.int f0), .val (.int f1), .val (.int f2), .val (.int (2 : Int32)), .val (.int r), .val (.ref b52), .val (.ref b59), .val (.int (own_at (own_put (own_put (own_put [0, 0, 0] (0 : Int32) f0) (1 : Int32) f1) (2 : Int32) f2) r)), .unset, .unset, .unset]) rfl ?_
        show Steps p.tables e below (T63.setTop (mkF m 139 #[.val (.int p0), .val (.int p1), .val (.int p2), .val (.int p3), .val (.int ix), .val (.int f0), .val (.int f1), .val (.int f2), .val (.int (2 : Int32)), .val (.int r), .val (.ref b52), .val (.ref b59), .val (.int (own_at (own_put (own_put (own_put [0, 0, 0] (0 : Int32) f0) (1 : Int32) f1) (2 : Int32) f2) r)), .unset, .unset, .unset] [])) _
        refine XS.aload X63.here hx rfl (hb hby at_139) rfl rfl ?_
        show Steps p.tables e below (T63.setTop (mkF m 141 #[.val (.int p0), .val (.int p1), .val (.int p2), .val (.int p3), .val (.int ix), .val (.int f0), .val (.int f1), .val (.int f2), .val (.int (2 : Int32)), .val (.int r), .val (.ref b52), .val (.ref b59), .val (.int (own_at (own_put (own_put (own_put [0, 0, 0] (0 : Int32) f0) (1 : Int32) f1) (2 : Int32) f2) r)), .unset, .unset, .unset] [(.ref b59)])) _
        refine XS.iload X63.here hx rfl (hb hby at_141) rfl ?_
        exact kt
      obtain ⟨cq66, kq66, q66a, q66b, q66c⟩ := isOf hZ rfl E63
      obtain ⟨_, _, ⟨T66, L66, k66, n66⟩, -, X66, ⟨Lc66, hQ66, l66, y66, z66⟩, st66⟩ := X63.virtualBack hx (y := (⟨"com/example/slotpack/slotpack/IndexSet", "remove", "(I)V"⟩ : MethodName)) (z := (⟨"com/example/slotpack/slotpack/IndexSet", "remove", "(I)V"⟩ : MethodName)) hown (mvT hZ (hw _ (List.mem_of_getElem? (i := 26) rfl))) (mvT hZ (hw _ (List.mem_of_getElem? (i := 27) rfl))) (notFace_of_selects (args := #[]) (mvT hZ (hw _ (List.mem_of_getElem? (i := 29) rfl)))) (mvT hZ (hw _ (List.mem_of_getElem? (i := 29) rfl))) (mvT hZ (hw _ (List.mem_of_getElem? (i := 28) rfl))) (by decide) (backOf (W := 0) (rm5 l Z a0 hw [] b59 (own_at (own_put (own_put (own_put [0, 0, 0] (0 : Int32) f0) (1 : Int32) f1) (2 : Int32) f2) r) am ap ka kp (own_add (own_add own_D0 f0) f1) T63.heap n0 Z63 IS63 geo okR) hZ (hw _ (List.mem_of_getElem? (i := 30) rfl)) (hw _ (List.mem_of_getElem? (i := 4) rfl)) (by decide) (by decide)) q66a q66c (g := (mkF m 143 #[.val (.int p0), .val (.int p1), .val (.int p2), .val (.int p3), .val (.int ix), .val (.int f0), .val (.int f1), .val (.int f2), .val (.int (2 : Int32)), .val (.int r), .val (.ref b52), .val (.ref b59), .val (.int (own_at (own_put (own_put (own_put [0, 0, 0] (0 : Int32) f0) (1 : Int32) f1) (2 : Int32) f2) r)), .unset, .unset, .unset] [(.int (own_at (own_put (own_put (own_put [0, 0, 0] (0 : Int32) f0) (1 : Int32) f1) (2 : Int32) f2) r)), (.ref b59)])) rfl (by rw [hml]; rfl) (Steps.refl _) (argsL := [(.int (own_at (own_put (own_put (own_put [0, 0, 0] (0 : Int32) f0) (1 : Int32) f1) (2 : Int32) f2) r))]) (rest := []) (lenOf own_pd7 rfl) rfl (by show 2 * 0 + _ ≤ _; exact Nat.le_of_eq rfl) (hb hby at_143) (fun _ _ => ⟨rfl, rfl, (by decide : 4 + 0 ≤ _), (by decide : 12 + 0 ≤ _)⟩)
      dsimp only [Pt.U, Pt.locs, Pt.cells, Pt.slots] at X66 l66 y66 z66 st66 hQ66
      subst l66 y66 z66
      obtain ⟨rfl, Nq66, Kq66, IS66⟩ := hQ66
      have N66 := Fr.app N63 Nq66
      have E66 := IS66.1
      have Fa67 := (Fa64.keep Kq66 (ninS ne_b52_b59 (ninS ne_m_am (ninS ne_m_ap nin0))))
      have Z66 : n0 ≤ T66.heap.size := Nat.le_trans Z63 Kq66.1
      refine own_tr st66 ?_
      show own_Gl _ _ _ _ _ _ _ _ (T66.setTop (mkF m 146 #[.val (.int p0), .val (.int p1), .val (.int p2), .val (.int p3), .val (.int ix), .val (.int f0), .val (.int f1), .val (.int f2), .val (.int (2 : Int32)), .val (.int r), .val (.ref b52), .val (.ref b59), .val (.int (own_at (own_put (own_put (own_put [0, 0, 0] (0 : Int32) f0) (1 : Int32) f1) (2 : Int32) f2) r)), .unset, .unset, .unset] []))
      refine own_st (A' := T66.setTop (mkF m 152 #[.val (.int p0), .val (.int p1), .val (.int p2), .val (.int p3), .val (.int ix), .val (.int f0), .val (.int f1), .val (.int f2), .val (.int (2 : Int32)), .val (.int r), .val (.ref b52), .val (.ref b59), .val (.int (own_at (own_put (own_put (own_put [0, 0, 0] (0 : Int32) f0) (1 : Int32) f1) (2 : Int32) f2) r)), .unset, .unset, .unset] [(.int r), (.int (2 : Int32)), (.ref b52)])) (fun tg kt => ?_) ?_
      · show Steps p.tables e below (T66.setTop (mkF m 146 #[.val (.int p0), .val (.int p1), .val (.int p2), .val (.int p3), .val (.int ix), .val (.int f0), .val (.int f1), .val (.int f2), .val (.int (2 : Int32)), .val (.int r), .val (.ref b52), .val (.ref b59), .val (.int (own_at (own_put (own_put (own_put [0, 0, 0] (0 : Int32) f0) (1 : Int32) f1) (2 : Int32) f2) r)), .unset, .unset, .unset] [])) _
        refine XS.aload X66.here hx rfl (hb hby at_146) rfl rfl ?_
        show Steps p.tables e below (T66.setTop (mkF m 148 #[.val (.int p0), .val (.int p1), .val (.int p2), .val (.int p3), .val (.int ix), .val (.int f0), .val (.int f1), .val (.int f2), .val (.int (2 : Int32)), .val (.int r), .val (.ref b52), .val (.ref b59), .val (.int (own_at (own_put (own_put (own_put [0, 0, 0] (0 : Int32) f0) (1 : Int32) f1) (2 : Int32) f2) r)), .unset, .unset, .unset] [(.ref b52)])) _
        refine XS.iload X66.here hx rfl (hb hby at_148) rfl ?_
        show Steps p.tables e below (T66.setTop (mkF m 150 #[.val (.int p0), .val (.int p1), .val (.int p2), .val (.int p3), .val (.int ix), .val (.int f0), .val (.int f1), .val (.int f2), .val (.int (2 : Int32)), .val (.int r), .val (.ref b52), .val (.ref b59), .val (.int (own_at (own_put (own_put (own_put [0, 0, 0] (0 : Int32) f0) (1 : Int32) f1) (2 : Int32) f2) r)), .unset, .unset, .unset] [(.int (2 : Int32)), (.ref b52)])) _
        refine XS.iload X66.here hx rfl (hb hby at_150) rfl ?_
        exact kt
      obtain ⟨_, _, ⟨T68, L68, k68, n68⟩, -, X68, ⟨Lc68, hQ68, l68, y68, z68⟩, st68⟩ := Jvm.LawKit.callS X66 hx (y := (⟨"com/example/slotpack/slotpack/IndexSetRemovePinLaw", "removeAt", "([III)I"⟩ : MethodName)) hown (mvT hZ (hw _ (List.mem_of_getElem? (i := 31) rfl))) (mvT hZ (hw _ (List.mem_of_getElem? (i := 32) rfl))) (mvT hZ (hw _ (List.mem_of_getElem? (i := 33) rfl))) (mvT hZ (hw _ (List.mem_of_getElem? (i := 34) rfl))) (by decide) (backOf (W := 0) (rm6 l Z a0 hw [] b52 (2 : Int32) r k52 (own_put (own_put (own_put [0, 0, 0] (0 : Int32) f0) (1 : Int32) f1) (2 : Int32) f2) T66.heap n0 Z66 Fa67 g_b52 (by decide) okr) hZ (hw _ (List.mem_of_getElem? (i := 34) rfl)) (hw _ (List.mem_of_getElem? (i := 33) rfl)) (by decide) (by decide)) (g := (mkF m 152 #[.val (.int p0), .val (.int p1), .val (.int p2), .val (.int p3), .val (.int ix), .val (.int f0), .val (.int f1), .val (.int f2), .val (.int (2 : Int32)), .val (.int r), .val (.ref b52), .val (.ref b59), .val (.int (own_at (own_put (own_put (own_put [0, 0, 0] (0 : Int32) f0) (1 : Int32) f1) (2 : Int32) f2) r)), .unset, .unset, .unset] [(.int r), (.int (2 : Int32)), (.ref b52)])) rfl (by rw [hml]; rfl) (argsL := [(.ref b52), (.int (2 : Int32)), (.int r)]) (rest := []) (lenOf own_pd8 rfl) rfl (by show 2 * 0 + _ ≤ _; exact Nat.le_of_eq rfl) (hb hby at_152) (fun _ _ => ⟨rfl, rfl, (by decide : 4 + 0 ≤ _), (by decide : 12 + 0 ≤ _)⟩)
      dsimp only [Pt.U, Pt.locs, Pt.cells, Pt.slots] at X68 l68 y68 z68 st68 hQ68
      subst l68 y68 z68
      obtain ⟨rfl, Nq68, Kq68, Vq68⟩ := hQ68
      have N68 := Fr.app N66 Nq68
      have IS68 : own_IS Z T68.heap b59 am ap ka kp (own_del (own_add (own_add own_D0 f0) f1) (own_at (own_put (own_put (own_put [0, 0, 0] (0 : Int32) f0) (1 : Int32) f1) (2 : Int32) f2) r)) := ⟨IS66.1.keep Kq68, IS66.2.1.keep Kq68 (ninS (Ne.symm ne_b52_b59) nin0), IS66.2.2.1.keep Kq68 (ninS (Ne.symm ne_b52_b59) nin0), IS66.2.2.2.1.keep Kq68 (ninS (Ne.symm ne_b52_b59) nin0), IS66.2.2.2.2.1.keep Kq68 (ninS (Ne.symm ne_m_am) nin0), IS66.2.2.2.2.2.keep Kq68 (ninS (Ne.symm ne_m_ap) nin0)⟩
      have Z68 : n0 ≤ T68.heap.size := Nat.le_trans Z66 Kq68.1
      refine own_st st68 ?_
      show own_Gl _ _ _ _ _ _ _ _ (T68.setTop (mkF m 155 #[.val (.int p0), .val (.int p1), .val (.int p2), .val (.int p3), .val (.int ix), .val (.int f0), .val (.int f1), .val (.int f2), .val (.int (2 : Int32)), .val (.int r), .val (.ref b52), .val (.ref b59), .val (.int (own_at (own_put (own_put (own_put [0, 0, 0] (0 : Int32) f0) (1 : Int32) f1) (2 : Int32) f2) r)), .unset, .unset, .unset] [(.int (1 : Int32))]))
      refine own_st (A' := T68.setTop (mkF m 160 #[.val (.int p0), .val (.int p1), .val (.int p2), .val (.int p3), .val (.int ix), .val (.int f0), .val (.int f1), .val (.int f2), .val (.int (2 : Int32)), .val (.int r), .val (.ref b52), .val (.ref b59), .val (.int (own_at (own_put (own_put (own_put [0, 0, 0] (0 : Int32) f0) (1 : Int32) f1) (2 : Int32) f2) r)), .val (.int (1 : Int32)), .unset, .unset] [(.int (p3 &&& (1 : Int32)))])) (fun tg kt => ?_) ?_
      · show Steps p.tables e below (T68.setTop (mkF m 155 #[.val (.int p0), .val (.int p1), .val (.int p2), .val (.int p3), .val (.int ix), .val (.int f0), .val (.int f1), .val (.int f2), .val (.int (2 : Int32)), .val (.int r), .val (.ref b52), .val (.ref b59), .val (.int (own_at (own_put (own_put (own_put [0, 0, 0] (0 : Int32) f0) (1 : Int32) f1) (2 : Int32) f2) r)), .unset, .unset, .unset] [(.int (1 : Int32))])) _
        refine XS.istore X68.here hx rfl (hb hby at_155) rfl (l' := #[.val (.int p0), .val (.int p1), .val (.int p2), .val (.int p3), .val (.int ix), .val (.int f0), .val (.int f1), .val (.int f2), .val (.int (2 : Int32)), .val (.int r), .val (.ref b52), .val (.ref b59), .val (.int (own_at (own_put (own_put (own_put [0, 0, 0] (0 : Int32) f0) (1 : Int32) f1) (2 : Int32) f2) r)), .val (.int (1 : Int32)), .unset, .unset]) rfl ?_
        show Steps p.tables e below (T68.setTop (mkF m 157 #[.val (.int p0), .val (.int p1), .val (.int p2), .val (.int p3), .val (.int ix), .val (.int f0), .val (.int f1), .val (.int f2), .val (.int (2 : Int32)), .val (.int r), .val (.ref b52), .val (.ref b59), .val (.int (own_at (own_put (own_put (own_put [0, 0, 0] (0 : Int32) f0) (1 : Int32) f1) (2 : Int32) f2) r)), .val (.int (1 : Int32)), .unset, .unset] [])) _
        refine XS.iloadN X68.here hx rfl (hb hby at_157) rfl ?_
        show Steps p.tables e below (T68.setTop (mkF m 158 #[.val (.int p0), .val (.int p1), .val (.int p2), .val (.int p3), .val (.int ix), .val (.int f0), .val (.int f1), .val (.int f2), .val (.int (2 : Int32)), .val (.int r), .val (.ref b52), .val (.ref b59), .val (.int (own_at (own_put (own_put (own_put [0, 0, 0] (0 : Int32) f0) (1 : Int32) f1) (2 : Int32) f2) r)), .val (.int (1 : Int32)), .unset, .unset] [(.int p3)])) _
        refine XS.iconst X68.here hx rfl (hb hby at_158) ?_
        show Steps p.tables e below (T68.setTop (mkF m 159 #[.val (.int p0), .val (.int p1), .val (.int p2), .val (.int p3), .val (.int ix), .val (.int f0), .val (.int f1), .val (.int f2), .val (.int (2 : Int32)), .val (.int r), .val (.ref b52), .val (.ref b59), .val (.int (own_at (own_put (own_put (own_put [0, 0, 0] (0 : Int32) f0) (1 : Int32) f1) (2 : Int32) f2) r)), .val (.int (1 : Int32)), .unset, .unset] [(.int (1 : Int32)), (.int p3)])) _
        refine XS.iand X68.here hx rfl (hb hby at_159) rfl ?_
        exact kt
      by_cases hc160_69 : (p3 &&& (1 : Int32)) = (0 : Int32)
      · refine own_st (A' := T68.setTop (mkF m 207 #[.val (.int p0), .val (.int p1), .val (.int p2), .val (.int p3), .val (.int ix), .val (.int f0), .val (.int f1), .val (.int f2), .val (.int (2 : Int32)), .val (.int r), .val (.ref b52), .val (.ref b59), .val (.int (own_at (own_put (own_put (own_put [0, 0, 0] (0 : Int32) f0) (1 : Int32) f1) (2 : Int32) f2) r)), .val (.int (1 : Int32)), .unset, .unset] [(.ref b59)])) (fun tg kt => ?_) ?_
        · show Steps p.tables e below (T68.setTop (mkF m 160 #[.val (.int p0), .val (.int p1), .val (.int p2), .val (.int p3), .val (.int ix), .val (.int f0), .val (.int f1), .val (.int f2), .val (.int (2 : Int32)), .val (.int r), .val (.ref b52), .val (.ref b59), .val (.int (own_at (own_put (own_put (own_put [0, 0, 0] (0 : Int32) f0) (1 : Int32) f1) (2 : Int32) f2) r)), .val (.int (1 : Int32)), .unset, .unset] [(.int (p3 &&& (1 : Int32)))])) _
          refine XS.ifYes X68.here hx rfl (pc0 := 160) (pc' := 205) rfl (hb hby at_160) rfl ((if0 _ _).trans (teq hc160_69).1) (by decide) (by decide) ?_
          show Steps p.tables e below (T68.setTop (mkF m 205 #[.val (.int p0), .val (.int p1), .val (.int p2), .val (.int p3), .val (.int ix), .val (.int f0), .val (.int f1), .val (.int f2), .val (.int (2 : Int32)), .val (.int r), .val (.ref b52), .val (.ref b59), .val (.int (own_at (own_put (own_put (own_put [0, 0, 0] (0 : Int32) f0) (1 : Int32) f1) (2 : Int32) f2) r)), .val (.int (1 : Int32)), .unset, .unset] [])) _
          refine XS.aload X68.here hx rfl (hb hby at_205) rfl rfl ?_
          exact kt
        obtain ⟨cq70, kq70, q70a, q70b, q70c⟩ := isOf hZ rfl (E66.keep Kq68)
        obtain ⟨_, _, ⟨T70, L70, k70, n70⟩, -, X70, ⟨Lc70, hQ70, l70, y70, z70⟩, st70⟩ := X68.virtualBack hx (y := (⟨"com/example/slotpack/slotpack/IndexSet", "size", "()I"⟩ : MethodName)) (z := (⟨"com/example/slotpack/slotpack/IndexSet", "size", "()I"⟩ : MethodName)) hown (mvT hZ (hw _ (List.mem_of_getElem? (i := 35) rfl))) (mvT hZ (hw _ (List.mem_of_getElem? (i := 36) rfl))) (notFace_of_selects (args := #[]) (mvT hZ (hw _ (List.mem_of_getElem? (i := 38) rfl)))) (mvT hZ (hw _ (List.mem_of_getElem? (i := 38) rfl))) (mvT hZ (hw _ (List.mem_of_getElem? (i := 37) rfl))) (by decide) (backOf (W := 0) (rm7 l Z a0 hw [] b59   am ap ka kp (own_del (own_add (own_add own_D0 f0) f1) (own_at (own_put (own_put (own_put [0, 0, 0] (0 : Int32) f0) (1 : Int32) f1) (2 : Int32) f2) r)) T68.heap n0 Z68 IS68 geo ) hZ (hw _ (List.mem_of_getElem? (i := 39) rfl)) (hw _ (List.mem_of_getElem? (i := 4) rfl)) (by decide) (by decide)) q70a q70c (g := (mkF m 207 #[.val (.int p0), .val (.int p1), .val (.int p2), .val (.int p3), .val (.int ix), .val (.int f0), .val (.int f1), .val (.int f2), .val (.int (2 : Int32)), .val (.int r), .val (.ref b52), .val (.ref b59), .val (.int (own_at (own_put (own_put (own_put [0, 0, 0] (0 : Int32) f0) (1 : Int32) f1) (2 : Int32) f2) r)), .val (.int (1 : Int32)), .unset, .unset] [(.ref b59)])) rfl (by rw [hml]; rfl) (Steps.refl _) (argsL := []) (rest := []) (lenOf own_pd9 rfl) rfl (by show 2 * 0 + _ ≤ _; exact Nat.le_of_eq rfl) (hb hby at_207) (fun _ _ => ⟨rfl, rfl, (by decide : 4 + 0 ≤ _), (by decide : 12 + 0 ≤ _)⟩)
        dsimp only [Pt.U, Pt.locs, Pt.cells, Pt.slots] at X70 l70 y70 z70 st70 hQ70
        subst l70 y70 z70
        obtain ⟨rfl, Nq70, eq70⟩ := hQ70
        have N70 := Fr.app N68 Nq70
        refine own_tr st70 ?_
        show own_Gl _ _ _ _ _ _ _ _ (T70.setTop (mkF m 210 #[.val (.int p0), .val (.int p1), .val (.int p2), .val (.int p3), .val (.int ix), .val (.int f0), .val (.int f1), .val (.int f2), .val (.int (2 : Int32)), .val (.int r), .val (.ref b52), .val (.ref b59), .val (.int (own_at (own_put (own_put (own_put [0, 0, 0] (0 : Int32) f0) (1 : Int32) f1) (2 : Int32) f2) r)), .val (.int (1 : Int32)), .unset, .unset] [(.int (own_del (own_add (own_add own_D0 f0) f1) (own_at (own_put (own_put (own_put [0, 0, 0] (0 : Int32) f0) (1 : Int32) f1) (2 : Int32) f2) r)).2.2)]))
        refine own_st (A' := T70.setTop (mkF m 222 #[.val (.int p0), .val (.int p1), .val (.int p2), .val (.int p3), .val (.int ix), .val (.int f0), .val (.int f1), .val (.int f2), .val (.int (2 : Int32)), .val (.int r), .val (.ref b52), .val (.ref b59), .val (.int (own_at (own_put (own_put (own_put [0, 0, 0] (0 : Int32) f0) (1 : Int32) f1) (2 : Int32) f2) r)), .val (.int (1 : Int32)), .val (.int (1 : Int32)), .unset] [])) (fun tg kt => ?_) ?_
        · show Steps p.tables e below (T70.setTop (mkF m 210 #[.val (.int p0), .val (.int p1), .val (.int p2), .val (.int p3), .val (.int ix), .val (.int f0), .val (.int f1), .val (.int f2), .val (.int (2 : Int32)), .val (.int r), .val (.ref b52), .val (.ref b59), .val (.int (own_at (own_put (own_put (own_put [0, 0, 0] (0 : Int32) f0) (1 : Int32) f1) (2 : Int32) f2) r)), .val (.int (1 : Int32)), .unset, .unset] [(.int (own_del (own_add (own_add own_D0 f0) f1) (own_at (own_put (own_put (own_put [0, 0, 0] (0 : Int32) f0) (1 : Int32) f1) (2 : Int32) f2) r)).2.2)])) _
          refine XS.iload X70.here hx rfl (hb hby at_210) rfl ?_
          show Steps p.tables e below (T70.setTop (mkF m 212 #[.val (.int p0), .val (.int p1), .val (.int p2), .val (.int p3), .val (.int ix), .val (.int f0), .val (.int f1), .val (.int f2), .val (.int (2 : Int32)), .val (.int r), .val (.ref b52), .val (.ref b59), .val (.int (own_at (own_put (own_put (own_put [0, 0, 0] (0 : Int32) f0) (1 : Int32) f1) (2 : Int32) f2) r)), .val (.int (1 : Int32)), .unset, .unset] [(.int (1 : Int32)), (.int (own_del (own_add (own_add own_D0 f0) f1) (own_at (own_put (own_put (own_put [0, 0, 0] (0 : Int32) f0) (1 : Int32) f1) (2 : Int32) f2) r)).2.2)])) _
          refine XS.icmpNo X70.here hx rfl (hb hby at_212) rfl (teq (okF.1 : (own_del (own_add (own_add own_D0 f0) f1) (own_at (own_put (own_put (own_put [0, 0, 0] (0 : Int32) f0) (1 : Int32) f1) (2 : Int32) f2) r)).2.2 = (1 : Int32))).2 ?_
          show Steps p.tables e below (T70.setTop (mkF m 215 #[.val (.int p0), .val (.int p1), .val (.int p2), .val (.int p3), .val (.int ix), .val (.int f0), .val (.int f1), .val (.int f2), .val (.int (2 : Int32)), .val (.int r), .val (.ref b52), .val (.ref b59), .val (.int (own_at (own_put (own_put (own_put [0, 0, 0] (0 : Int32) f0) (1 : Int32) f1) (2 : Int32) f2) r)), .val (.int (1 : Int32)), .unset, .unset] [])) _
          refine XS.iconst X70.here hx rfl (hb hby at_215) ?_
          show Steps p.tables e below (T70.setTop (mkF m 216 #[.val (.int p0), .val (.int p1), .val (.int p2), .val (.int p3), .val (.int ix), .val (.int f0), .val (.int f1), .val (.int f2), .val (.int (2 : Int32)), .val (.int r), .val (.ref b52), .val (.ref b59), .val (.int (own_at (own_put (own_put (own_put [0, 0, 0] (0 : Int32) f0) (1 : Int32) f1) (2 : Int32) f2) r)), .val (.int (1 : Int32)), .unset, .unset] [(.int (1 : Int32))])) _
          refine XS.goto X70.here hx rfl (pc0 := 216) (pc' := 220) rfl (hb hby at_216) (by decide) (by decide) ?_
          show Steps p.tables e below (T70.setTop (mkF m 220 #[.val (.int p0), .val (.int p1), .val (.int p2), .val (.int p3), .val (.int ix), .val (.int f0), .val (.int f1), .val (.int f2), .val (.int (2 : Int32)), .val (.int r), .val (.ref b52), .val (.ref b59), .val (.int (own_at (own_put (own_put (own_put [0, 0, 0] (0 : Int32) f0) (1 : Int32) f1) (2 : Int32) f2) r)), .val (.int (1 : Int32)), .unset, .unset] [(.int (1 : Int32))])) _
          refine XS.istore X70.here hx rfl (hb hby at_220) rfl (l' := #[.val (.int p0), .val (.int p1), .val (.int p2), .val (.int p3), .val (.int ix), .val (.int f0), .val (.int f1), .val (.int f2), .val (.int (2 : Int32)), .val (.int r), .val (.ref b52), .val (.ref b59), .val (.int (own_at (own_put (own_put (own_put [0, 0, 0] (0 : Int32) f0) (1 : Int32) f1) (2 : Int32) f2) r)), .val (.int (1 : Int32)), .val (.int (1 : Int32)), .unset]) rfl ?_
          exact kt
        exact tlE _ _ _ _ _ _ _ _ b52 b59 am ap _ ka kp (own_del (own_add (own_add own_D0 f0) f1) (own_at (own_put (own_put (own_put [0, 0, 0] (0 : Int32) f0) (1 : Int32) f1) (2 : Int32) f2) r)) (1 : Int32) _ T70 _ _ X70 eq70 N70 Z68 IS68 Vq68 geo g_b52 okF
      · refine own_st (A' := T68.setTop (mkF m 178 #[.val (.int p0), .val (.int p1), .val (.int p2), .val (.int p3), .val (.int ix), .val (.int f0), .val (.int f1), .val (.int f2), .val (.int (2 : Int32)), .val (.int r), .val (.ref b52), .val (.ref b59), .val (.int (own_at (own_put (own_put (own_put [0, 0, 0] (0 : Int32) f0) (1 : Int32) f1) (2 : Int32) f2) r)), .val (.int (1 : Int32)), .unset, .unset] [(.int ((((p3.toUInt32 >>> ((1 : Int32) &&& 31).toUInt32).toInt32) &&& (2147483647 : Int32)) % (1 : Int32)))])) (fun tg kt => ?_) ?_
        · show Steps p.tables e below (T68.setTop (mkF m 160 #[.val (.int p0), .val (.int p1), .val (.int p2), .val (.int p3), .val (.int ix), .val (.int f0), .val (.int f1), .val (.int f2), .val (.int (2 : Int32)), .val (.int r), .val (.ref b52), .val (.ref b59), .val (.int (own_at (own_put (own_put (own_put [0, 0, 0] (0 : Int32) f0) (1 : Int32) f1) (2 : Int32) f2) r)), .val (.int (1 : Int32)), .unset, .unset] [(.int (p3 &&& (1 : Int32)))])) _
          refine XS.ifNo X68.here hx rfl (hb hby at_160) rfl ((if0 _ _).trans (feq hc160_69).1) ?_
          show Steps p.tables e below (T68.setTop (mkF m 163 #[.val (.int p0), .val (.int p1), .val (.int p2), .val (.int p3), .val (.int ix), .val (.int f0), .val (.int f1), .val (.int f2), .val (.int (2 : Int32)), .val (.int r), .val (.ref b52), .val (.ref b59), .val (.int (own_at (own_put (own_put (own_put [0, 0, 0] (0 : Int32) f0) (1 : Int32) f1) (2 : Int32) f2) r)), .val (.int (1 : Int32)), .unset, .unset] [])) _
          refine XS.iload X68.here hx rfl (hb hby at_163) rfl ?_
          show Steps p.tables e below (T68.setTop (mkF m 165 #[.val (.int p0), .val (.int p1), .val (.int p2), .val (.int p3), .val (.int ix), .val (.int f0), .val (.int f1), .val (.int f2), .val (.int (2 : Int32)), .val (.int r), .val (.ref b52), .val (.ref b59), .val (.int (own_at (own_put (own_put (own_put [0, 0, 0] (0 : Int32) f0) (1 : Int32) f1) (2 : Int32) f2) r)), .val (.int (1 : Int32)), .unset, .unset] [(.int (1 : Int32))])) _
          refine XS.iconst X68.here hx rfl (hb hby at_165) ?_
          show Steps p.tables e below (T68.setTop (mkF m 166 #[.val (.int p0), .val (.int p1), .val (.int p2), .val (.int p3), .val (.int ix), .val (.int f0), .val (.int f1), .val (.int f2), .val (.int (2 : Int32)), .val (.int r), .val (.ref b52), .val (.ref b59), .val (.int (own_at (own_put (own_put (own_put [0, 0, 0] (0 : Int32) f0) (1 : Int32) f1) (2 : Int32) f2) r)), .val (.int (1 : Int32)), .unset, .unset] [(.int (1 : Int32)), (.int (1 : Int32))])) _
          refine XS.icmpNo X68.here hx rfl (hb hby at_166) rfl (flt ((by decide) : ¬ ((1 : Int32) < (1 : Int32)))).1 ?_
          show Steps p.tables e below (T68.setTop (mkF m 169 #[.val (.int p0), .val (.int p1), .val (.int p2), .val (.int p3), .val (.int ix), .val (.int f0), .val (.int f1), .val (.int f2), .val (.int (2 : Int32)), .val (.int r), .val (.ref b52), .val (.ref b59), .val (.int (own_at (own_put (own_put (own_put [0, 0, 0] (0 : Int32) f0) (1 : Int32) f1) (2 : Int32) f2) r)), .val (.int (1 : Int32)), .unset, .unset] [])) _
          refine XS.iloadN X68.here hx rfl (hb hby at_169) rfl ?_
          show Steps p.tables e below (T68.setTop (mkF m 170 #[.val (.int p0), .val (.int p1), .val (.int p2), .val (.int p3), .val (.int ix), .val (.int f0), .val (.int f1), .val (.int f2), .val (.int (2 : Int32)), .val (.int r), .val (.ref b52), .val (.ref b59), .val (.int (own_at (own_put (own_put (own_put [0, 0, 0] (0 : Int32) f0) (1 : Int32) f1) (2 : Int32) f2) r)), .val (.int (1 : Int32)), .unset, .unset] [(.int p3)])) _
          refine XS.iconst X68.here hx rfl (hb hby at_170) ?_
          show Steps p.tables e below (T68.setTop (mkF m 171 #[.val (.int p0), .val (.int p1), .val (.int p2), .val (.int p3), .val (.int ix), .val (.int f0), .val (.int f1), .val (.int f2), .val (.int (2 : Int32)), .val (.int r), .val (.ref b52), .val (.ref b59), .val (.int (own_at (own_put (own_put (own_put [0, 0, 0] (0 : Int32) f0) (1 : Int32) f1) (2 : Int32) f2) r)), .val (.int (1 : Int32)), .unset, .unset] [(.int (1 : Int32)), (.int p3)])) _
          refine XS.iushr X68.here hx rfl (hb hby at_171) rfl ?_
          show Steps p.tables e below (T68.setTop (mkF m 172 #[.val (.int p0), .val (.int p1), .val (.int p2), .val (.int p3), .val (.int ix), .val (.int f0), .val (.int f1), .val (.int f2), .val (.int (2 : Int32)), .val (.int r), .val (.ref b52), .val (.ref b59), .val (.int (own_at (own_put (own_put (own_put [0, 0, 0] (0 : Int32) f0) (1 : Int32) f1) (2 : Int32) f2) r)), .val (.int (1 : Int32)), .unset, .unset] [(.int ((p3.toUInt32 >>> ((1 : Int32) &&& 31).toUInt32).toInt32))])) _
          refine X68.ldcInt hx hown (mvT hZ (hw _ (List.mem_of_getElem? (i := 0) rfl))) (g := (mkF m 172 #[.val (.int p0), .val (.int p1), .val (.int p2), .val (.int p3), .val (.int ix), .val (.int f0), .val (.int f1), .val (.int f2), .val (.int (2 : Int32)), .val (.int r), .val (.ref b52), .val (.ref b59), .val (.int (own_at (own_put (own_put (own_put [0, 0, 0] (0 : Int32) f0) (1 : Int32) f1) (2 : Int32) f2) r)), .val (.int (1 : Int32)), .unset, .unset] [(.int ((p3.toUInt32 >>> ((1 : Int32) &&& 31).toUInt32).toInt32))])) rfl (hb hby at_172) _ ?_
          show Steps p.tables e below (T68.setTop (mkF m 174 #[.val (.int p0), .val (.int p1), .val (.int p2), .val (.int p3), .val (.int ix), .val (.int f0), .val (.int f1), .val (.int f2), .val (.int (2 : Int32)), .val (.int r), .val (.ref b52), .val (.ref b59), .val (.int (own_at (own_put (own_put (own_put [0, 0, 0] (0 : Int32) f0) (1 : Int32) f1) (2 : Int32) f2) r)), .val (.int (1 : Int32)), .unset, .unset] [(.int (2147483647 : Int32)), (.int ((p3.toUInt32 >>> ((1 : Int32) &&& 31).toUInt32).toInt32))])) _
          refine XS.iand X68.here hx rfl (hb hby at_174) rfl ?_
          show Steps p.tables e below (T68.setTop (mkF m 175 #[.val (.int p0), .val (.int p1), .val (.int p2), .val (.int p3), .val (.int ix), .val (.int f0), .val (.int f1), .val (.int f2), .val (.int (2 : Int32)), .val (.int r), .val (.ref b52), .val (.ref b59), .val (.int (own_at (own_put (own_put (own_put [0, 0, 0] (0 : Int32) f0) (1 : Int32) f1) (2 : Int32) f2) r)), .val (.int (1 : Int32)), .unset, .unset] [(.int (((p3.toUInt32 >>> ((1 : Int32) &&& 31).toUInt32).toInt32) &&& (2147483647 : Int32)))])) _
          refine XS.iload X68.here hx rfl (hb hby at_175) rfl ?_
          show Steps p.tables e below (T68.setTop (mkF m 177 #[.val (.int p0), .val (.int p1), .val (.int p2), .val (.int p3), .val (.int ix), .val (.int f0), .val (.int f1), .val (.int f2), .val (.int (2 : Int32)), .val (.int r), .val (.ref b52), .val (.ref b59), .val (.int (own_at (own_put (own_put (own_put [0, 0, 0] (0 : Int32) f0) (1 : Int32) f1) (2 : Int32) f2) r)), .val (.int (1 : Int32)), .unset, .unset] [(.int (1 : Int32)), (.int (((p3.toUInt32 >>> ((1 : Int32) &&& 31).toUInt32).toInt32) &&& (2147483647 : Int32)))])) _
          refine iremM X68 hx rfl (hb hby at_177) rfl (by decide) ?_
          exact kt
        obtain ⟨t, ht⟩ : ∃ z, z = ((((p3.toUInt32 >>> ((1 : Int32) &&& 31).toUInt32).toInt32) &&& (2147483647 : Int32)) % (1 : Int32)) := ⟨_, rfl⟩
        rw [← ht]
        show own_Gl _ _ _ _ _ _ _ _ (T68.setTop (mkF m 178 #[.val (.int p0), .val (.int p1), .val (.int p2), .val (.int p3), .val (.int ix), .val (.int f0), .val (.int f1), .val (.int f2), .val (.int (2 : Int32)), .val (.int r), .val (.ref b52), .val (.ref b59), .val (.int (own_at (own_put (own_put (own_put [0, 0, 0] (0 : Int32) f0) (1 : Int32) f1) (2 : Int32) f2) r)), .val (.int (1 : Int32)), .unset, .unset] [(.int t)]))
        have bt := own_rem ((p3.toUInt32 >>> ((1 : Int32) &&& 31).toUInt32).toInt32) 1 1 (by decide) (by decide)
        rw [← ht] at bt
        have htt := own_split1 bt.1 bt.2
        obtain ⟨okt, okR2, okF2⟩ := own_k2b f0 f1 f2 hp r hrr t htt
        refine own_st (A' := T68.setTop (mkF m 184 #[.val (.int p0), .val (.int p1), .val (.int p2), .val (.int p3), .val (.int ix), .val (.int f0), .val (.int f1), .val (.int f2), .val (.int (2 : Int32)), .val (.int r), .val (.ref b52), .val (.ref b59), .val (.int (own_at (own_put (own_put (own_put [0, 0, 0] (0 : Int32) f0) (1 : Int32) f1) (2 : Int32) f2) r)), .val (.int (1 : Int32)), .val (.int t), .unset] [(.int t), (.ref b52)])) (fun tg kt => ?_) ?_
        · show Steps p.tables e below (T68.setTop (mkF m 178 #[.val (.int p0), .val (.int p1), .val (.int p2), .val (.int p3), .val (.int ix), .val (.int f0), .val (.int f1), .val (.int f2), .val (.int (2 : Int32)), .val (.int r), .val (.ref b52), .val (.ref b59), .val (.int (own_at (own_put (own_put (own_put [0, 0, 0] (0 : Int32) f0) (1 : Int32) f1) (2 : Int32) f2) r)), .val (.int (1 : Int32)), .unset, .unset] [(.int t)])) _
          refine XS.istore X68.here hx rfl (hb hby at_178) rfl (l' := #[.val (.int p0), .val (.int p1), .val (.int p2), .val (.int p3), .val (.int ix), .val (.int f0), .val (.int f1), .val (.int f2), .val (.int (2 : Int32)), .val (.int r), .val (.ref b52), .val (.ref b59), .val (.int (own_at (own_put (own_put (own_put [0, 0, 0] (0 : Int32) f0) (1 : Int32) f1) (2 : Int32) f2) r)), .val (.int (1 : Int32)), .val (.int t), .unset]) rfl ?_
          show Steps p.tables e below (T68.setTop (mkF m 180 #[.val (.int p0), .val (.int p1), .val (.int p2), .val (.int p3), .val (.int ix), .val (.int f0), .val (.int f1), .val (.int f2), .val (.int (2 : Int32)), .val (.int r), .val (.ref b52), .val (.ref b59), .val (.int (own_at (own_put (own_put (own_put [0, 0, 0] (0 : Int32) f0) (1 : Int32) f1) (2 : Int32) f2) r)), .val (.int (1 : Int32)), .val (.int t), .unset] [])) _
          refine XS.aload X68.here hx rfl (hb hby at_180) rfl rfl ?_
          show Steps p.tables e below (T68.setTop (mkF m 182 #[.val (.int p0), .val (.int p1), .val (.int p2), .val (.int p3), .val (.int ix), .val (.int f0), .val (.int f1), .val (.int f2), .val (.int (2 : Int32)), .val (.int r), .val (.ref b52), .val (.ref b59), .val (.int (own_at (own_put (own_put (own_put [0, 0, 0] (0 : Int32) f0) (1 : Int32) f1) (2 : Int32) f2) r)), .val (.int (1 : Int32)), .val (.int t), .unset] [(.ref b52)])) _
          refine XS.iload X68.here hx rfl (hb hby at_182) rfl ?_
          exact kt
        obtain ⟨cl71, Ar71, hin71, hat71⟩ := own_ai_ld Vq68 (j := t) okt
        refine own_st (A' := T68.setTop (mkF m 191 #[.val (.int p0), .val (.int p1), .val (.int p2), .val (.int p3), .val (.int ix), .val (.int f0), .val (.int f1), .val (.int f2), .val (.int (2 : Int32)), .val (.int r), .val (.ref b52), .val (.ref b59), .val (.int (own_at (own_put (own_put (own_put [0, 0, 0] (0 : Int32) f0) (1 : Int32) f1) (2 : Int32) f2) r)), .val (.int (1 : Int32)), .val (.int t), .val (.int (own_at (own_rat (own_put (own_put (own_put [0, 0, 0] (0 : Int32) f0) (1 : Int32) f1) (2 : Int32) f2) (2 : Int32) r) t))] [(.int (own_at (own_rat (own_put (own_put (own_put [0, 0, 0] (0 : Int32) f0) (1 : Int32) f1) (2 : Int32) f2) (2 : Int32) r) t)), (.ref b59)])) (fun tg kt => ?_) ?_
        · show Steps p.tables e below (T68.setTop (mkF m 184 #[.val (.int p0), .val (.int p1), .val (.int p2), .val (.int p3), .val (.int ix), .val (.int f0), .val (.int f1), .val (.int f2), .val (.int (2 : Int32)), .val (.int r), .val (.ref b52), .val (.ref b59), .val (.int (own_at (own_put (own_put (own_put [0, 0, 0] (0 : Int32) f0) (1 : Int32) f1) (2 : Int32) f2) r)), .val (.int (1 : Int32)), .val (.int t), .unset] [(.int t), (.ref b52)])) _
          refine X68.iaload hx (j := t) (v := (.int (own_at (own_rat (own_put (own_put (own_put [0, 0, 0] (0 : Int32) f0) (1 : Int32) f1) (2 : Int32) f2) (2 : Int32) r) t))) (own_at_heap rfl Ar71.1) (State.isArrayOf_alike hZ.alike Ar71.2.1) Ar71.2.2 hin71 hat71 (g := (mkF m 184 #[.val (.int p0), .val (.int p1), .val (.int p2), .val (.int p3), .val (.int ix), .val (.int f0), .val (.int f1), .val (.int f2), .val (.int (2 : Int32)), .val (.int r), .val (.ref b52), .val (.ref b59), .val (.int (own_at (own_put (own_put (own_put [0, 0, 0] (0 : Int32) f0) (1 : Int32) f1) (2 : Int32) f2) r)), .val (.int (1 : Int32)), .val (.int t), .unset] [(.int t), (.ref b52)])) rfl rfl (hb hby at_184) _ ?_
          show Steps p.tables e below (T68.setTop (mkF m 185 #[.val (.int p0), .val (.int p1), .val (.int p2), .val (.int p3), .val (.int ix), .val (.int f0), .val (.int f1), .val (.int f2), .val (.int (2 : Int32)), .val (.int r), .val (.ref b52), .val (.ref b59), .val (.int (own_at (own_put (own_put (own_put [0, 0, 0] (0 : Int32) f0) (1 : Int32) f1) (2 : Int32) f2) r)), .val (.int (1 : Int32)), .val (.int t), .unset] [(.int (own_at (own_rat (own_put (own_put (own_put [0, 0, 0] (0 : Int32) f0) (1 : Int32) f1) (2 : Int32) f2) (2 : Int32) r) t))])) _
          refine XS.istore X68.here hx rfl (hb hby at_185) rfl (l' := #[.val (.int p0), .val (.int p1), .val (.int p2), .val (.int p3), .val (.int ix), .val (.int f0), .val (.int f1), .val (.int f2), .val (.int (2 : Int32)), .val (.int r), .val (.ref b52), .val (.ref b59), .val (.int (own_at (own_put (own_put (own_put [0, 0, 0] (0 : Int32) f0) (1 : Int32) f1) (2 : Int32) f2) r)), .val (.int (1 : Int32)), .val (.int t), .val (.int (own_at (own_rat (own_put (own_put (own_put [0, 0, 0] (0 : Int32) f0) (1 : Int32) f1) (2 : Int32) f2) (2 : Int32) r) t))]) rfl ?_
          show Steps p.tables e below (T68.setTop (mkF m 187 #[.val (.int p0), .val (.int p1), .val (.int p2), .val (.int p3), .val (.int ix), .val (.int f0), .val (.int f1), .val (.int f2), .val (.int (2 : Int32)), .val (.int r), .val (.ref b52), .val (.ref b59), .val (.int (own_at (own_put (own_put (own_put [0, 0, 0] (0 : Int32) f0) (1 : Int32) f1) (2 : Int32) f2) r)), .val (.int (1 : Int32)), .val (.int t), .val (.int (own_at (own_rat (own_put (own_put (own_put [0, 0, 0] (0 : Int32) f0) (1 : Int32) f1) (2 : Int32) f2) (2 : Int32) r) t))] [])) _
          refine XS.aload X68.here hx rfl (hb hby at_187) rfl rfl ?_
          show Steps p.tables e below (T68.setTop (mkF m 189 #[.val (.int p0), .val (.int p1), .val (.int p2), .val (.int p3), .val (.int ix), .val (.int f0), .val (.int f1), .val (.int f2), .val (.int (2 : Int32)), .val (.int r), .val (.ref b52), .val (.ref b59), .val (.int (own_at (own_put (own_put (own_put [0, 0, 0] (0 : Int32) f0) (1 : Int32) f1) (2 : Int32) f2) r)), .val (.int (1 : Int32)), .val (.int t), .val (.int (own_at (own_rat (own_put (own_put (own_put [0, 0, 0] (0 : Int32) f0) (1 : Int32) f1) (2 : Int32) f2) (2 : Int32) r) t))] [(.ref b59)])) _
          refine XS.iload X68.here hx rfl (hb hby at_189) rfl ?_
          exact kt
        obtain ⟨cq72, kq72, q72a, q72b, q72c⟩ := isOf hZ rfl (E66.keep Kq68)
        obtain ⟨_, _, ⟨T72, L72, k72, n72⟩, -, X72, ⟨Lc72, hQ72, l72, y72, z72⟩, st72⟩ := X68.virtualBack hx (y := (⟨"com/example/slotpack/slotpack/IndexSet", "remove", "(I)V"⟩ : MethodName)) (z := (⟨"com/example/slotpack/slotpack/IndexSet", "remove", "(I)V"⟩ : MethodName)) hown (mvT hZ (hw _ (List.mem_of_getElem? (i := 26) rfl))) (mvT hZ (hw _ (List.mem_of_getElem? (i := 27) rfl))) (notFace_of_selects (args := #[]) (mvT hZ (hw _ (List.mem_of_getElem? (i := 29) rfl)))) (mvT hZ (hw _ (List.mem_of_getElem? (i := 29) rfl))) (mvT hZ (hw _ (List.mem_of_getElem? (i := 28) rfl))) (by decide) (backOf (W := 0) (rm5 l Z a0 hw [] b59 (own_at (own_rat (own_put (own_put (own_put [0, 0, 0] (0 : Int32) f0) (1 : Int32) f1) (2 : Int32) f2) (2 : Int32) r) t) am ap ka kp (own_del (own_add (own_add own_D0 f0) f1) (own_at (own_put (own_put (own_put [0, 0, 0] (0 : Int32) f0) (1 : Int32) f1) (2 : Int32) f2) r)) T68.heap n0 Z68 IS68 geo okR2) hZ (hw _ (List.mem_of_getElem? (i := 30) rfl)) (hw _ (List.mem_of_getElem? (i := 4) rfl)) (by decide) (by decide)) q72a q72c (g := (mkF m 191 #[.val (.int p0), .val (.int p1), .val (.int p2), .val (.int p3), .val (.int ix), .val (.int f0), .val (.int f1), .val (.int f2), .val (.int (2 : Int32)), .val (.int r), .val (.ref b52), .val (.ref b59), .val (.int (own_at (own_put (own_put (own_put [0, 0, 0] (0 : Int32) f0) (1 : Int32) f1) (2 : Int32) f2) r)), .val (.int (1 : Int32)), .val (.int t), .val (.int (own_at (own_rat (own_put (own_put (own_put [0, 0, 0] (0 : Int32) f0) (1 : Int32) f1) (2 : Int32) f2) (2 : Int32) r) t))] [(.int (own_at (own_rat (own_put (own_put (own_put [0, 0, 0] (0 : Int32) f0) (1 : Int32) f1) (2 : Int32) f2) (2 : Int32) r) t)), (.ref b59)])) rfl (by rw [hml]; rfl) (Steps.refl _) (argsL := [(.int (own_at (own_rat (own_put (own_put (own_put [0, 0, 0] (0 : Int32) f0) (1 : Int32) f1) (2 : Int32) f2) (2 : Int32) r) t))]) (rest := []) (lenOf own_pd7 rfl) rfl (by show 2 * 0 + _ ≤ _; exact Nat.le_of_eq rfl) (hb hby at_191) (fun _ _ => ⟨rfl, rfl, (by decide : 4 + 0 ≤ _), (by decide : 12 + 0 ≤ _)⟩)
        dsimp only [Pt.U, Pt.locs, Pt.cells, Pt.slots] at X72 l72 y72 z72 st72 hQ72
        subst l72 y72 z72
        obtain ⟨rfl, Nq72, Kq72, IS72⟩ := hQ72
        have N72 := Fr.app N68 Nq72
        have E72 := IS72.1
        have Fa73 := (Vq68.keep Kq72 (ninS ne_b52_b59 (ninS ne_m_am (ninS ne_m_ap nin0))))
        have Z72 : n0 ≤ T72.heap.size := Nat.le_trans Z68 Kq72.1
        refine own_tr st72 ?_
        show own_Gl _ _ _ _ _ _ _ _ (T72.setTop (mkF m 194 #[.val (.int p0), .val (.int p1), .val (.int p2), .val (.int p3), .val (.int ix), .val (.int f0), .val (.int f1), .val (.int f2), .val (.int (2 : Int32)), .val (.int r), .val (.ref b52), .val (.ref b59), .val (.int (own_at (own_put (own_put (own_put [0, 0, 0] (0 : Int32) f0) (1 : Int32) f1) (2 : Int32) f2) r)), .val (.int (1 : Int32)), .val (.int t), .val (.int (own_at (own_rat (own_put (own_put (own_put [0, 0, 0] (0 : Int32) f0) (1 : Int32) f1) (2 : Int32) f2) (2 : Int32) r) t))] []))
        refine own_st (A' := T72.setTop (mkF m 200 #[.val (.int p0), .val (.int p1), .val (.int p2), .val (.int p3), .val (.int ix), .val (.int f0), .val (.int f1), .val (.int f2), .val (.int (2 : Int32)), .val (.int r), .val (.ref b52), .val (.ref b59), .val (.int (own_at (own_put (own_put (own_put [0, 0, 0] (0 : Int32) f0) (1 : Int32) f1) (2 : Int32) f2) r)), .val (.int (1 : Int32)), .val (.int t), .val (.int (own_at (own_rat (own_put (own_put (own_put [0, 0, 0] (0 : Int32) f0) (1 : Int32) f1) (2 : Int32) f2) (2 : Int32) r) t))] [(.int t), (.int (1 : Int32)), (.ref b52)])) (fun tg kt => ?_) ?_
        · show Steps p.tables e below (T72.setTop (mkF m 194 #[.val (.int p0), .val (.int p1), .val (.int p2), .val (.int p3), .val (.int ix), .val (.int f0), .val (.int f1), .val (.int f2), .val (.int (2 : Int32)), .val (.int r), .val (.ref b52), .val (.ref b59), .val (.int (own_at (own_put (own_put (own_put [0, 0, 0] (0 : Int32) f0) (1 : Int32) f1) (2 : Int32) f2) r)), .val (.int (1 : Int32)), .val (.int t), .val (.int (own_at (own_rat (own_put (own_put (own_put [0, 0, 0] (0 : Int32) f0) (1 : Int32) f1) (2 : Int32) f2) (2 : Int32) r) t))] [])) _
          refine XS.aload X72.here hx rfl (hb hby at_194) rfl rfl ?_
          show Steps p.tables e below (T72.setTop (mkF m 196 #[.val (.int p0), .val (.int p1), .val (.int p2), .val (.int p3), .val (.int ix), .val (.int f0), .val (.int f1), .val (.int f2), .val (.int (2 : Int32)), .val (.int r), .val (.ref b52), .val (.ref b59), .val (.int (own_at (own_put (own_put (own_put [0, 0, 0] (0 : Int32) f0) (1 : Int32) f1) (2 : Int32) f2) r)), .val (.int (1 : Int32)), .val (.int t), .val (.int (own_at (own_rat (own_put (own_put (own_put [0, 0, 0] (0 : Int32) f0) (1 : Int32) f1) (2 : Int32) f2) (2 : Int32) r) t))] [(.ref b52)])) _
          refine XS.iload X72.here hx rfl (hb hby at_196) rfl ?_
          show Steps p.tables e below (T72.setTop (mkF m 198 #[.val (.int p0), .val (.int p1), .val (.int p2), .val (.int p3), .val (.int ix), .val (.int f0), .val (.int f1), .val (.int f2), .val (.int (2 : Int32)), .val (.int r), .val (.ref b52), .val (.ref b59), .val (.int (own_at (own_put (own_put (own_put [0, 0, 0] (0 : Int32) f0) (1 : Int32) f1) (2 : Int32) f2) r)), .val (.int (1 : Int32)), .val (.int t), .val (.int (own_at (own_rat (own_put (own_put (own_put [0, 0, 0] (0 : Int32) f0) (1 : Int32) f1) (2 : Int32) f2) (2 : Int32) r) t))] [(.int (1 : Int32)), (.ref b52)])) _
          refine XS.iload X72.here hx rfl (hb hby at_198) rfl ?_
          exact kt
        obtain ⟨_, _, ⟨T74, L74, k74, n74⟩, -, X74, ⟨Lc74, hQ74, l74, y74, z74⟩, st74⟩ := Jvm.LawKit.callS X72 hx (y := (⟨"com/example/slotpack/slotpack/IndexSetRemovePinLaw", "removeAt", "([III)I"⟩ : MethodName)) hown (mvT hZ (hw _ (List.mem_of_getElem? (i := 31) rfl))) (mvT hZ (hw _ (List.mem_of_getElem? (i := 32) rfl))) (mvT hZ (hw _ (List.mem_of_getElem? (i := 33) rfl))) (mvT hZ (hw _ (List.mem_of_getElem? (i := 34) rfl))) (by decide) (backOf (W := 0) (rm6 l Z a0 hw [] b52 (1 : Int32) t k52 (own_rat (own_put (own_put (own_put [0, 0, 0] (0 : Int32) f0) (1 : Int32) f1) (2 : Int32) f2) (2 : Int32) r) T72.heap n0 Z72 Fa73 g_b52 (by decide) okt) hZ (hw _ (List.mem_of_getElem? (i := 34) rfl)) (hw _ (List.mem_of_getElem? (i := 33) rfl)) (by decide) (by decide)) (g := (mkF m 200 #[.val (.int p0), .val (.int p1), .val (.int p2), .val (.int p3), .val (.int ix), .val (.int f0), .val (.int f1), .val (.int f2), .val (.int (2 : Int32)), .val (.int r), .val (.ref b52), .val (.ref b59), .val (.int (own_at (own_put (own_put (own_put [0, 0, 0] (0 : Int32) f0) (1 : Int32) f1) (2 : Int32) f2) r)), .val (.int (1 : Int32)), .val (.int t), .val (.int (own_at (own_rat (own_put (own_put (own_put [0, 0, 0] (0 : Int32) f0) (1 : Int32) f1) (2 : Int32) f2) (2 : Int32) r) t))] [(.int t), (.int (1 : Int32)), (.ref b52)])) rfl (by rw [hml]; rfl) (argsL := [(.ref b52), (.int (1 : Int32)), (.int t)]) (rest := []) (lenOf own_pd8 rfl) rfl (by show 2 * 0 + _ ≤ _; exact Nat.le_of_eq rfl) (hb hby at_200) (fun _ _ => ⟨rfl, rfl, (by decide : 4 + 0 ≤ _), (by decide : 12 + 0 ≤ _)⟩)
        dsimp only [Pt.U, Pt.locs, Pt.cells, Pt.slots] at X74 l74 y74 z74 st74 hQ74
        subst l74 y74 z74
        obtain ⟨rfl, Nq74, Kq74, Vq74⟩ := hQ74
        have N74 := Fr.app N72 Nq74
        have IS74 : own_IS Z T74.heap b59 am ap ka kp (own_del (own_del (own_add (own_add own_D0 f0) f1) (own_at (own_put (own_put (own_put [0, 0, 0] (0 : Int32) f0) (1 : Int32) f1) (2 : Int32) f2) r)) (own_at (own_rat (own_put (own_put (own_put [0, 0, 0] (0 : Int32) f0) (1 : Int32) f1) (2 : Int32) f2) (2 : Int32) r) t)) := ⟨IS72.1.keep Kq74, IS72.2.1.keep Kq74 (ninS (Ne.symm ne_b52_b59) nin0), IS72.2.2.1.keep Kq74 (ninS (Ne.symm ne_b52_b59) nin0), IS72.2.2.2.1.keep Kq74 (ninS (Ne.symm ne_b52_b59) nin0), IS72.2.2.2.2.1.keep Kq74 (ninS (Ne.symm ne_m_am) nin0), IS72.2.2.2.2.2.keep Kq74 (ninS (Ne.symm ne_m_ap) nin0)⟩
        have Z74 : n0 ≤ T74.heap.size := Nat.le_trans Z72 Kq74.1
        refine own_st st74 ?_
        show own_Gl _ _ _ _ _ _ _ _ (T74.setTop (mkF m 203 #[.val (.int p0), .val (.int p1), .val (.int p2), .val (.int p3), .val (.int ix), .val (.int f0), .val (.int f1), .val (.int f2), .val (.int (2 : Int32)), .val (.int r), .val (.ref b52), .val (.ref b59), .val (.int (own_at (own_put (own_put (own_put [0, 0, 0] (0 : Int32) f0) (1 : Int32) f1) (2 : Int32) f2) r)), .val (.int (1 : Int32)), .val (.int t), .val (.int (own_at (own_rat (own_put (own_put (own_put [0, 0, 0] (0 : Int32) f0) (1 : Int32) f1) (2 : Int32) f2) (2 : Int32) r) t))] [(.int (0 : Int32))]))
        refine own_st (A' := T74.setTop (mkF m 207 #[.val (.int p0), .val (.int p1), .val (.int p2), .val (.int p3), .val (.int ix), .val (.int f0), .val (.int f1), .val (.int f2), .val (.int (2 : Int32)), .val (.int r), .val (.ref b52), .val (.ref b59), .val (.int (own_at (own_put (own_put (own_put [0, 0, 0] (0 : Int32) f0) (1 : Int32) f1) (2 : Int32) f2) r)), .val (.int (0 : Int32)), .val (.int t), .val (.int (own_at (own_rat (own_put (own_put (own_put [0, 0, 0] (0 : Int32) f0) (1 : Int32) f1) (2 : Int32) f2) (2 : Int32) r) t))] [(.ref b59)])) (fun tg kt => ?_) ?_
        · show Steps p.tables e below (T74.setTop (mkF m 203 #[.val (.int p0), .val (.int p1), .val (.int p2), .val (.int p3), .val (.int ix), .val (.int f0), .val (.int f1), .val (.int f2), .val (.int (2 : Int32)), .val (.int r), .val (.ref b52), .val (.ref b59), .val (.int (own_at (own_put (own_put (own_put [0, 0, 0] (0 : Int32) f0) (1 : Int32) f1) (2 : Int32) f2) r)), .val (.int (1 : Int32)), .val (.int t), .val (.int (own_at (own_rat (own_put (own_put (own_put [0, 0, 0] (0 : Int32) f0) (1 : Int32) f1) (2 : Int32) f2) (2 : Int32) r) t))] [(.int (0 : Int32))])) _
          refine XS.istore X74.here hx rfl (hb hby at_203) rfl (l' := #[.val (.int p0), .val (.int p1), .val (.int p2), .val (.int p3), .val (.int ix), .val (.int f0), .val (.int f1), .val (.int f2), .val (.int (2 : Int32)), .val (.int r), .val (.ref b52), .val (.ref b59), .val (.int (own_at (own_put (own_put (own_put [0, 0, 0] (0 : Int32) f0) (1 : Int32) f1) (2 : Int32) f2) r)), .val (.int (0 : Int32)), .val (.int t), .val (.int (own_at (own_rat (own_put (own_put (own_put [0, 0, 0] (0 : Int32) f0) (1 : Int32) f1) (2 : Int32) f2) (2 : Int32) r) t))]) rfl ?_
          show Steps p.tables e below (T74.setTop (mkF m 205 #[.val (.int p0), .val (.int p1), .val (.int p2), .val (.int p3), .val (.int ix), .val (.int f0), .val (.int f1), .val (.int f2), .val (.int (2 : Int32)), .val (.int r), .val (.ref b52), .val (.ref b59), .val (.int (own_at (own_put (own_put (own_put [0, 0, 0] (0 : Int32) f0) (1 : Int32) f1) (2 : Int32) f2) r)), .val (.int (0 : Int32)), .val (.int t), .val (.int (own_at (own_rat (own_put (own_put (own_put [0, 0, 0] (0 : Int32) f0) (1 : Int32) f1) (2 : Int32) f2) (2 : Int32) r) t))] [])) _
          refine XS.aload X74.here hx rfl (hb hby at_205) rfl rfl ?_
          exact kt
        obtain ⟨cq75, kq75, q75a, q75b, q75c⟩ := isOf hZ rfl (E72.keep Kq74)
        obtain ⟨_, _, ⟨T75, L75, k75, n75⟩, -, X75, ⟨Lc75, hQ75, l75, y75, z75⟩, st75⟩ := X74.virtualBack hx (y := (⟨"com/example/slotpack/slotpack/IndexSet", "size", "()I"⟩ : MethodName)) (z := (⟨"com/example/slotpack/slotpack/IndexSet", "size", "()I"⟩ : MethodName)) hown (mvT hZ (hw _ (List.mem_of_getElem? (i := 35) rfl))) (mvT hZ (hw _ (List.mem_of_getElem? (i := 36) rfl))) (notFace_of_selects (args := #[]) (mvT hZ (hw _ (List.mem_of_getElem? (i := 38) rfl)))) (mvT hZ (hw _ (List.mem_of_getElem? (i := 38) rfl))) (mvT hZ (hw _ (List.mem_of_getElem? (i := 37) rfl))) (by decide) (backOf (W := 0) (rm7 l Z a0 hw [] b59   am ap ka kp (own_del (own_del (own_add (own_add own_D0 f0) f1) (own_at (own_put (own_put (own_put [0, 0, 0] (0 : Int32) f0) (1 : Int32) f1) (2 : Int32) f2) r)) (own_at (own_rat (own_put (own_put (own_put [0, 0, 0] (0 : Int32) f0) (1 : Int32) f1) (2 : Int32) f2) (2 : Int32) r) t)) T74.heap n0 Z74 IS74 geo ) hZ (hw _ (List.mem_of_getElem? (i := 39) rfl)) (hw _ (List.mem_of_getElem? (i := 4) rfl)) (by decide) (by decide)) q75a q75c (g := (mkF m 207 #[.val (.int p0), .val (.int p1), .val (.int p2), .val (.int p3), .val (.int ix), .val (.int f0), .val (.int f1), .val (.int f2), .val (.int (2 : Int32)), .val (.int r), .val (.ref b52), .val (.ref b59), .val (.int (own_at (own_put (own_put (own_put [0, 0, 0] (0 : Int32) f0) (1 : Int32) f1) (2 : Int32) f2) r)), .val (.int (0 : Int32)), .val (.int t), .val (.int (own_at (own_rat (own_put (own_put (own_put [0, 0, 0] (0 : Int32) f0) (1 : Int32) f1) (2 : Int32) f2) (2 : Int32) r) t))] [(.ref b59)])) rfl (by rw [hml]; rfl) (Steps.refl _) (argsL := []) (rest := []) (lenOf own_pd9 rfl) rfl (by show 2 * 0 + _ ≤ _; exact Nat.le_of_eq rfl) (hb hby at_207) (fun _ _ => ⟨rfl, rfl, (by decide : 4 + 0 ≤ _), (by decide : 12 + 0 ≤ _)⟩)
        dsimp only [Pt.U, Pt.locs, Pt.cells, Pt.slots] at X75 l75 y75 z75 st75 hQ75
        subst l75 y75 z75
        obtain ⟨rfl, Nq75, eq75⟩ := hQ75
        have N75 := Fr.app N74 Nq75
        refine own_tr st75 ?_
        show own_Gl _ _ _ _ _ _ _ _ (T75.setTop (mkF m 210 #[.val (.int p0), .val (.int p1), .val (.int p2), .val (.int p3), .val (.int ix), .val (.int f0), .val (.int f1), .val (.int f2), .val (.int (2 : Int32)), .val (.int r), .val (.ref b52), .val (.ref b59), .val (.int (own_at (own_put (own_put (own_put [0, 0, 0] (0 : Int32) f0) (1 : Int32) f1) (2 : Int32) f2) r)), .val (.int (0 : Int32)), .val (.int t), .val (.int (own_at (own_rat (own_put (own_put (own_put [0, 0, 0] (0 : Int32) f0) (1 : Int32) f1) (2 : Int32) f2) (2 : Int32) r) t))] [(.int (own_del (own_del (own_add (own_add own_D0 f0) f1) (own_at (own_put (own_put (own_put [0, 0, 0] (0 : Int32) f0) (1 : Int32) f1) (2 : Int32) f2) r)) (own_at (own_rat (own_put (own_put (own_put [0, 0, 0] (0 : Int32) f0) (1 : Int32) f1) (2 : Int32) f2) (2 : Int32) r) t)).2.2)]))
        refine own_st (A' := T75.setTop (mkF m 222 #[.val (.int p0), .val (.int p1), .val (.int p2), .val (.int p3), .val (.int ix), .val (.int f0), .val (.int f1), .val (.int f2), .val (.int (2 : Int32)), .val (.int r), .val (.ref b52), .val (.ref b59), .val (.int (own_at (own_put (own_put (own_put [0, 0, 0] (0 : Int32) f0) (1 : Int32) f1) (2 : Int32) f2) r)), .val (.int (0 : Int32)), .val (.int (1 : Int32)), .val (.int (own_at (own_rat (own_put (own_put (own_put [0, 0, 0] (0 : Int32) f0) (1 : Int32) f1) (2 : Int32) f2) (2 : Int32) r) t))] [])) (fun tg kt => ?_) ?_
        · show Steps p.tables e below (T75.setTop (mkF m 210 #[.val (.int p0), .val (.int p1), .val (.int p2), .val (.int p3), .val (.int ix), .val (.int f0), .val (.int f1), .val (.int f2), .val (.int (2 : Int32)), .val (.int r), .val (.ref b52), .val (.ref b59), .val (.int (own_at (own_put (own_put (own_put [0, 0, 0] (0 : Int32) f0) (1 : Int32) f1) (2 : Int32) f2) r)), .val (.int (0 : Int32)), .val (.int t), .val (.int (own_at (own_rat (own_put (own_put (own_put [0, 0, 0] (0 : Int32) f0) (1 : Int32) f1) (2 : Int32) f2) (2 : Int32) r) t))] [(.int (own_del (own_del (own_add (own_add own_D0 f0) f1) (own_at (own_put (own_put (own_put [0, 0, 0] (0 : Int32) f0) (1 : Int32) f1) (2 : Int32) f2) r)) (own_at (own_rat (own_put (own_put (own_put [0, 0, 0] (0 : Int32) f0) (1 : Int32) f1) (2 : Int32) f2) (2 : Int32) r) t)).2.2)])) _
          refine XS.iload X75.here hx rfl (hb hby at_210) rfl ?_
          show Steps p.tables e below (T75.setTop (mkF m 212 #[.val (.int p0), .val (.int p1), .val (.int p2), .val (.int p3), .val (.int ix), .val (.int f0), .val (.int f1), .val (.int f2), .val (.int (2 : Int32)), .val (.int r), .val (.ref b52), .val (.ref b59), .val (.int (own_at (own_put (own_put (own_put [0, 0, 0] (0 : Int32) f0) (1 : Int32) f1) (2 : Int32) f2) r)), .val (.int (0 : Int32)), .val (.int t), .val (.int (own_at (own_rat (own_put (own_put (own_put [0, 0, 0] (0 : Int32) f0) (1 : Int32) f1) (2 : Int32) f2) (2 : Int32) r) t))] [(.int (0 : Int32)), (.int (own_del (own_del (own_add (own_add own_D0 f0) f1) (own_at (own_put (own_put (own_put [0, 0, 0] (0 : Int32) f0) (1 : Int32) f1) (2 : Int32) f2) r)) (own_at (own_rat (own_put (own_put (own_put [0, 0, 0] (0 : Int32) f0) (1 : Int32) f1) (2 : Int32) f2) (2 : Int32) r) t)).2.2)])) _
          refine XS.icmpNo X75.here hx rfl (hb hby at_212) rfl (teq (okF2.1 : (own_del (own_del (own_add (own_add own_D0 f0) f1) (own_at (own_put (own_put (own_put [0, 0, 0] (0 : Int32) f0) (1 : Int32) f1) (2 : Int32) f2) r)) (own_at (own_rat (own_put (own_put (own_put [0, 0, 0] (0 : Int32) f0) (1 : Int32) f1) (2 : Int32) f2) (2 : Int32) r) t)).2.2 = (0 : Int32))).2 ?_
          show Steps p.tables e below (T75.setTop (mkF m 215 #[.val (.int p0), .val (.int p1), .val (.int p2), .val (.int p3), .val (.int ix), .val (.int f0), .val (.int f1), .val (.int f2), .val (.int (2 : Int32)), .val (.int r), .val (.ref b52), .val (.ref b59), .val (.int (own_at (own_put (own_put (own_put [0, 0, 0] (0 : Int32) f0) (1 : Int32) f1) (2 : Int32) f2) r)), .val (.int (0 : Int32)), .val (.int t), .val (.int (own_at (own_rat (own_put (own_put (own_put [0, 0, 0] (0 : Int32) f0) (1 : Int32) f1) (2 : Int32) f2) (2 : Int32) r) t))] [])) _
          refine XS.iconst X75.here hx rfl (hb hby at_215) ?_
          show Steps p.tables e below (T75.setTop (mkF m 216 #[.val (.int p0), .val (.int p1), .val (.int p2), .val (.int p3), .val (.int ix), .val (.int f0), .val (.int f1), .val (.int f2), .val (.int (2 : Int32)), .val (.int r), .val (.ref b52), .val (.ref b59), .val (.int (own_at (own_put (own_put (own_put [0, 0, 0] (0 : Int32) f0) (1 : Int32) f1) (2 : Int32) f2) r)), .val (.int (0 : Int32)), .val (.int t), .val (.int (own_at (own_rat (own_put (own_put (own_put [0, 0, 0] (0 : Int32) f0) (1 : Int32) f1) (2 : Int32) f2) (2 : Int32) r) t))] [(.int (1 : Int32))])) _
          refine XS.goto X75.here hx rfl (pc0 := 216) (pc' := 220) rfl (hb hby at_216) (by decide) (by decide) ?_
          show Steps p.tables e below (T75.setTop (mkF m 220 #[.val (.int p0), .val (.int p1), .val (.int p2), .val (.int p3), .val (.int ix), .val (.int f0), .val (.int f1), .val (.int f2), .val (.int (2 : Int32)), .val (.int r), .val (.ref b52), .val (.ref b59), .val (.int (own_at (own_put (own_put (own_put [0, 0, 0] (0 : Int32) f0) (1 : Int32) f1) (2 : Int32) f2) r)), .val (.int (0 : Int32)), .val (.int t), .val (.int (own_at (own_rat (own_put (own_put (own_put [0, 0, 0] (0 : Int32) f0) (1 : Int32) f1) (2 : Int32) f2) (2 : Int32) r) t))] [(.int (1 : Int32))])) _
          refine XS.istore X75.here hx rfl (hb hby at_220) rfl (l' := #[.val (.int p0), .val (.int p1), .val (.int p2), .val (.int p3), .val (.int ix), .val (.int f0), .val (.int f1), .val (.int f2), .val (.int (2 : Int32)), .val (.int r), .val (.ref b52), .val (.ref b59), .val (.int (own_at (own_put (own_put (own_put [0, 0, 0] (0 : Int32) f0) (1 : Int32) f1) (2 : Int32) f2) r)), .val (.int (0 : Int32)), .val (.int (1 : Int32)), .val (.int (own_at (own_rat (own_put (own_put (own_put [0, 0, 0] (0 : Int32) f0) (1 : Int32) f1) (2 : Int32) f2) (2 : Int32) r) t))]) rfl ?_
          exact kt
        exact tlE _ _ _ _ _ _ _ _ b52 b59 am ap _ ka kp (own_del (own_del (own_add (own_add own_D0 f0) f1) (own_at (own_put (own_put (own_put [0, 0, 0] (0 : Int32) f0) (1 : Int32) f1) (2 : Int32) f2) r)) (own_at (own_rat (own_put (own_put (own_put [0, 0, 0] (0 : Int32) f0) (1 : Int32) f1) (2 : Int32) f2) (2 : Int32) r) t)) (0 : Int32) _ T75 _ _ X75 eq75 N75 Z74 IS74 Vq74 geo g_b52 okF2
    · show own_Gl _ _ _ _ _ _ _ _ (s₁.setTop (mkF m 61 #[.val (.int p0), .val (.int p1), .val (.int p2), .val (.int p3), .val (.int ix), .val (.int f0), .val (.int f1), .val (.int f2), .val (.int (3 : Int32)), .unset, .unset, .unset, .unset, .unset, .unset, .unset] [(.int p2)]))
      refine own_st (A' := s₁.setTop (mkF m 67 #[.val (.int p0), .val (.int p1), .val (.int p2), .val (.int p3), .val (.int ix), .val (.int f0), .val (.int f1), .val (.int f2), .val (.int (3 : Int32)), .unset, .unset, .unset, .unset, .unset, .unset, .unset] [(.int ((p2 &&& (2147483647 : Int32)) % (3 : Int32)))])) (fun tg kt => ?_) ?_
      · show Steps p.tables e below (s₁.setTop (mkF m 61 #[.val (.int p0), .val (.int p1), .val (.int p2), .val (.int p3), .val (.int ix), .val (.int f0), .val (.int f1), .val (.int f2), .val (.int (3 : Int32)), .unset, .unset, .unset, .unset, .unset, .unset, .unset] [(.int p2)])) _
        refine X0.ldcInt hx hown (mvT hZ (hw _ (List.mem_of_getElem? (i := 0) rfl))) (g := (mkF m 61 #[.val (.int p0), .val (.int p1), .val (.int p2), .val (.int p3), .val (.int ix), .val (.int f0), .val (.int f1), .val (.int f2), .val (.int (3 : Int32)), .unset, .unset, .unset, .unset, .unset, .unset, .unset] [(.int p2)])) rfl (hb hby at_61) _ ?_
        show Steps p.tables e below (s₁.setTop (mkF m 63 #[.val (.int p0), .val (.int p1), .val (.int p2), .val (.int p3), .val (.int ix), .val (.int f0), .val (.int f1), .val (.int f2), .val (.int (3 : Int32)), .unset, .unset, .unset, .unset, .unset, .unset, .unset] [(.int (2147483647 : Int32)), (.int p2)])) _
        refine XS.iand X0.here hx rfl (hb hby at_63) rfl ?_
        show Steps p.tables e below (s₁.setTop (mkF m 64 #[.val (.int p0), .val (.int p1), .val (.int p2), .val (.int p3), .val (.int ix), .val (.int f0), .val (.int f1), .val (.int f2), .val (.int (3 : Int32)), .unset, .unset, .unset, .unset, .unset, .unset, .unset] [(.int (p2 &&& (2147483647 : Int32)))])) _
        refine XS.iload X0.here hx rfl (hb hby at_64) rfl ?_
        show Steps p.tables e below (s₁.setTop (mkF m 66 #[.val (.int p0), .val (.int p1), .val (.int p2), .val (.int p3), .val (.int ix), .val (.int f0), .val (.int f1), .val (.int f2), .val (.int (3 : Int32)), .unset, .unset, .unset, .unset, .unset, .unset, .unset] [(.int (3 : Int32)), (.int (p2 &&& (2147483647 : Int32)))])) _
        refine iremM X0 hx rfl (hb hby at_66) rfl (by decide) ?_
        exact kt
      obtain ⟨r, hr⟩ : ∃ z, z = ((p2 &&& (2147483647 : Int32)) % (3 : Int32)) := ⟨_, rfl⟩
      rw [← hr]
      show own_Gl _ _ _ _ _ _ _ _ (s₁.setTop (mkF m 67 #[.val (.int p0), .val (.int p1), .val (.int p2), .val (.int p3), .val (.int ix), .val (.int f0), .val (.int f1), .val (.int f2), .val (.int (3 : Int32)), .unset, .unset, .unset, .unset, .unset, .unset, .unset] [(.int r)]))
      have br := own_rem p2 3 3 (by decide) (by decide)
      rw [← hr] at br
      have hrr := own_split3 br.1 br.2
      refine own_st (A' := s₁.setTop (mkF m 69 #[.val (.int p0), .val (.int p1), .val (.int p2), .val (.int p3), .val (.int ix), .val (.int f0), .val (.int f1), .val (.int f2), .val (.int (3 : Int32)), .val (.int r), .unset, .unset, .unset, .unset, .unset, .unset] [])) (fun tg kt => ?_) ?_
      · show Steps p.tables e below (s₁.setTop (mkF m 67 #[.val (.int p0), .val (.int p1), .val (.int p2), .val (.int p3), .val (.int ix), .val (.int f0), .val (.int f1), .val (.int f2), .val (.int (3 : Int32)), .unset, .unset, .unset, .unset, .unset, .unset, .unset] [(.int r)])) _
        refine XS.istore X0.here hx rfl (hb hby at_67) rfl (l' := #[.val (.int p0), .val (.int p1), .val (.int p2), .val (.int p3), .val (.int ix), .val (.int f0), .val (.int f1), .val (.int f2), .val (.int (3 : Int32)), .val (.int r), .unset, .unset, .unset, .unset, .unset, .unset]) rfl ?_
        exact kt
      obtain ⟨ok0, ok1, ok2, okr, okR, okF⟩ := own_k3 f0 f1 f2 hp r hrr
      refine own_st (A' := s₁.setTop (mkF m 70 #[.val (.int p0), .val (.int p1), .val (.int p2), .val (.int p3), .val (.int ix), .val (.int f0), .val (.int f1), .val (.int f2), .val (.int (3 : Int32)), .val (.int r), .unset, .unset, .unset, .unset, .unset, .unset] [(.int (3 : Int32))])) (fun tg kt => ?_) ?_
      · show Steps p.tables e below (s₁.setTop (mkF m 69 #[.val (.int p0), .val (.int p1), .val (.int p2), .val (.int p3), .val (.int ix), .val (.int f0), .val (.int f1), .val (.int f2), .val (.int (3 : Int32)), .val (.int r), .unset, .unset, .unset, .unset, .unset, .unset] [])) _
        refine XS.iconst X0.here hx rfl (hb hby at_69) ?_
        exact kt
      obtain ⟨T76, h76, k76, X76, e76, E76, A76, st76⟩ := newP X0 hx hZ (hw _ (List.mem_of_getElem? (i := 1) rfl)) e0 (g := (mkF m 70 #[.val (.int p0), .val (.int p1), .val (.int p2), .val (.int p3), .val (.int ix), .val (.int f0), .val (.int f1), .val (.int f2), .val (.int (3 : Int32)), .val (.int r), .unset, .unset, .unset, .unset, .unset, .unset] [(.int (3 : Int32))])) rfl (hb hby at_70) rfl (by decide) (cap := 3) (by decide) (by decide) (by decide) (by decide)
      obtain ⟨b76, g76⟩ : ∃ z, z = h0.size := ⟨_, rfl⟩
      rw [← g76] at A76 st76
      have g_b76 : n0 ≤ b76 := Nat.le_trans Z0 (Nat.le_of_eq g76.symm)
      have kw_b76 : h0.size ≤ b76 := Nat.le_trans ((Keep.refl h0 ([] : List Addr))).1 (Nat.le_of_eq g76.symm)
      have K76 := ((Keep.refl h0 ([] : List Addr))).ext E76
      have Z76 : n0 ≤ h76.size := Nat.le_trans Z0 E76.1
      have V_b76 : Arv Z h76 b76 k76 .int (3 : Int32) [(.int (0 : Int32)), (.int (0 : Int32)), (.int (0 : Int32))] (.int (0 : Int32)) := (Arv.new A76 (by decide)).pad (pad_rep [] (.int (0 : Int32)) 3)
      have VA_b76 : own_ai Z h76 b76 k76 [0, 0, 0] := ⟨V_b76, rfl⟩
      refine own_st st76 ?_
      show own_Gl _ _ _ _ _ _ _ _ (T76.setTop (mkF m 72 #[.val (.int p0), .val (.int p1), .val (.int p2), .val (.int p3), .val (.int ix), .val (.int f0), .val (.int f1), .val (.int f2), .val (.int (3 : Int32)), .val (.int r), .unset, .unset, .unset, .unset, .unset, .unset] [(.ref b76)]))
      refine own_st (A' := T76.setTop (mkF m 76 #[.val (.int p0), .val (.int p1), .val (.int p2), .val (.int p3), .val (.int ix), .val (.int f0), .val (.int f1), .val (.int f2), .val (.int (3 : Int32)), .val (.int r), .unset, .unset, .unset, .unset, .unset, .unset] [(.int f0), (.int (0 : Int32)), (.ref b76), (.ref b76)])) (fun tg kt => ?_) ?_
      · show Steps p.tables e below (T76.setTop (mkF m 72 #[.val (.int p0), .val (.int p1), .val (.int p2), .val (.int p3), .val (.int ix), .val (.int f0), .val (.int f1), .val (.int f2), .val (.int (3 : Int32)), .val (.int r), .unset, .unset, .unset, .unset, .unset, .unset] [(.ref b76)])) _
        refine XS.dup X76.here hx rfl (hb hby at_72) rfl rfl ?_
        show Steps p.tables e below (T76.setTop (mkF m 73 #[.val (.int p0), .val (.int p1), .val (.int p2), .val (.int p3), .val (.int ix), .val (.int f0), .val (.int f1), .val (.int f2), .val (.int (3 : Int32)), .val (.int r), .unset, .unset, .unset, .unset, .unset, .unset] [(.ref b76), (.ref b76)])) _
        refine XS.iconst X76.here hx rfl (hb hby at_73) ?_
        show Steps p.tables e below (T76.setTop (mkF m 74 #[.val (.int p0), .val (.int p1), .val (.int p2), .val (.int p3), .val (.int ix), .val (.int f0), .val (.int f1), .val (.int f2), .val (.int (3 : Int32)), .val (.int r), .unset, .unset, .unset, .unset, .unset, .unset] [(.int (0 : Int32)), (.ref b76), (.ref b76)])) _
        refine XS.iload X76.here hx rfl (hb hby at_74) rfl ?_
        exact kt
      obtain ⟨cl77, Ar77, hin77, hset77⟩ := own_ai_st VA_b76 (j := (0 : Int32)) (by decide)
      obtain ⟨T78, h78, X78, e78, W78, st78⟩ := stI X76 hx hZ e76 Ar77 (j := (0 : Int32)) hin77 (g := (mkF m 76 #[.val (.int p0), .val (.int p1), .val (.int p2), .val (.int p3), .val (.int ix), .val (.int f0), .val (.int f1), .val (.int f2), .val (.int (3 : Int32)), .val (.int r), .unset, .unset, .unset, .unset, .unset, .unset] [(.int f0), (.int (0 : Int32)), (.ref b76), (.ref b76)])) rfl rfl (hb hby at_76)
      have N78 := Fr.snoc X78 N0 g_b76
      have K78 := (K76).wr W78 (Or.inr kw_b76)
      have Z78 : n0 ≤ h78.size := Nat.le_trans Z76 (Keep.of_wr W78).1
      have V78 := hset77 _ _ W78
      refine own_st st78 ?_
      show own_Gl _ _ _ _ _ _ _ _ (T78.setTop (mkF m 77 #[.val (.int p0), .val (.int p1), .val (.int p2), .val (.int p3), .val (.int ix), .val (.int f0), .val (.int f1), .val (.int f2), .val (.int (3 : Int32)), .val (.int r), .unset, .unset, .unset, .unset, .unset, .unset] [(.ref b76)]))
      refine own_st (A' := T78.setTop (mkF m 81 #[.val (.int p0), .val (.int p1), .val (.int p2), .val (.int p3), .val (.int ix), .val (.int f0), .val (.int f1), .val (.int f2), .val (.int (3 : Int32)), .val (.int r), .unset, .unset, .unset, .unset, .unset, .unset] [(.int f1), (.int (1 : Int32)), (.ref b76), (.ref b76)])) (fun tg kt => ?_) ?_
      · show Steps p.tables e below (T78.setTop (mkF m 77 #[.val (.int p0), .val (.int p1), .val (.int p2), .val (.int p3), .val (.int ix), .val (.int f0), .val (.int f1), .val (.int f2), .val (.int (3 : Int32)), .val (.int r), .unset, .unset, .unset, .unset, .unset, .unset] [(.ref b76)])) _
        refine XS.dup X78.here hx rfl (hb hby at_77) rfl rfl ?_
        show Steps p.tables e below (T78.setTop (mkF m 78 #[.val (.int p0), .val (.int p1), .val (.int p2), .val (.int p3), .val (.int ix), .val (.int f0), .val (.int f1), .val (.int f2), .val (.int (3 : Int32)), .val (.int r), .unset, .unset, .unset, .unset, .unset, .unset] [(.ref b76), (.ref b76)])) _
        refine XS.iconst X78.here hx rfl (hb hby at_78) ?_
        show Steps p.tables e below (T78.setTop (mkF m 79 #[.val (.int p0), .val (.int p1), .val (.int p2), .val (.int p3), .val (.int ix), .val (.int f0), .val (.int f1), .val (.int f2), .val (.int (3 : Int32)), .val (.int r), .unset, .unset, .unset, .unset, .unset, .unset] [(.int (1 : Int32)), (.ref b76), (.ref b76)])) _
        refine XS.iload X78.here hx rfl (hb hby at_79) rfl ?_
        exact kt
      obtain ⟨cl79, Ar79, hin79, hset79⟩ := own_ai_st V78 (j := (1 : Int32)) (by decide)
      obtain ⟨T80, h80, X80, e80, W80, st80⟩ := stI X78 hx hZ e78 Ar79 (j := (1 : Int32)) hin79 (g := (mkF m 81 #[.val (.int p0), .val (.int p1), .val (.int p2), .val (.int p3), .val (.int ix), .val (.int f0), .val (.int f1), .val (.int f2), .val (.int (3 : Int32)), .val (.int r), .unset, .unset, .unset, .unset, .unset, .unset] [(.int f1), (.int (1 : Int32)), (.ref b76), (.ref b76)])) rfl rfl (hb hby at_81)
      have N80 := Fr.snoc X80 N78 g_b76
      have K80 := (K78).wr W80 (Or.inr kw_b76)
      have Z80 : n0 ≤ h80.size := Nat.le_trans Z78 (Keep.of_wr W80).1
      have V80 := hset79 _ _ W80
      refine own_st st80 ?_
      show own_Gl _ _ _ _ _ _ _ _ (T80.setTop (mkF m 82 #[.val (.int p0), .val (.int p1), .val (.int p2), .val (.int p3), .val (.int ix), .val (.int f0), .val (.int f1), .val (.int f2), .val (.int (3 : Int32)), .val (.int r), .unset, .unset, .unset, .unset, .unset, .unset] [(.ref b76)]))
      refine own_st (A' := T80.setTop (mkF m 86 #[.val (.int p0), .val (.int p1), .val (.int p2), .val (.int p3), .val (.int ix), .val (.int f0), .val (.int f1), .val (.int f2), .val (.int (3 : Int32)), .val (.int r), .unset, .unset, .unset, .unset, .unset, .unset] [(.int f2), (.int (2 : Int32)), (.ref b76), (.ref b76)])) (fun tg kt => ?_) ?_
      · show Steps p.tables e below (T80.setTop (mkF m 82 #[.val (.int p0), .val (.int p1), .val (.int p2), .val (.int p3), .val (.int ix), .val (.int f0), .val (.int f1), .val (.int f2), .val (.int (3 : Int32)), .val (.int r), .unset, .unset, .unset, .unset, .unset, .unset] [(.ref b76)])) _
        refine XS.dup X80.here hx rfl (hb hby at_82) rfl rfl ?_
        show Steps p.tables e below (T80.setTop (mkF m 83 #[.val (.int p0), .val (.int p1), .val (.int p2), .val (.int p3), .val (.int ix), .val (.int f0), .val (.int f1), .val (.int f2), .val (.int (3 : Int32)), .val (.int r), .unset, .unset, .unset, .unset, .unset, .unset] [(.ref b76), (.ref b76)])) _
        refine XS.iconst X80.here hx rfl (hb hby at_83) ?_
        show Steps p.tables e below (T80.setTop (mkF m 84 #[.val (.int p0), .val (.int p1), .val (.int p2), .val (.int p3), .val (.int ix), .val (.int f0), .val (.int f1), .val (.int f2), .val (.int (3 : Int32)), .val (.int r), .unset, .unset, .unset, .unset, .unset, .unset] [(.int (2 : Int32)), (.ref b76), (.ref b76)])) _
        refine XS.iload X80.here hx rfl (hb hby at_84) rfl ?_
        exact kt
      obtain ⟨cl81, Ar81, hin81, hset81⟩ := own_ai_st V80 (j := (2 : Int32)) (by decide)
      obtain ⟨T82, h82, X82, e82, W82, st82⟩ := stI X80 hx hZ e80 Ar81 (j := (2 : Int32)) hin81 (g := (mkF m 86 #[.val (.int p0), .val (.int p1), .val (.int p2), .val (.int p3), .val (.int ix), .val (.int f0), .val (.int f1), .val (.int f2), .val (.int (3 : Int32)), .val (.int r), .unset, .unset, .unset, .unset, .unset, .unset] [(.int f2), (.int (2 : Int32)), (.ref b76), (.ref b76)])) rfl rfl (hb hby at_86)
      have N82 := Fr.snoc X82 N80 g_b76
      have K82 := (K80).wr W82 (Or.inr kw_b76)
      have Z82 : n0 ≤ h82.size := Nat.le_trans Z80 (Keep.of_wr W82).1
      have V82 := hset81 _ _ W82
      refine own_st st82 ?_
      show own_Gl _ _ _ _ _ _ _ _ (T82.setTop (mkF m 87 #[.val (.int p0), .val (.int p1), .val (.int p2), .val (.int p3), .val (.int ix), .val (.int f0), .val (.int f1), .val (.int f2), .val (.int (3 : Int32)), .val (.int r), .unset, .unset, .unset, .unset, .unset, .unset] [(.ref b76)]))
      refine own_st (A' := T82.setTop (mkF m 89 #[.val (.int p0), .val (.int p1), .val (.int p2), .val (.int p3), .val (.int ix), .val (.int f0), .val (.int f1), .val (.int f2), .val (.int (3 : Int32)), .val (.int r), .val (.ref b76), .unset, .unset, .unset, .unset, .unset] [])) (fun tg kt => ?_) ?_
      · show Steps p.tables e below (T82.setTop (mkF m 87 #[.val (.int p0), .val (.int p1), .val (.int p2), .val (.int p3), .val (.int ix), .val (.int f0), .val (.int f1), .val (.int f2), .val (.int (3 : Int32)), .val (.int r), .unset, .unset, .unset, .unset, .unset, .unset] [(.ref b76)])) _
        refine XS.astore X82.here hx rfl (hb hby at_87) rfl rfl (l' := #[.val (.int p0), .val (.int p1), .val (.int p2), .val (.int p3), .val (.int ix), .val (.int f0), .val (.int f1), .val (.int f2), .val (.int (3 : Int32)), .val (.int r), .val (.ref b76), .unset, .unset, .unset, .unset, .unset]) rfl ?_
        exact kt
      obtain ⟨T83, h83, X83, e83, E83, A83, D83, -, st83⟩ := newO X82 hx hZ hown (hw _ (List.mem_of_getElem? (i := 2) rfl)) (hw _ (List.mem_of_getElem? (i := 3) rfl)) (hw _ (List.mem_of_getElem? (i := 4) rfl)) e82 (g := (mkF m 89 #[.val (.int p0), .val (.int p1), .val (.int p2), .val (.int p3), .val (.int ix), .val (.int f0), .val (.int f1), .val (.int f2), .val (.int (3 : Int32)), .val (.int r), .val (.ref b76), .unset, .unset, .unset, .unset, .unset] [])) rfl (hb hby at_89) (by decide) (by decide)
      obtain ⟨b83, g83⟩ : ∃ z, z = h82.size := ⟨_, rfl⟩
      rw [← g83] at A83 D83 st83
      have g_b83 : n0 ≤ b83 := Nat.le_trans Z82 (Nat.le_of_eq g83.symm)
      have kw_b83 : h0.size ≤ b83 := Nat.le_trans (K82).1 (Nat.le_of_eq g83.symm)
      have ne_b76_b83 : b76 ≠ b83 := Nat.ne_of_lt (Nat.lt_of_lt_of_le V82.lt (Nat.le_of_eq g83.symm))
      have K83 := (K82).ext E83
      have Z83 : n0 ≤ h83.size := Nat.le_trans Z82 E83.1
      have F_members_b83 : Fld Z h83 b83 "com/example/slotpack/slotpack/IndexSet" "members" "[I" .null := D83 (Or.inr (hw _ (List.mem_of_getElem? (i := 12) rfl))) (ty := (.array .int)) (by decide)
      have F_positions_b83 : Fld Z h83 b83 "com/example/slotpack/slotpack/IndexSet" "positions" "[I" .null := D83 (Or.inr (hw _ (List.mem_of_getElem? (i := 14) rfl))) (ty := (.array .int)) (by decide)
      have F_size_b83 : Fld Z h83 b83 "com/example/slotpack/slotpack/IndexSet" "size" "I" (.int (0 : Int32)) := D83 (Or.inl (hw _ (List.mem_of_getElem? (i := 25) rfl))) (ty := .int) (by decide)
      refine own_st st83 ?_
      show own_Gl _ _ _ _ _ _ _ _ (T83.setTop (mkF m 92 #[.val (.int p0), .val (.int p1), .val (.int p2), .val (.int p3), .val (.int ix), .val (.int f0), .val (.int f1), .val (.int f2), .val (.int (3 : Int32)), .val (.int r), .val (.ref b76), .unset, .unset, .unset, .unset, .unset] [(.ref b83)]))
      refine own_st (A' := T83.setTop (mkF m 94 #[.val (.int p0), .val (.int p1), .val (.int p2), .val (.int p3), .val (.int ix), .val (.int f0), .val (.int f1), .val (.int f2), .val (.int (3 : Int32)), .val (.int r), .val (.ref b76), .unset, .unset, .unset, .unset, .unset] [(.int (3 : Int32)), (.ref b83), (.ref b83)])) (fun tg kt => ?_) ?_
      · show Steps p.tables e below (T83.setTop (mkF m 92 #[.val (.int p0), .val (.int p1), .val (.int p2), .val (.int p3), .val (.int ix), .val (.int f0), .val (.int f1), .val (.int f2), .val (.int (3 : Int32)), .val (.int r), .val (.ref b76), .unset, .unset, .unset, .unset, .unset] [(.ref b83)])) _
        refine XS.dup X83.here hx rfl (hb hby at_92) rfl rfl ?_
        show Steps p.tables e below (T83.setTop (mkF m 93 #[.val (.int p0), .val (.int p1), .val (.int p2), .val (.int p3), .val (.int ix), .val (.int f0), .val (.int f1), .val (.int f2), .val (.int (3 : Int32)), .val (.int r), .val (.ref b76), .unset, .unset, .unset, .unset, .unset] [(.ref b83), (.ref b83)])) _
        refine XS.iconst X83.here hx rfl (hb hby at_93) ?_
        exact kt
      obtain ⟨_, _, ⟨T84, L84, k84, n84⟩, -, X84, ⟨Lc84, hQ84, l84, y84, z84⟩, st84⟩ := X83.specialBack hx (y := (⟨"com/example/slotpack/slotpack/IndexSet", "<init>", "(I)V"⟩ : MethodName)) rfl hown (mvT hZ (hw _ (List.mem_of_getElem? (i := 5) rfl))) (mvT hZ (hw _ (List.mem_of_getElem? (i := 6) rfl))) (mvT hZ (hw _ (List.mem_of_getElem? (i := 7) rfl))) (by decide) (backOf (W := 1) (rm1 l Z a0 hw [] b83 h83 n0 Z83 F_members_b83 F_positions_b83 F_size_b83 A83 g_b83) hZ (hw _ (List.mem_of_getElem? (i := 7) rfl)) (hw _ (List.mem_of_getElem? (i := 4) rfl)) (by decide) (by decide)) (g := (mkF m 94 #[.val (.int p0), .val (.int p1), .val (.int p2), .val (.int p3), .val (.int ix), .val (.int f0), .val (.int f1), .val (.int f2), .val (.int (3 : Int32)), .val (.int r), .val (.ref b76), .unset, .unset, .unset, .unset, .unset] [(.int (3 : Int32)), (.ref b83), (.ref b83)])) rfl (by rw [hml]; rfl) (Steps.refl _) (a := b83) (argsL := [(.int (3 : Int32))]) (rest := [(.ref b83)]) (lenOf own_pd7 rfl) rfl (by show 2 * 0 + _ ≤ _; exact Nat.le_of_eq rfl) (hb hby at_94) (fun _ _ => ⟨rfl, e83, (by decide : 2 + 2 ≤ _), (by decide : 6 + 6 ≤ _)⟩)
      dsimp only [Pt.U, Pt.locs, Pt.cells, Pt.slots] at X84 l84 y84 z84 st84 hQ84
      subst l84 y84 z84
      obtain ⟨rfl, Nq84, am, ap, ka, kp, Kq84, IS84, kam84, kap84, nea⟩ := hQ84
      have N84 := Fr.app N82 Nq84
      have ne_m_am : b76 ≠ am := Nat.ne_of_lt (Nat.lt_of_lt_of_le (V82.ext E83).lt kam84)
      have ne_m_ap : b76 ≠ ap := Nat.ne_of_lt (Nat.lt_of_lt_of_le (V82.ext E83).lt kap84)
      have ne_b_am : b83 ≠ am := Nat.ne_of_lt (Nat.lt_of_lt_of_le A83.lt kam84)
      have ne_b_ap : b83 ≠ ap := Nat.ne_of_lt (Nat.lt_of_lt_of_le A83.lt kap84)
      have geo : own_geo n0 b83 am ap := ⟨g_b83, Nat.le_trans Z83 kam84, Nat.le_trans Z83 kap84, ne_b_am, ne_b_ap, nea⟩
      have Z84 : n0 ≤ T84.heap.size := Nat.le_trans Z83 Kq84.1
      refine own_tr st84 ?_
      show own_Gl _ _ _ _ _ _ _ _ (T84.setTop (mkF m 97 #[.val (.int p0), .val (.int p1), .val (.int p2), .val (.int p3), .val (.int ix), .val (.int f0), .val (.int f1), .val (.int f2), .val (.int (3 : Int32)), .val (.int r), .val (.ref b76), .unset, .unset, .unset, .unset, .unset] [(.ref b83)]))
      refine own_st (A' := T84.setTop (mkF m 103 #[.val (.int p0), .val (.int p1), .val (.int p2), .val (.int p3), .val (.int ix), .val (.int f0), .val (.int f1), .val (.int f2), .val (.int (3 : Int32)), .val (.int r), .val (.ref b76), .val (.ref b83), .unset, .unset, .unset, .unset] [(.int f0), (.ref b83)])) (fun tg kt => ?_) ?_
      · show Steps p.tables e below (T84.setTop (mkF m 97 #[.val (.int p0), .val (.int p1), .val (.int p2), .val (.int p3), .val (.int ix), .val (.int f0), .val (.int f1), .val (.int f2), .val (.int (3 : Int32)), .val (.int r), .val (.ref b76), .unset, .unset, .unset, .unset, .unset] [(.ref b83)])) _
        refine XS.astore X84.here hx rfl (hb hby at_97) rfl rfl (l' := #[.val (.int p0), .val (.int p1), .val (.int p2), .val (.int p3), .val (.int ix), .val (.int f0), .val (.int f1), .val (.int f2), .val (.int (3 : Int32)), .val (.int r), .val (.ref b76), .val (.ref b83), .unset, .unset, .unset, .unset]) rfl ?_
        show Steps p.tables e below (T84.setTop (mkF m 99 #[.val (.int p0), .val (.int p1), .val (.int p2), .val (.int p3), .val (.int ix), .val (.int f0), .val (.int f1), .val (.int f2), .val (.int (3 : Int32)), .val (.int r), .val (.ref b76), .val (.ref b83), .unset, .unset, .unset, .unset] [])) _
        refine XS.aload X84.here hx rfl (hb hby at_99) rfl rfl ?_
        show Steps p.tables e below (T84.setTop (mkF m 101 #[.val (.int p0), .val (.int p1), .val (.int p2), .val (.int p3), .val (.int ix), .val (.int f0), .val (.int f1), .val (.int f2), .val (.int (3 : Int32)), .val (.int r), .val (.ref b76), .val (.ref b83), .unset, .unset, .unset, .unset] [(.ref b83)])) _
        refine XS.iload X84.here hx rfl (hb hby at_101) rfl ?_
        exact kt
      obtain ⟨cq85, kq85, q85a, q85b, q85c⟩ := isOf hZ rfl (A83.keep Kq84)
      obtain ⟨_, _, ⟨T85, L85, k85, n85⟩, -, X85, ⟨Lc85, hQ85, l85, y85, z85⟩, st85⟩ := X84.virtualBack hx (y := (⟨"com/example/slotpack/slotpack/IndexSet", "add", "(I)V"⟩ : MethodName)) (z := (⟨"com/example/slotpack/slotpack/IndexSet", "add", "(I)V"⟩ : MethodName)) hown (mvT hZ (hw _ (List.mem_of_getElem? (i := 19) rfl))) (mvT hZ (hw _ (List.mem_of_getElem? (i := 20) rfl))) (notFace_of_selects (args := #[]) (mvT hZ (hw _ (List.mem_of_getElem? (i := 22) rfl)))) (mvT hZ (hw _ (List.mem_of_getElem? (i := 22) rfl))) (mvT hZ (hw _ (List.mem_of_getElem? (i := 21) rfl))) (by decide) (backOf (W := 0) (rm4 l Z a0 hw [] b83 f0 am ap ka kp own_D0 T84.heap n0 Z84 IS84 geo ok0) hZ (hw _ (List.mem_of_getElem? (i := 23) rfl)) (hw _ (List.mem_of_getElem? (i := 4) rfl)) (by decide) (by decide)) q85a q85c (g := (mkF m 103 #[.val (.int p0), .val (.int p1), .val (.int p2), .val (.int p3), .val (.int ix), .val (.int f0), .val (.int f1), .val (.int f2), .val (.int (3 : Int32)), .val (.int r), .val (.ref b76), .val (.ref b83), .unset, .unset, .unset, .unset] [(.int f0), (.ref b83)])) rfl (by rw [hml]; rfl) (Steps.refl _) (argsL := [(.int f0)]) (rest := []) (lenOf own_pd7 rfl) rfl (by show 2 * 0 + _ ≤ _; exact Nat.le_of_eq rfl) (hb hby at_103) (fun _ _ => ⟨rfl, rfl, (by decide : 4 + 0 ≤ _), (by decide : 12 + 0 ≤ _)⟩)
      dsimp only [Pt.U, Pt.locs, Pt.cells, Pt.slots] at X85 l85 y85 z85 st85 hQ85
      subst l85 y85 z85
      obtain ⟨rfl, Nq85, Kq85, IS85⟩ := hQ85
      have N85 := Fr.app N84 Nq85
      have E85 := IS85.1
      have Fa86 := (((V82.ext E83).keep Kq84 (ninS ne_b76_b83 nin0)).keep Kq85 (ninS ne_b76_b83 (ninS ne_m_am (ninS ne_m_ap nin0))))
      have Z85 : n0 ≤ T85.heap.size := Nat.le_trans Z84 Kq85.1
      refine own_tr st85 ?_
      show own_Gl _ _ _ _ _ _ _ _ (T85.setTop (mkF m 106 #[.val (.int p0), .val (.int p1), .val (.int p2), .val (.int p3), .val (.int ix), .val (.int f0), .val (.int f1), .val (.int f2), .val (.int (3 : Int32)), .val (.int r), .val (.ref b76), .val (.ref b83), .unset, .unset, .unset, .unset] []))
      refine own_st (A' := T85.setTop (mkF m 116 #[.val (.int p0), .val (.int p1), .val (.int p2), .val (.int p3), .val (.int ix), .val (.int f0), .val (.int f1), .val (.int f2), .val (.int (3 : Int32)), .val (.int r), .val (.ref b76), .val (.ref b83), .unset, .unset, .unset, .unset] [(.int f1), (.ref b83)])) (fun tg kt => ?_) ?_
      · show Steps p.tables e below (T85.setTop (mkF m 106 #[.val (.int p0), .val (.int p1), .val (.int p2), .val (.int p3), .val (.int ix), .val (.int f0), .val (.int f1), .val (.int f2), .val (.int (3 : Int32)), .val (.int r), .val (.ref b76), .val (.ref b83), .unset, .unset, .unset, .unset] [])) _
        refine XS.iload X85.here hx rfl (hb hby at_106) rfl ?_
        show Steps p.tables e below (T85.setTop (mkF m 108 #[.val (.int p0), .val (.int p1), .val (.int p2), .val (.int p3), .val (.int ix), .val (.int f0), .val (.int f1), .val (.int f2), .val (.int (3 : Int32)), .val (.int r), .val (.ref b76), .val (.ref b83), .unset, .unset, .unset, .unset] [(.int (3 : Int32))])) _
        refine XS.iconst X85.here hx rfl (hb hby at_108) ?_
        show Steps p.tables e below (T85.setTop (mkF m 109 #[.val (.int p0), .val (.int p1), .val (.int p2), .val (.int p3), .val (.int ix), .val (.int f0), .val (.int f1), .val (.int f2), .val (.int (3 : Int32)), .val (.int r), .val (.ref b76), .val (.ref b83), .unset, .unset, .unset, .unset] [(.int (2 : Int32)), (.int (3 : Int32))])) _
        refine XS.icmpNo X85.here hx rfl (hb hby at_109) rfl (flt ((by decide) : ¬ ((3 : Int32) < (2 : Int32)))).1 ?_
        show Steps p.tables e below (T85.setTop (mkF m 112 #[.val (.int p0), .val (.int p1), .val (.int p2), .val (.int p3), .val (.int ix), .val (.int f0), .val (.int f1), .val (.int f2), .val (.int (3 : Int32)), .val (.int r), .val (.ref b76), .val (.ref b83), .unset, .unset, .unset, .unset] [])) _
        refine XS.aload X85.here hx rfl (hb hby at_112) rfl rfl ?_
        show Steps p.tables e below (T85.setTop (mkF m 114 #[.val (.int p0), .val (.int p1), .val (.int p2), .val (.int p3), .val (.int ix), .val (.int f0), .val (.int f1), .val (.int f2), .val (.int (3 : Int32)), .val (.int r), .val (.ref b76), .val (.ref b83), .unset, .unset, .unset, .unset] [(.ref b83)])) _
        refine XS.iload X85.here hx rfl (hb hby at_114) rfl ?_
        exact kt
      obtain ⟨cq87, kq87, q87a, q87b, q87c⟩ := isOf hZ rfl E85
      obtain ⟨_, _, ⟨T87, L87, k87, n87⟩, -, X87, ⟨Lc87, hQ87, l87, y87, z87⟩, st87⟩ := X85.virtualBack hx (y := (⟨"com/example/slotpack/slotpack/IndexSet", "add", "(I)V"⟩ : MethodName)) (z := (⟨"com/example/slotpack/slotpack/IndexSet", "add", "(I)V"⟩ : MethodName)) hown (mvT hZ (hw _ (List.mem_of_getElem? (i := 19) rfl))) (mvT hZ (hw _ (List.mem_of_getElem? (i := 20) rfl))) (notFace_of_selects (args := #[]) (mvT hZ (hw _ (List.mem_of_getElem? (i := 22) rfl)))) (mvT hZ (hw _ (List.mem_of_getElem? (i := 22) rfl))) (mvT hZ (hw _ (List.mem_of_getElem? (i := 21) rfl))) (by decide) (backOf (W := 0) (rm4 l Z a0 hw [] b83 f1 am ap ka kp (own_add own_D0 f0) T85.heap n0 Z85 IS85 geo ok1) hZ (hw _ (List.mem_of_getElem? (i := 23) rfl)) (hw _ (List.mem_of_getElem? (i := 4) rfl)) (by decide) (by decide)) q87a q87c (g := (mkF m 116 #[.val (.int p0), .val (.int p1), .val (.int p2), .val (.int p3), .val (.int ix), .val (.int f0), .val (.int f1), .val (.int f2), .val (.int (3 : Int32)), .val (.int r), .val (.ref b76), .val (.ref b83), .unset, .unset, .unset, .unset] [(.int f1), (.ref b83)])) rfl (by rw [hml]; rfl) (Steps.refl _) (argsL := [(.int f1)]) (rest := []) (lenOf own_pd7 rfl) rfl (by show 2 * 0 + _ ≤ _; exact Nat.le_of_eq rfl) (hb hby at_116) (fun _ _ => ⟨rfl, rfl, (by decide : 4 + 0 ≤ _), (by decide : 12 + 0 ≤ _)⟩)
      dsimp only [Pt.U, Pt.locs, Pt.cells, Pt.slots] at X87 l87 y87 z87 st87 hQ87
      subst l87 y87 z87
      obtain ⟨rfl, Nq87, Kq87, IS87⟩ := hQ87
      have N87 := Fr.app N85 Nq87
      have E87 := IS87.1
      have Fa88 := (Fa86.keep Kq87 (ninS ne_b76_b83 (ninS ne_m_am (ninS ne_m_ap nin0))))
      have Z87 : n0 ≤ T87.heap.size := Nat.le_trans Z85 Kq87.1
      refine own_tr st87 ?_
      show own_Gl _ _ _ _ _ _ _ _ (T87.setTop (mkF m 119 #[.val (.int p0), .val (.int p1), .val (.int p2), .val (.int p3), .val (.int ix), .val (.int f0), .val (.int f1), .val (.int f2), .val (.int (3 : Int32)), .val (.int r), .val (.ref b76), .val (.ref b83), .unset, .unset, .unset, .unset] []))
      refine own_st (A' := T87.setTop (mkF m 129 #[.val (.int p0), .val (.int p1), .val (.int p2), .val (.int p3), .val (.int ix), .val (.int f0), .val (.int f1), .val (.int f2), .val (.int (3 : Int32)), .val (.int r), .val (.ref b76), .val (.ref b83), .unset, .unset, .unset, .unset] [(.int f2), (.ref b83)])) (fun tg kt => ?_) ?_
      · show Steps p.tables e below (T87.setTop (mkF m 119 #[.val (.int p0), .val (.int p1), .val (.int p2), .val (.int p3), .val (.int ix), .val (.int f0), .val (.int f1), .val (.int f2), .val (.int (3 : Int32)), .val (.int r), .val (.ref b76), .val (.ref b83), .unset, .unset, .unset, .unset] [])) _
        refine XS.iload X87.here hx rfl (hb hby at_119) rfl ?_
        show Steps p.tables e below (T87.setTop (mkF m 121 #[.val (.int p0), .val (.int p1), .val (.int p2), .val (.int p3), .val (.int ix), .val (.int f0), .val (.int f1), .val (.int f2), .val (.int (3 : Int32)), .val (.int r), .val (.ref b76), .val (.ref b83), .unset, .unset, .unset, .unset] [(.int (3 : Int32))])) _
        refine XS.iconst X87.here hx rfl (hb hby at_121) ?_
        show Steps p.tables e below (T87.setTop (mkF m 122 #[.val (.int p0), .val (.int p1), .val (.int p2), .val (.int p3), .val (.int ix), .val (.int f0), .val (.int f1), .val (.int f2), .val (.int (3 : Int32)), .val (.int r), .val (.ref b76), .val (.ref b83), .unset, .unset, .unset, .unset] [(.int (3 : Int32)), (.int (3 : Int32))])) _
        refine XS.icmpNo X87.here hx rfl (hb hby at_122) rfl (flt ((by decide) : ¬ ((3 : Int32) < (3 : Int32)))).1 ?_
        show Steps p.tables e below (T87.setTop (mkF m 125 #[.val (.int p0), .val (.int p1), .val (.int p2), .val (.int p3), .val (.int ix), .val (.int f0), .val (.int f1), .val (.int f2), .val (.int (3 : Int32)), .val (.int r), .val (.ref b76), .val (.ref b83), .unset, .unset, .unset, .unset] [])) _
        refine XS.aload X87.here hx rfl (hb hby at_125) rfl rfl ?_
        show Steps p.tables e below (T87.setTop (mkF m 127 #[.val (.int p0), .val (.int p1), .val (.int p2), .val (.int p3), .val (.int ix), .val (.int f0), .val (.int f1), .val (.int f2), .val (.int (3 : Int32)), .val (.int r), .val (.ref b76), .val (.ref b83), .unset, .unset, .unset, .unset] [(.ref b83)])) _
        refine XS.iload X87.here hx rfl (hb hby at_127) rfl ?_
        exact kt
      obtain ⟨cq89, kq89, q89a, q89b, q89c⟩ := isOf hZ rfl E87
      obtain ⟨_, _, ⟨T89, L89, k89, n89⟩, -, X89, ⟨Lc89, hQ89, l89, y89, z89⟩, st89⟩ := X87.virtualBack hx (y := (⟨"com/example/slotpack/slotpack/IndexSet", "add", "(I)V"⟩ : MethodName)) (z := (⟨"com/example/slotpack/slotpack/IndexSet", "add", "(I)V"⟩ : MethodName)) hown (mvT hZ (hw _ (List.mem_of_getElem? (i := 19) rfl))) (mvT hZ (hw _ (List.mem_of_getElem? (i := 20) rfl))) (notFace_of_selects (args := #[]) (mvT hZ (hw _ (List.mem_of_getElem? (i := 22) rfl)))) (mvT hZ (hw _ (List.mem_of_getElem? (i := 22) rfl))) (mvT hZ (hw _ (List.mem_of_getElem? (i := 21) rfl))) (by decide) (backOf (W := 0) (rm4 l Z a0 hw [] b83 f2 am ap ka kp (own_add (own_add own_D0 f0) f1) T87.heap n0 Z87 IS87 geo ok2) hZ (hw _ (List.mem_of_getElem? (i := 23) rfl)) (hw _ (List.mem_of_getElem? (i := 4) rfl)) (by decide) (by decide)) q89a q89c (g := (mkF m 129 #[.val (.int p0), .val (.int p1), .val (.int p2), .val (.int p3), .val (.int ix), .val (.int f0), .val (.int f1), .val (.int f2), .val (.int (3 : Int32)), .val (.int r), .val (.ref b76), .val (.ref b83), .unset, .unset, .unset, .unset] [(.int f2), (.ref b83)])) rfl (by rw [hml]; rfl) (Steps.refl _) (argsL := [(.int f2)]) (rest := []) (lenOf own_pd7 rfl) rfl (by show 2 * 0 + _ ≤ _; exact Nat.le_of_eq rfl) (hb hby at_129) (fun _ _ => ⟨rfl, rfl, (by decide : 4 + 0 ≤ _), (by decide : 12 + 0 ≤ _)⟩)
      dsimp only [Pt.U, Pt.locs, Pt.cells, Pt.slots] at X89 l89 y89 z89 st89 hQ89
      subst l89 y89 z89
      obtain ⟨rfl, Nq89, Kq89, IS89⟩ := hQ89
      have N89 := Fr.app N87 Nq89
      have E89 := IS89.1
      have Fa90 := (Fa88.keep Kq89 (ninS ne_b76_b83 (ninS ne_m_am (ninS ne_m_ap nin0))))
      have Z89 : n0 ≤ T89.heap.size := Nat.le_trans Z87 Kq89.1
      refine own_tr st89 ?_
      show own_Gl _ _ _ _ _ _ _ _ (T89.setTop (mkF m 132 #[.val (.int p0), .val (.int p1), .val (.int p2), .val (.int p3), .val (.int ix), .val (.int f0), .val (.int f1), .val (.int f2), .val (.int (3 : Int32)), .val (.int r), .val (.ref b76), .val (.ref b83), .unset, .unset, .unset, .unset] []))
      refine own_st (A' := T89.setTop (mkF m 136 #[.val (.int p0), .val (.int p1), .val (.int p2), .val (.int p3), .val (.int ix), .val (.int f0), .val (.int f1), .val (.int f2), .val (.int (3 : Int32)), .val (.int r), .val (.ref b76), .val (.ref b83), .unset, .unset, .unset, .unset] [(.int r), (.ref b76)])) (fun tg kt => ?_) ?_
      · show Steps p.tables e below (T89.setTop (mkF m 132 #[.val (.int p0), .val (.int p1), .val (.int p2), .val (.int p3), .val (.int ix), .val (.int f0), .val (.int f1), .val (.int f2), .val (.int (3 : Int32)), .val (.int r), .val (.ref b76), .val (.ref b83), .unset, .unset, .unset, .unset] [])) _
        refine XS.aload X89.here hx rfl (hb hby at_132) rfl rfl ?_
        show Steps p.tables e below (T89.setTop (mkF m 134 #[.val (.int p0), .val (.int p1), .val (.int p2), .val (.int p3), .val (.int ix), .val (.int f0), .val (.int f1), .val (.int f2), .val (.int (3 : Int32)), .val (.int r), .val (.ref b76), .val (.ref b83), .unset, .unset, .unset, .unset] [(.ref b76)])) _
        refine XS.iload X89.here hx rfl (hb hby at_134) rfl ?_
        exact kt
      obtain ⟨cl91, Ar91, hin91, hat91⟩ := own_ai_ld Fa90 (j := r) okr
      refine own_st (A' := T89.setTop (mkF m 143 #[.val (.int p0), .val (.int p1), .val (.int p2), .val (.int p3), .val (.int ix), .val (.int f0), .val (.int f1), .val (.int f2), .val (.int (3 : Int32)), .val (.int r), .val (.ref b76), .val (.ref b83), .val (.int (own_at (own_put (own_put (own_put [0, 0, 0] (0 : Int32) f0) (1 : Int32) f1) (2 : Int32) f2) r)), .unset, .unset, .unset] [(.int (own_at (own_put (own_put (own_put [0, 0, 0] (0 : Int32) f0) (1 : Int32) f1) (2 : Int32) f2) r)), (.ref b83)])) (fun tg kt => ?_) ?_
      · show Steps p.tables e below (T89.setTop (mkF m 136 #[.val (.int p0), .val (.int p1), .val (.int p2), .val (.int p3), .val (.int ix), .val (.int f0), .val (.int f1), .val (.int f2), .val (.int (3 : Int32)), .val (.int r), .val (.ref b76), .val (.ref b83), .unset, .unset, .unset, .unset] [(.int r), (.ref b76)])) _
        refine X89.iaload hx (j := r) (v := (.int (own_at (own_put (own_put (own_put [0, 0, 0] (0 : Int32) f0) (1 : Int32) f1) (2 : Int32) f2) r))) (own_at_heap rfl Ar91.1) (State.isArrayOf_alike hZ.alike Ar91.2.1) Ar91.2.2 hin91 hat91 (g := (mkF m 136 #[.val (.int p0), .val (.int p1), .val (.int p2), .val (.int p3), .val (.int ix), .val (.int f0), .val (.int f1), .val (.int f2), .val (.int (3 : Int32)), .val (.int r), .val (.ref b76), .val (.ref b83), .unset, .unset, .unset, .unset] [(.int r), (.ref b76)])) rfl rfl (hb hby at_136) _ ?_
        show Steps p.tables e below (T89.setTop (mkF m 137 #[.val (.int p0), .val (.int p1), .val (.int p2), .val (.int p3), .val (.int ix), .val (.int f0), .val (.int f1), .val (.int f2), .val (.int (3 : Int32)), .val (.int r), .val (.ref b76), .val (.ref b83), .unset, .unset, .unset, .unset] [(.int (own_at (own_put (own_put (own_put [0, 0, 0] (0 : Int32) f0) (1 : Int32) f1) (2 : Int32) f2) r))])) _
        refine XS.istore X89.here hx rfl (hb hby at_137) rfl (l' := #[.val (.int p0), .val (.int p1), .val (.int p2), .val (.int p3), .val (.int ix), .val (.int f0), .val (.int f1), .val (.int f2), .val (.int (3 : Int32)), .val (.int r), .val (.ref b76), .val (.ref b83), .val (.int (own_at (own_put (own_put (own_put [0, 0, 0] (0 : Int32) f0) (1 : Int32) f1) (2 : Int32) f2) r)), .unset, .unset, .unset]) rfl ?_
        show Steps p.tables e below (T89.setTop (mkF m 139 #[.val (.int p0), .val (.int p1), .val (.int p2), .val (.int p3), .val (.int ix), .val (.int f0), .val (.int f1), .val (.int f2), .val (.int (3 : Int32)), .val (.int r), .val (.ref b76), .val (.ref b83), .val (.int (own_at (own_put (own_put (own_put [0, 0, 0] (0 : Int32) f0) (1 : Int32) f1) (2 : Int32) f2) r)), .unset, .unset, .unset] [])) _
        refine XS.aload X89.here hx rfl (hb hby at_139) rfl rfl ?_
        show Steps p.tables e below (T89.setTop (mkF m 141 #[.val (.int p0), .val (.int p1), .val (.int p2), .val (.int p3), .val (.int ix), .val (.int f0), .val (.int f1), .val (.int f2), .val (.int (3 : Int32)), .val (.int r), .val (.ref b76), .val (.ref b83), .val (.int (own_at (own_put (own_put (own_put [0, 0, 0] (0 : Int32) f0) (1 : Int32) f1) (2 : Int32) f2) r)), .unset, .unset, .unset] [(.ref b83)])) _
        refine XS.iload X89.here hx rfl (hb hby at_141) rfl ?_
        exact kt
      obtain ⟨cq92, kq92, q92a, q92b, q92c⟩ := isOf hZ rfl E89
      obtain ⟨_, _, ⟨T92, L92, k92, n92⟩, -, X92, ⟨Lc92, hQ92, l92, y92, z92⟩, st92⟩ := X89.virtualBack hx (y := (⟨"com/example/slotpack/slotpack/IndexSet", "remove", "(I)V"⟩ : MethodName)) (z := (⟨"com/example/slotpack/slotpack/IndexSet", "remove", "(I)V"⟩ : MethodName)) hown (mvT hZ (hw _ (List.mem_of_getElem? (i := 26) rfl))) (mvT hZ (hw _ (List.mem_of_getElem? (i := 27) rfl))) (notFace_of_selects (args := #[]) (mvT hZ (hw _ (List.mem_of_getElem? (i := 29) rfl)))) (mvT hZ (hw _ (List.mem_of_getElem? (i := 29) rfl))) (mvT hZ (hw _ (List.mem_of_getElem? (i := 28) rfl))) (by decide) (backOf (W := 0) (rm5 l Z a0 hw [] b83 (own_at (own_put (own_put (own_put [0, 0, 0] (0 : Int32) f0) (1 : Int32) f1) (2 : Int32) f2) r) am ap ka kp (own_add (own_add (own_add own_D0 f0) f1) f2) T89.heap n0 Z89 IS89 geo okR) hZ (hw _ (List.mem_of_getElem? (i := 30) rfl)) (hw _ (List.mem_of_getElem? (i := 4) rfl)) (by decide) (by decide)) q92a q92c (g := (mkF m 143 #[.val (.int p0), .val (.int p1), .val (.int p2), .val (.int p3), .val (.int ix), .val (.int f0), .val (.int f1), .val (.int f2), .val (.int (3 : Int32)), .val (.int r), .val (.ref b76), .val (.ref b83), .val (.int (own_at (own_put (own_put (own_put [0, 0, 0] (0 : Int32) f0) (1 : Int32) f1) (2 : Int32) f2) r)), .unset, .unset, .unset] [(.int (own_at (own_put (own_put (own_put [0, 0, 0] (0 : Int32) f0) (1 : Int32) f1) (2 : Int32) f2) r)), (.ref b83)])) rfl (by rw [hml]; rfl) (Steps.refl _) (argsL := [(.int (own_at (own_put (own_put (own_put [0, 0, 0] (0 : Int32) f0) (1 : Int32) f1) (2 : Int32) f2) r))]) (rest := []) (lenOf own_pd7 rfl) rfl (by show 2 * 0 + _ ≤ _; exact Nat.le_of_eq rfl) (hb hby at_143) (fun _ _ => ⟨rfl, rfl, (by decide : 4 + 0 ≤ _), (by decide : 12 + 0 ≤ _)⟩)
      dsimp only [Pt.U, Pt.locs, Pt.cells, Pt.slots] at X92 l92 y92 z92 st92 hQ92
      subst l92 y92 z92
      obtain ⟨rfl, Nq92, Kq92, IS92⟩ := hQ92
      have N92 := Fr.app N89 Nq92
      have E92 := IS92.1
      have Fa93 := (Fa90.keep Kq92 (ninS ne_b76_b83 (ninS ne_m_am (ninS ne_m_ap nin0))))
      have Z92 : n0 ≤ T92.heap.size := Nat.le_trans Z89 Kq92.1
      refine own_tr st92 ?_
      show own_Gl _ _ _ _ _ _ _ _ (T92.setTop (mkF m 146 #[.val (.int p0), .val (.int p1), .val (.int p2), .val (.int p3), .val (.int ix), .val (.int f0), .val (.int f1), .val (.int f2), .val (.int (3 : Int32)), .val (.int r), .val (.ref b76), .val (.ref b83), .val (.int (own_at (own_put (own_put (own_put [0, 0, 0] (0 : Int32) f0) (1 : Int32) f1) (2 : Int32) f2) r)), .unset, .unset, .unset] []))
      refine own_st (A' := T92.setTop (mkF m 152 #[.val (.int p0), .val (.int p1), .val (.int p2), .val (.int p3), .val (.int ix), .val (.int f0), .val (.int f1), .val (.int f2), .val (.int (3 : Int32)), .val (.int r), .val (.ref b76), .val (.ref b83), .val (.int (own_at (own_put (own_put (own_put [0, 0, 0] (0 : Int32) f0) (1 : Int32) f1) (2 : Int32) f2) r)), .unset, .unset, .unset] [(.int r), (.int (3 : Int32)), (.ref b76)])) (fun tg kt => ?_) ?_
      · show Steps p.tables e below (T92.setTop (mkF m 146 #[.val (.int p0), .val (.int p1), .val (.int p2), .val (.int p3), .val (.int ix), .val (.int f0), .val (.int f1), .val (.int f2), .val (.int (3 : Int32)), .val (.int r), .val (.ref b76), .val (.ref b83), .val (.int (own_at (own_put (own_put (own_put [0, 0, 0] (0 : Int32) f0) (1 : Int32) f1) (2 : Int32) f2) r)), .unset, .unset, .unset] [])) _
        refine XS.aload X92.here hx rfl (hb hby at_146) rfl rfl ?_
        show Steps p.tables e below (T92.setTop (mkF m 148 #[.val (.int p0), .val (.int p1), .val (.int p2), .val (.int p3), .val (.int ix), .val (.int f0), .val (.int f1), .val (.int f2), .val (.int (3 : Int32)), .val (.int r), .val (.ref b76), .val (.ref b83), .val (.int (own_at (own_put (own_put (own_put [0, 0, 0] (0 : Int32) f0) (1 : Int32) f1) (2 : Int32) f2) r)), .unset, .unset, .unset] [(.ref b76)])) _
        refine XS.iload X92.here hx rfl (hb hby at_148) rfl ?_
        show Steps p.tables e below (T92.setTop (mkF m 150 #[.val (.int p0), .val (.int p1), .val (.int p2), .val (.int p3), .val (.int ix), .val (.int f0), .val (.int f1), .val (.int f2), .val (.int (3 : Int32)), .val (.int r), .val (.ref b76), .val (.ref b83), .val (.int (own_at (own_put (own_put (own_put [0, 0, 0] (0 : Int32) f0) (1 : Int32) f1) (2 : Int32) f2) r)), .unset, .unset, .unset] [(.int (3 : Int32)), (.ref b76)])) _
        refine XS.iload X92.here hx rfl (hb hby at_150) rfl ?_
        exact kt
      obtain ⟨_, _, ⟨T94, L94, k94, n94⟩, -, X94, ⟨Lc94, hQ94, l94, y94, z94⟩, st94⟩ := Jvm.LawKit.callS X92 hx (y := (⟨"com/example/slotpack/slotpack/IndexSetRemovePinLaw", "removeAt", "([III)I"⟩ : MethodName)) hown (mvT hZ (hw _ (List.mem_of_getElem? (i := 31) rfl))) (mvT hZ (hw _ (List.mem_of_getElem? (i := 32) rfl))) (mvT hZ (hw _ (List.mem_of_getElem? (i := 33) rfl))) (mvT hZ (hw _ (List.mem_of_getElem? (i := 34) rfl))) (by decide) (backOf (W := 0) (rm6 l Z a0 hw [] b76 (3 : Int32) r k76 (own_put (own_put (own_put [0, 0, 0] (0 : Int32) f0) (1 : Int32) f1) (2 : Int32) f2) T92.heap n0 Z92 Fa93 g_b76 (by decide) okr) hZ (hw _ (List.mem_of_getElem? (i := 34) rfl)) (hw _ (List.mem_of_getElem? (i := 33) rfl)) (by decide) (by decide)) (g := (mkF m 152 #[.val (.int p0), .val (.int p1), .val (.int p2), .val (.int p3), .val (.int ix), .val (.int f0), .val (.int f1), .val (.int f2), .val (.int (3 : Int32)), .val (.int r), .val (.ref b76), .val (.ref b83), .val (.int (own_at (own_put (own_put (own_put [0, 0, 0] (0 : Int32) f0) (1 : Int32) f1) (2 : Int32) f2) r)), .unset, .unset, .unset] [(.int r), (.int (3 : Int32)), (.ref b76)])) rfl (by rw [hml]; rfl) (argsL := [(.ref b76), (.int (3 : Int32)), (.int r)]) (rest := []) (lenOf own_pd8 rfl) rfl (by show 2 * 0 + _ ≤ _; exact Nat.le_of_eq rfl) (hb hby at_152) (fun _ _ => ⟨rfl, rfl, (by decide : 4 + 0 ≤ _), (by decide : 12 + 0 ≤ _)⟩)
      dsimp only [Pt.U, Pt.locs, Pt.cells, Pt.slots] at X94 l94 y94 z94 st94 hQ94
      subst l94 y94 z94
      obtain ⟨rfl, Nq94, Kq94, Vq94⟩ := hQ94
      have N94 := Fr.app N92 Nq94
      have IS94 : own_IS Z T94.heap b83 am ap ka kp (own_del (own_add (own_add (own_add own_D0 f0) f1) f2) (own_at (own_put (own_put (own_put [0, 0, 0] (0 : Int32) f0) (1 : Int32) f1) (2 : Int32) f2) r)) := ⟨IS92.1.keep Kq94, IS92.2.1.keep Kq94 (ninS (Ne.symm ne_b76_b83) nin0), IS92.2.2.1.keep Kq94 (ninS (Ne.symm ne_b76_b83) nin0), IS92.2.2.2.1.keep Kq94 (ninS (Ne.symm ne_b76_b83) nin0), IS92.2.2.2.2.1.keep Kq94 (ninS (Ne.symm ne_m_am) nin0), IS92.2.2.2.2.2.keep Kq94 (ninS (Ne.symm ne_m_ap) nin0)⟩
      have Z94 : n0 ≤ T94.heap.size := Nat.le_trans Z92 Kq94.1
      refine own_st st94 ?_
      show own_Gl _ _ _ _ _ _ _ _ (T94.setTop (mkF m 155 #[.val (.int p0), .val (.int p1), .val (.int p2), .val (.int p3), .val (.int ix), .val (.int f0), .val (.int f1), .val (.int f2), .val (.int (3 : Int32)), .val (.int r), .val (.ref b76), .val (.ref b83), .val (.int (own_at (own_put (own_put (own_put [0, 0, 0] (0 : Int32) f0) (1 : Int32) f1) (2 : Int32) f2) r)), .unset, .unset, .unset] [(.int (2 : Int32))]))
      refine own_st (A' := T94.setTop (mkF m 160 #[.val (.int p0), .val (.int p1), .val (.int p2), .val (.int p3), .val (.int ix), .val (.int f0), .val (.int f1), .val (.int f2), .val (.int (3 : Int32)), .val (.int r), .val (.ref b76), .val (.ref b83), .val (.int (own_at (own_put (own_put (own_put [0, 0, 0] (0 : Int32) f0) (1 : Int32) f1) (2 : Int32) f2) r)), .val (.int (2 : Int32)), .unset, .unset] [(.int (p3 &&& (1 : Int32)))])) (fun tg kt => ?_) ?_
      · show Steps p.tables e below (T94.setTop (mkF m 155 #[.val (.int p0), .val (.int p1), .val (.int p2), .val (.int p3), .val (.int ix), .val (.int f0), .val (.int f1), .val (.int f2), .val (.int (3 : Int32)), .val (.int r), .val (.ref b76), .val (.ref b83), .val (.int (own_at (own_put (own_put (own_put [0, 0, 0] (0 : Int32) f0) (1 : Int32) f1) (2 : Int32) f2) r)), .unset, .unset, .unset] [(.int (2 : Int32))])) _
        refine XS.istore X94.here hx rfl (hb hby at_155) rfl (l' := #[.val (.int p0), .val (.int p1), .val (.int p2), .val (.int p3), .val (.int ix), .val (.int f0), .val (.int f1), .val (.int f2), .val (.int (3 : Int32)), .val (.int r), .val (.ref b76), .val (.ref b83), .val (.int (own_at (own_put (own_put (own_put [0, 0, 0] (0 : Int32) f0) (1 : Int32) f1) (2 : Int32) f2) r)), .val (.int (2 : Int32)), .unset, .unset]) rfl ?_
        show Steps p.tables e below (T94.setTop (mkF m 157 #[.val (.int p0), .val (.int p1), .val (.int p2), .val (.int p3), .val (.int ix), .val (.int f0), .val (.int f1), .val (.int f2), .val (.int (3 : Int32)), .val (.int r), .val (.ref b76), .val (.ref b83), .val (.int (own_at (own_put (own_put (own_put [0, 0, 0] (0 : Int32) f0) (1 : Int32) f1) (2 : Int32) f2) r)), .val (.int (2 : Int32)), .unset, .unset] [])) _
        refine XS.iloadN X94.here hx rfl (hb hby at_157) rfl ?_
        show Steps p.tables e below (T94.setTop (mkF m 158 #[.val (.int p0), .val (.int p1), .val (.int p2), .val (.int p3), .val (.int ix), .val (.int f0), .val (.int f1), .val (.int f2), .val (.int (3 : Int32)), .val (.int r), .val (.ref b76), .val (.ref b83), .val (.int (own_at (own_put (own_put (own_put [0, 0, 0] (0 : Int32) f0) (1 : Int32) f1) (2 : Int32) f2) r)), .val (.int (2 : Int32)), .unset, .unset] [(.int p3)])) _
        refine XS.iconst X94.here hx rfl (hb hby at_158) ?_
        show Steps p.tables e below (T94.setTop (mkF m 159 #[.val (.int p0), .val (.int p1), .val (.int p2), .val (.int p3), .val (.int ix), .val (.int f0), .val (.int f1), .val (.int f2), .val (.int (3 : Int32)), .val (.int r), .val (.ref b76), .val (.ref b83), .val (.int (own_at (own_put (own_put (own_put [0, 0, 0] (0 : Int32) f0) (1 : Int32) f1) (2 : Int32) f2) r)), .val (.int (2 : Int32)), .unset, .unset] [(.int (1 : Int32)), (.int p3)])) _
        refine XS.iand X94.here hx rfl (hb hby at_159) rfl ?_
        exact kt
      by_cases hc160_95 : (p3 &&& (1 : Int32)) = (0 : Int32)
      · refine own_st (A' := T94.setTop (mkF m 207 #[.val (.int p0), .val (.int p1), .val (.int p2), .val (.int p3), .val (.int ix), .val (.int f0), .val (.int f1), .val (.int f2), .val (.int (3 : Int32)), .val (.int r), .val (.ref b76), .val (.ref b83), .val (.int (own_at (own_put (own_put (own_put [0, 0, 0] (0 : Int32) f0) (1 : Int32) f1) (2 : Int32) f2) r)), .val (.int (2 : Int32)), .unset, .unset] [(.ref b83)])) (fun tg kt => ?_) ?_
        · show Steps p.tables e below (T94.setTop (mkF m 160 #[.val (.int p0), .val (.int p1), .val (.int p2), .val (.int p3), .val (.int ix), .val (.int f0), .val (.int f1), .val (.int f2), .val (.int (3 : Int32)), .val (.int r), .val (.ref b76), .val (.ref b83), .val (.int (own_at (own_put (own_put (own_put [0, 0, 0] (0 : Int32) f0) (1 : Int32) f1) (2 : Int32) f2) r)), .val (.int (2 : Int32)), .unset, .unset] [(.int (p3 &&& (1 : Int32)))])) _
          refine XS.ifYes X94.here hx rfl (pc0 := 160) (pc' := 205) rfl (hb hby at_160) rfl ((if0 _ _).trans (teq hc160_95).1) (by decide) (by decide) ?_
          show Steps p.tables e below (T94.setTop (mkF m 205 #[.val (.int p0), .val (.int p1), .val (.int p2), .val (.int p3), .val (.int ix), .val (.int f0), .val (.int f1), .val (.int f2), .val (.int (3 : Int32)), .val (.int r), .val (.ref b76), .val (.ref b83), .val (.int (own_at (own_put (own_put (own_put [0, 0, 0] (0 : Int32) f0) (1 : Int32) f1) (2 : Int32) f2) r)), .val (.int (2 : Int32)), .unset, .unset] [])) _
          refine XS.aload X94.here hx rfl (hb hby at_205) rfl rfl ?_
          exact kt
        obtain ⟨cq96, kq96, q96a, q96b, q96c⟩ := isOf hZ rfl (E92.keep Kq94)
        obtain ⟨_, _, ⟨T96, L96, k96, n96⟩, -, X96, ⟨Lc96, hQ96, l96, y96, z96⟩, st96⟩ := X94.virtualBack hx (y := (⟨"com/example/slotpack/slotpack/IndexSet", "size", "()I"⟩ : MethodName)) (z := (⟨"com/example/slotpack/slotpack/IndexSet", "size", "()I"⟩ : MethodName)) hown (mvT hZ (hw _ (List.mem_of_getElem? (i := 35) rfl))) (mvT hZ (hw _ (List.mem_of_getElem? (i := 36) rfl))) (notFace_of_selects (args := #[]) (mvT hZ (hw _ (List.mem_of_getElem? (i := 38) rfl)))) (mvT hZ (hw _ (List.mem_of_getElem? (i := 38) rfl))) (mvT hZ (hw _ (List.mem_of_getElem? (i := 37) rfl))) (by decide) (backOf (W := 0) (rm7 l Z a0 hw [] b83   am ap ka kp (own_del (own_add (own_add (own_add own_D0 f0) f1) f2) (own_at (own_put (own_put (own_put [0, 0, 0] (0 : Int32) f0) (1 : Int32) f1) (2 : Int32) f2) r)) T94.heap n0 Z94 IS94 geo ) hZ (hw _ (List.mem_of_getElem? (i := 39) rfl)) (hw _ (List.mem_of_getElem? (i := 4) rfl)) (by decide) (by decide)) q96a q96c (g := (mkF m 207 #[.val (.int p0), .val (.int p1), .val (.int p2), .val (.int p3), .val (.int ix), .val (.int f0), .val (.int f1), .val (.int f2), .val (.int (3 : Int32)), .val (.int r), .val (.ref b76), .val (.ref b83), .val (.int (own_at (own_put (own_put (own_put [0, 0, 0] (0 : Int32) f0) (1 : Int32) f1) (2 : Int32) f2) r)), .val (.int (2 : Int32)), .unset, .unset] [(.ref b83)])) rfl (by rw [hml]; rfl) (Steps.refl _) (argsL := []) (rest := []) (lenOf own_pd9 rfl) rfl (by show 2 * 0 + _ ≤ _; exact Nat.le_of_eq rfl) (hb hby at_207) (fun _ _ => ⟨rfl, rfl, (by decide : 4 + 0 ≤ _), (by decide : 12 + 0 ≤ _)⟩)
        dsimp only [Pt.U, Pt.locs, Pt.cells, Pt.slots] at X96 l96 y96 z96 st96 hQ96
        subst l96 y96 z96
        obtain ⟨rfl, Nq96, eq96⟩ := hQ96
        have N96 := Fr.app N94 Nq96
        refine own_tr st96 ?_
        show own_Gl _ _ _ _ _ _ _ _ (T96.setTop (mkF m 210 #[.val (.int p0), .val (.int p1), .val (.int p2), .val (.int p3), .val (.int ix), .val (.int f0), .val (.int f1), .val (.int f2), .val (.int (3 : Int32)), .val (.int r), .val (.ref b76), .val (.ref b83), .val (.int (own_at (own_put (own_put (own_put [0, 0, 0] (0 : Int32) f0) (1 : Int32) f1) (2 : Int32) f2) r)), .val (.int (2 : Int32)), .unset, .unset] [(.int (own_del (own_add (own_add (own_add own_D0 f0) f1) f2) (own_at (own_put (own_put (own_put [0, 0, 0] (0 : Int32) f0) (1 : Int32) f1) (2 : Int32) f2) r)).2.2)]))
        refine own_st (A' := T96.setTop (mkF m 222 #[.val (.int p0), .val (.int p1), .val (.int p2), .val (.int p3), .val (.int ix), .val (.int f0), .val (.int f1), .val (.int f2), .val (.int (3 : Int32)), .val (.int r), .val (.ref b76), .val (.ref b83), .val (.int (own_at (own_put (own_put (own_put [0, 0, 0] (0 : Int32) f0) (1 : Int32) f1) (2 : Int32) f2) r)), .val (.int (2 : Int32)), .val (.int (1 : Int32)), .unset] [])) (fun tg kt => ?_) ?_
        · show Steps p.tables e below (T96.setTop (mkF m 210 #[.val (.int p0), .val (.int p1), .val (.int p2), .val (.int p3), .val (.int ix), .val (.int f0), .val (.int f1), .val (.int f2), .val (.int (3 : Int32)), .val (.int r), .val (.ref b76), .val (.ref b83), .val (.int (own_at (own_put (own_put (own_put [0, 0, 0] (0 : Int32) f0) (1 : Int32) f1) (2 : Int32) f2) r)), .val (.int (2 : Int32)), .unset, .unset] [(.int (own_del (own_add (own_add (own_add own_D0 f0) f1) f2) (own_at (own_put (own_put (own_put [0, 0, 0] (0 : Int32) f0) (1 : Int32) f1) (2 : Int32) f2) r)).2.2)])) _
          refine XS.iload X96.here hx rfl (hb hby at_210) rfl ?_
          show Steps p.tables e below (T96.setTop (mkF m 212 #[.val (.int p0), .val (.int p1), .val (.int p2), .val (.int p3), .val (.int ix), .val (.int f0), .val (.int f1), .val (.int f2), .val (.int (3 : Int32)), .val (.int r), .val (.ref b76), .val (.ref b83), .val (.int (own_at (own_put (own_put (own_put [0, 0, 0] (0 : Int32) f0) (1 : Int32) f1) (2 : Int32) f2) r)), .val (.int (2 : Int32)), .unset, .unset] [(.int (2 : Int32)), (.int (own_del (own_add (own_add (own_add own_D0 f0) f1) f2) (own_at (own_put (own_put (own_put [0, 0, 0] (0 : Int32) f0) (1 : Int32) f1) (2 : Int32) f2) r)).2.2)])) _
          refine XS.icmpNo X96.here hx rfl (hb hby at_212) rfl (teq (okF.1 : (own_del (own_add (own_add (own_add own_D0 f0) f1) f2) (own_at (own_put (own_put (own_put [0, 0, 0] (0 : Int32) f0) (1 : Int32) f1) (2 : Int32) f2) r)).2.2 = (2 : Int32))).2 ?_
          show Steps p.tables e below (T96.setTop (mkF m 215 #[.val (.int p0), .val (.int p1), .val (.int p2), .val (.int p3), .val (.int ix), .val (.int f0), .val (.int f1), .val (.int f2), .val (.int (3 : Int32)), .val (.int r), .val (.ref b76), .val (.ref b83), .val (.int (own_at (own_put (own_put (own_put [0, 0, 0] (0 : Int32) f0) (1 : Int32) f1) (2 : Int32) f2) r)), .val (.int (2 : Int32)), .unset, .unset] [])) _
          refine XS.iconst X96.here hx rfl (hb hby at_215) ?_
          show Steps p.tables e below (T96.setTop (mkF m 216 #[.val (.int p0), .val (.int p1), .val (.int p2), .val (.int p3), .val (.int ix), .val (.int f0), .val (.int f1), .val (.int f2), .val (.int (3 : Int32)), .val (.int r), .val (.ref b76), .val (.ref b83), .val (.int (own_at (own_put (own_put (own_put [0, 0, 0] (0 : Int32) f0) (1 : Int32) f1) (2 : Int32) f2) r)), .val (.int (2 : Int32)), .unset, .unset] [(.int (1 : Int32))])) _
          refine XS.goto X96.here hx rfl (pc0 := 216) (pc' := 220) rfl (hb hby at_216) (by decide) (by decide) ?_
          show Steps p.tables e below (T96.setTop (mkF m 220 #[.val (.int p0), .val (.int p1), .val (.int p2), .val (.int p3), .val (.int ix), .val (.int f0), .val (.int f1), .val (.int f2), .val (.int (3 : Int32)), .val (.int r), .val (.ref b76), .val (.ref b83), .val (.int (own_at (own_put (own_put (own_put [0, 0, 0] (0 : Int32) f0) (1 : Int32) f1) (2 : Int32) f2) r)), .val (.int (2 : Int32)), .unset, .unset] [(.int (1 : Int32))])) _
          refine XS.istore X96.here hx rfl (hb hby at_220) rfl (l' := #[.val (.int p0), .val (.int p1), .val (.int p2), .val (.int p3), .val (.int ix), .val (.int f0), .val (.int f1), .val (.int f2), .val (.int (3 : Int32)), .val (.int r), .val (.ref b76), .val (.ref b83), .val (.int (own_at (own_put (own_put (own_put [0, 0, 0] (0 : Int32) f0) (1 : Int32) f1) (2 : Int32) f2) r)), .val (.int (2 : Int32)), .val (.int (1 : Int32)), .unset]) rfl ?_
          exact kt
        exact tlE _ _ _ _ _ _ _ _ b76 b83 am ap _ ka kp (own_del (own_add (own_add (own_add own_D0 f0) f1) f2) (own_at (own_put (own_put (own_put [0, 0, 0] (0 : Int32) f0) (1 : Int32) f1) (2 : Int32) f2) r)) (2 : Int32) _ T96 _ _ X96 eq96 N96 Z94 IS94 Vq94 geo g_b76 okF
      · refine own_st (A' := T94.setTop (mkF m 178 #[.val (.int p0), .val (.int p1), .val (.int p2), .val (.int p3), .val (.int ix), .val (.int f0), .val (.int f1), .val (.int f2), .val (.int (3 : Int32)), .val (.int r), .val (.ref b76), .val (.ref b83), .val (.int (own_at (own_put (own_put (own_put [0, 0, 0] (0 : Int32) f0) (1 : Int32) f1) (2 : Int32) f2) r)), .val (.int (2 : Int32)), .unset, .unset] [(.int ((((p3.toUInt32 >>> ((1 : Int32) &&& 31).toUInt32).toInt32) &&& (2147483647 : Int32)) % (2 : Int32)))])) (fun tg kt => ?_) ?_
        · show Steps p.tables e below (T94.setTop (mkF m 160 #[.val (.int p0), .val (.int p1), .val (.int p2), .val (.int p3), .val (.int ix), .val (.int f0), .val (.int f1), .val (.int f2), .val (.int (3 : Int32)), .val (.int r), .val (.ref b76), .val (.ref b83), .val (.int (own_at (own_put (own_put (own_put [0, 0, 0] (0 : Int32) f0) (1 : Int32) f1) (2 : Int32) f2) r)), .val (.int (2 : Int32)), .unset, .unset] [(.int (p3 &&& (1 : Int32)))])) _
          refine XS.ifNo X94.here hx rfl (hb hby at_160) rfl ((if0 _ _).trans (feq hc160_95).1) ?_
          show Steps p.tables e below (T94.setTop (mkF m 163 #[.val (.int p0), .val (.int p1), .val (.int p2), .val (.int p3), .val (.int ix), .val (.int f0), .val (.int f1), .val (.int f2), .val (.int (3 : Int32)), .val (.int r), .val (.ref b76), .val (.ref b83), .val (.int (own_at (own_put (own_put (own_put [0, 0, 0] (0 : Int32) f0) (1 : Int32) f1) (2 : Int32) f2) r)), .val (.int (2 : Int32)), .unset, .unset] [])) _
          refine XS.iload X94.here hx rfl (hb hby at_163) rfl ?_
          show Steps p.tables e below (T94.setTop (mkF m 165 #[.val (.int p0), .val (.int p1), .val (.int p2), .val (.int p3), .val (.int ix), .val (.int f0), .val (.int f1), .val (.int f2), .val (.int (3 : Int32)), .val (.int r), .val (.ref b76), .val (.ref b83), .val (.int (own_at (own_put (own_put (own_put [0, 0, 0] (0 : Int32) f0) (1 : Int32) f1) (2 : Int32) f2) r)), .val (.int (2 : Int32)), .unset, .unset] [(.int (2 : Int32))])) _
          refine XS.iconst X94.here hx rfl (hb hby at_165) ?_
          show Steps p.tables e below (T94.setTop (mkF m 166 #[.val (.int p0), .val (.int p1), .val (.int p2), .val (.int p3), .val (.int ix), .val (.int f0), .val (.int f1), .val (.int f2), .val (.int (3 : Int32)), .val (.int r), .val (.ref b76), .val (.ref b83), .val (.int (own_at (own_put (own_put (own_put [0, 0, 0] (0 : Int32) f0) (1 : Int32) f1) (2 : Int32) f2) r)), .val (.int (2 : Int32)), .unset, .unset] [(.int (1 : Int32)), (.int (2 : Int32))])) _
          refine XS.icmpNo X94.here hx rfl (hb hby at_166) rfl (flt ((by decide) : ¬ ((2 : Int32) < (1 : Int32)))).1 ?_
          show Steps p.tables e below (T94.setTop (mkF m 169 #[.val (.int p0), .val (.int p1), .val (.int p2), .val (.int p3), .val (.int ix), .val (.int f0), .val (.int f1), .val (.int f2), .val (.int (3 : Int32)), .val (.int r), .val (.ref b76), .val (.ref b83), .val (.int (own_at (own_put (own_put (own_put [0, 0, 0] (0 : Int32) f0) (1 : Int32) f1) (2 : Int32) f2) r)), .val (.int (2 : Int32)), .unset, .unset] [])) _
          refine XS.iloadN X94.here hx rfl (hb hby at_169) rfl ?_
          show Steps p.tables e below (T94.setTop (mkF m 170 #[.val (.int p0), .val (.int p1), .val (.int p2), .val (.int p3), .val (.int ix), .val (.int f0), .val (.int f1), .val (.int f2), .val (.int (3 : Int32)), .val (.int r), .val (.ref b76), .val (.ref b83), .val (.int (own_at (own_put (own_put (own_put [0, 0, 0] (0 : Int32) f0) (1 : Int32) f1) (2 : Int32) f2) r)), .val (.int (2 : Int32)), .unset, .unset] [(.int p3)])) _
          refine XS.iconst X94.here hx rfl (hb hby at_170) ?_
          show Steps p.tables e below (T94.setTop (mkF m 171 #[.val (.int p0), .val (.int p1), .val (.int p2), .val (.int p3), .val (.int ix), .val (.int f0), .val (.int f1), .val (.int f2), .val (.int (3 : Int32)), .val (.int r), .val (.ref b76), .val (.ref b83), .val (.int (own_at (own_put (own_put (own_put [0, 0, 0] (0 : Int32) f0) (1 : Int32) f1) (2 : Int32) f2) r)), .val (.int (2 : Int32)), .unset, .unset] [(.int (1 : Int32)), (.int p3)])) _
          refine XS.iushr X94.here hx rfl (hb hby at_171) rfl ?_
          show Steps p.tables e below (T94.setTop (mkF m 172 #[.val (.int p0), .val (.int p1), .val (.int p2), .val (.int p3), .val (.int ix), .val (.int f0), .val (.int f1), .val (.int f2), .val (.int (3 : Int32)), .val (.int r), .val (.ref b76), .val (.ref b83), .val (.int (own_at (own_put (own_put (own_put [0, 0, 0] (0 : Int32) f0) (1 : Int32) f1) (2 : Int32) f2) r)), .val (.int (2 : Int32)), .unset, .unset] [(.int ((p3.toUInt32 >>> ((1 : Int32) &&& 31).toUInt32).toInt32))])) _
          refine X94.ldcInt hx hown (mvT hZ (hw _ (List.mem_of_getElem? (i := 0) rfl))) (g := (mkF m 172 #[.val (.int p0), .val (.int p1), .val (.int p2), .val (.int p3), .val (.int ix), .val (.int f0), .val (.int f1), .val (.int f2), .val (.int (3 : Int32)), .val (.int r), .val (.ref b76), .val (.ref b83), .val (.int (own_at (own_put (own_put (own_put [0, 0, 0] (0 : Int32) f0) (1 : Int32) f1) (2 : Int32) f2) r)), .val (.int (2 : Int32)), .unset, .unset] [(.int ((p3.toUInt32 >>> ((1 : Int32) &&& 31).toUInt32).toInt32))])) rfl (hb hby at_172) _ ?_
          show Steps p.tables e below (T94.setTop (mkF m 174 #[.val (.int p0), .val (.int p1), .val (.int p2), .val (.int p3), .val (.int ix), .val (.int f0), .val (.int f1), .val (.int f2), .val (.int (3 : Int32)), .val (.int r), .val (.ref b76), .val (.ref b83), .val (.int (own_at (own_put (own_put (own_put [0, 0, 0] (0 : Int32) f0) (1 : Int32) f1) (2 : Int32) f2) r)), .val (.int (2 : Int32)), .unset, .unset] [(.int (2147483647 : Int32)), (.int ((p3.toUInt32 >>> ((1 : Int32) &&& 31).toUInt32).toInt32))])) _
          refine XS.iand X94.here hx rfl (hb hby at_174) rfl ?_
          show Steps p.tables e below (T94.setTop (mkF m 175 #[.val (.int p0), .val (.int p1), .val (.int p2), .val (.int p3), .val (.int ix), .val (.int f0), .val (.int f1), .val (.int f2), .val (.int (3 : Int32)), .val (.int r), .val (.ref b76), .val (.ref b83), .val (.int (own_at (own_put (own_put (own_put [0, 0, 0] (0 : Int32) f0) (1 : Int32) f1) (2 : Int32) f2) r)), .val (.int (2 : Int32)), .unset, .unset] [(.int (((p3.toUInt32 >>> ((1 : Int32) &&& 31).toUInt32).toInt32) &&& (2147483647 : Int32)))])) _
          refine XS.iload X94.here hx rfl (hb hby at_175) rfl ?_
          show Steps p.tables e below (T94.setTop (mkF m 177 #[.val (.int p0), .val (.int p1), .val (.int p2), .val (.int p3), .val (.int ix), .val (.int f0), .val (.int f1), .val (.int f2), .val (.int (3 : Int32)), .val (.int r), .val (.ref b76), .val (.ref b83), .val (.int (own_at (own_put (own_put (own_put [0, 0, 0] (0 : Int32) f0) (1 : Int32) f1) (2 : Int32) f2) r)), .val (.int (2 : Int32)), .unset, .unset] [(.int (2 : Int32)), (.int (((p3.toUInt32 >>> ((1 : Int32) &&& 31).toUInt32).toInt32) &&& (2147483647 : Int32)))])) _
          refine iremM X94 hx rfl (hb hby at_177) rfl (by decide) ?_
          exact kt
        obtain ⟨t, ht⟩ : ∃ z, z = ((((p3.toUInt32 >>> ((1 : Int32) &&& 31).toUInt32).toInt32) &&& (2147483647 : Int32)) % (2 : Int32)) := ⟨_, rfl⟩
        rw [← ht]
        show own_Gl _ _ _ _ _ _ _ _ (T94.setTop (mkF m 178 #[.val (.int p0), .val (.int p1), .val (.int p2), .val (.int p3), .val (.int ix), .val (.int f0), .val (.int f1), .val (.int f2), .val (.int (3 : Int32)), .val (.int r), .val (.ref b76), .val (.ref b83), .val (.int (own_at (own_put (own_put (own_put [0, 0, 0] (0 : Int32) f0) (1 : Int32) f1) (2 : Int32) f2) r)), .val (.int (2 : Int32)), .unset, .unset] [(.int t)]))
        have bt := own_rem ((p3.toUInt32 >>> ((1 : Int32) &&& 31).toUInt32).toInt32) 2 2 (by decide) (by decide)
        rw [← ht] at bt
        have htt := own_split2 bt.1 bt.2
        obtain ⟨okt, okR2, okF2⟩ := own_k3b f0 f1 f2 hp r hrr t htt
        refine own_st (A' := T94.setTop (mkF m 184 #[.val (.int p0), .val (.int p1), .val (.int p2), .val (.int p3), .val (.int ix), .val (.int f0), .val (.int f1), .val (.int f2), .val (.int (3 : Int32)), .val (.int r), .val (.ref b76), .val (.ref b83), .val (.int (own_at (own_put (own_put (own_put [0, 0, 0] (0 : Int32) f0) (1 : Int32) f1) (2 : Int32) f2) r)), .val (.int (2 : Int32)), .val (.int t), .unset] [(.int t), (.ref b76)])) (fun tg kt => ?_) ?_
        · show Steps p.tables e below (T94.setTop (mkF m 178 #[.val (.int p0), .val (.int p1), .val (.int p2), .val (.int p3), .val (.int ix), .val (.int f0), .val (.int f1), .val (.int f2), .val (.int (3 : Int32)), .val (.int r), .val (.ref b76), .val (.ref b83), .val (.int (own_at (own_put (own_put (own_put [0, 0, 0] (0 : Int32) f0) (1 : Int32) f1) (2 : Int32) f2) r)), .val (.int (2 : Int32)), .unset, .unset] [(.int t)])) _
          refine XS.istore X94.here hx rfl (hb hby at_178) rfl (l' := #[.val (.int p0), .val (.int p1), .val (.int p2), .val (.int p3), .val (.int ix), .val (.int f0), .val (.int f1), .val (.int f2), .val (.int (3 : Int32)), .val (.int r), .val (.ref b76), .val (.ref b83), .val (.int (own_at (own_put (own_put (own_put [0, 0, 0] (0 : Int32) f0) (1 : Int32) f1) (2 : Int32) f2) r)), .val (.int (2 : Int32)), .val (.int t), .unset]) rfl ?_
          show Steps p.tables e below (T94.setTop (mkF m 180 #[.val (.int p0), .val (.int p1), .val (.int p2), .val (.int p3), .val (.int ix), .val (.int f0), .val (.int f1), .val (.int f2), .val (.int (3 : Int32)), .val (.int r), .val (.ref b76), .val (.ref b83), .val (.int (own_at (own_put (own_put (own_put [0, 0, 0] (0 : Int32) f0) (1 : Int32) f1) (2 : Int32) f2) r)), .val (.int (2 : Int32)), .val (.int t), .unset] [])) _
          refine XS.aload X94.here hx rfl (hb hby at_180) rfl rfl ?_
          show Steps p.tables e below (T94.setTop (mkF m 182 #[.val (.int p0), .val (.int p1), .val (.int p2), .val (.int p3), .val (.int ix), .val (.int f0), .val (.int f1), .val (.int f2), .val (.int (3 : Int32)), .val (.int r), .val (.ref b76), .val (.ref b83), .val (.int (own_at (own_put (own_put (own_put [0, 0, 0] (0 : Int32) f0) (1 : Int32) f1) (2 : Int32) f2) r)), .val (.int (2 : Int32)), .val (.int t), .unset] [(.ref b76)])) _
          refine XS.iload X94.here hx rfl (hb hby at_182) rfl ?_
          exact kt
        obtain ⟨cl97, Ar97, hin97, hat97⟩ := own_ai_ld Vq94 (j := t) okt
        refine own_st (A' := T94.setTop (mkF m 191 #[.val (.int p0), .val (.int p1), .val (.int p2), .val (.int p3), .val (.int ix), .val (.int f0), .val (.int f1), .val (.int f2), .val (.int (3 : Int32)), .val (.int r), .val (.ref b76), .val (.ref b83), .val (.int (own_at (own_put (own_put (own_put [0, 0, 0] (0 : Int32) f0) (1 : Int32) f1) (2 : Int32) f2) r)), .val (.int (2 : Int32)), .val (.int t), .val (.int (own_at (own_rat (own_put (own_put (own_put [0, 0, 0] (0 : Int32) f0) (1 : Int32) f1) (2 : Int32) f2) (3 : Int32) r) t))] [(.int (own_at (own_rat (own_put (own_put (own_put [0, 0, 0] (0 : Int32) f0) (1 : Int32) f1) (2 : Int32) f2) (3 : Int32) r) t)), (.ref b83)])) (fun tg kt => ?_) ?_
        · show Steps p.tables e below (T94.setTop (mkF m 184 #[.val (.int p0), .val (.int p1), .val (.int p2), .val (.int p3), .val (.int ix), .val (.int f0), .val (.int f1), .val (.int f2), .val (.int (3 : Int32)), .val (.int r), .val (.ref b76), .val (.ref b83), .val (.int (own_at (own_put (own_put (own_put [0, 0, 0] (0 : Int32) f0) (1 : Int32) f1) (2 : Int32) f2) r)), .val (.int (2 : Int32)), .val (.int t), .unset] [(.int t), (.ref b76)])) _
          refine X94.iaload hx (j := t) (v := (.int (own_at (own_rat (own_put (own_put (own_put [0, 0, 0] (0 : Int32) f0) (1 : Int32) f1) (2 : Int32) f2) (3 : Int32) r) t))) (own_at_heap rfl Ar97.1) (State.isArrayOf_alike hZ.alike Ar97.2.1) Ar97.2.2 hin97 hat97 (g := (mkF m 184 #[.val (.int p0), .val (.int p1), .val (.int p2), .val (.int p3), .val (.int ix), .val (.int f0), .val (.int f1), .val (.int f2), .val (.int (3 : Int32)), .val (.int r), .val (.ref b76), .val (.ref b83), .val (.int (own_at (own_put (own_put (own_put [0, 0, 0] (0 : Int32) f0) (1 : Int32) f1) (2 : Int32) f2) r)), .val (.int (2 : Int32)), .val (.int t), .unset] [(.int t), (.ref b76)])) rfl rfl (hb hby at_184) _ ?_
          show Steps p.tables e below (T94.setTop (mkF m 185 #[.val (.int p0), .val (.int p1), .val (.int p2), .val (.int p3), .val (.int ix), .val (.int f0), .val (.int f1), .val (.int f2), .val (.int (3 : Int32)), .val (.int r), .val (.ref b76), .val (.ref b83), .val (.int (own_at (own_put (own_put (own_put [0, 0, 0] (0 : Int32) f0) (1 : Int32) f1) (2 : Int32) f2) r)), .val (.int (2 : Int32)), .val (.int t), .unset] [(.int (own_at (own_rat (own_put (own_put (own_put [0, 0, 0] (0 : Int32) f0) (1 : Int32) f1) (2 : Int32) f2) (3 : Int32) r) t))])) _
          refine XS.istore X94.here hx rfl (hb hby at_185) rfl (l' := #[.val (.int p0), .val (.int p1), .val (.int p2), .val (.int p3), .val (.int ix), .val (.int f0), .val (.int f1), .val (.int f2), .val (.int (3 : Int32)), .val (.int r), .val (.ref b76), .val (.ref b83), .val (.int (own_at (own_put (own_put (own_put [0, 0, 0] (0 : Int32) f0) (1 : Int32) f1) (2 : Int32) f2) r)), .val (.int (2 : Int32)), .val (.int t), .val (.int (own_at (own_rat (own_put (own_put (own_put [0, 0, 0] (0 : Int32) f0) (1 : Int32) f1) (2 : Int32) f2) (3 : Int32) r) t))]) rfl ?_
          show Steps p.tables e below (T94.setTop (mkF m 187 #[.val (.int p0), .val (.int p1), .val (.int p2), .val (.int p3), .val (.int ix), .val (.int f0), .val (.int f1), .val (.int f2), .val (.int (3 : Int32)), .val (.int r), .val (.ref b76), .val (.ref b83), .val (.int (own_at (own_put (own_put (own_put [0, 0, 0] (0 : Int32) f0) (1 : Int32) f1) (2 : Int32) f2) r)), .val (.int (2 : Int32)), .val (.int t), .val (.int (own_at (own_rat (own_put (own_put (own_put [0, 0, 0] (0 : Int32) f0) (1 : Int32) f1) (2 : Int32) f2) (3 : Int32) r) t))] [])) _
          refine XS.aload X94.here hx rfl (hb hby at_187) rfl rfl ?_
          show Steps p.tables e below (T94.setTop (mkF m 189 #[.val (.int p0), .val (.int p1), .val (.int p2), .val (.int p3), .val (.int ix), .val (.int f0), .val (.int f1), .val (.int f2), .val (.int (3 : Int32)), .val (.int r), .val (.ref b76), .val (.ref b83), .val (.int (own_at (own_put (own_put (own_put [0, 0, 0] (0 : Int32) f0) (1 : Int32) f1) (2 : Int32) f2) r)), .val (.int (2 : Int32)), .val (.int t), .val (.int (own_at (own_rat (own_put (own_put (own_put [0, 0, 0] (0 : Int32) f0) (1 : Int32) f1) (2 : Int32) f2) (3 : Int32) r) t))] [(.ref b83)])) _
          refine XS.iload X94.here hx rfl (hb hby at_189) rfl ?_
          exact kt
        obtain ⟨cq98, kq98, q98a, q98b, q98c⟩ := isOf hZ rfl (E92.keep Kq94)
        obtain ⟨_, _, ⟨T98, L98, k98, n98⟩, -, X98, ⟨Lc98, hQ98, l98, y98, z98⟩, st98⟩ := X94.virtualBack hx (y := (⟨"com/example/slotpack/slotpack/IndexSet", "remove", "(I)V"⟩ : MethodName)) (z := (⟨"com/example/slotpack/slotpack/IndexSet", "remove", "(I)V"⟩ : MethodName)) hown (mvT hZ (hw _ (List.mem_of_getElem? (i := 26) rfl))) (mvT hZ (hw _ (List.mem_of_getElem? (i := 27) rfl))) (notFace_of_selects (args := #[]) (mvT hZ (hw _ (List.mem_of_getElem? (i := 29) rfl)))) (mvT hZ (hw _ (List.mem_of_getElem? (i := 29) rfl))) (mvT hZ (hw _ (List.mem_of_getElem? (i := 28) rfl))) (by decide) (backOf (W := 0) (rm5 l Z a0 hw [] b83 (own_at (own_rat (own_put (own_put (own_put [0, 0, 0] (0 : Int32) f0) (1 : Int32) f1) (2 : Int32) f2) (3 : Int32) r) t) am ap ka kp (own_del (own_add (own_add (own_add own_D0 f0) f1) f2) (own_at (own_put (own_put (own_put [0, 0, 0] (0 : Int32) f0) (1 : Int32) f1) (2 : Int32) f2) r)) T94.heap n0 Z94 IS94 geo okR2) hZ (hw _ (List.mem_of_getElem? (i := 30) rfl)) (hw _ (List.mem_of_getElem? (i := 4) rfl)) (by decide) (by decide)) q98a q98c (g := (mkF m 191 #[.val (.int p0), .val (.int p1), .val (.int p2), .val (.int p3), .val (.int ix), .val (.int f0), .val (.int f1), .val (.int f2), .val (.int (3 : Int32)), .val (.int r), .val (.ref b76), .val (.ref b83), .val (.int (own_at (own_put (own_put (own_put [0, 0, 0] (0 : Int32) f0) (1 : Int32) f1) (2 : Int32) f2) r)), .val (.int (2 : Int32)), .val (.int t), .val (.int (own_at (own_rat (own_put (own_put (own_put [0, 0, 0] (0 : Int32) f0) (1 : Int32) f1) (2 : Int32) f2) (3 : Int32) r) t))] [(.int (own_at (own_rat (own_put (own_put (own_put [0, 0, 0] (0 : Int32) f0) (1 : Int32) f1) (2 : Int32) f2) (3 : Int32) r) t)), (.ref b83)])) rfl (by rw [hml]; rfl) (Steps.refl _) (argsL := [(.int (own_at (own_rat (own_put (own_put (own_put [0, 0, 0] (0 : Int32) f0) (1 : Int32) f1) (2 : Int32) f2) (3 : Int32) r) t))]) (rest := []) (lenOf own_pd7 rfl) rfl (by show 2 * 0 + _ ≤ _; exact Nat.le_of_eq rfl) (hb hby at_191) (fun _ _ => ⟨rfl, rfl, (by decide : 4 + 0 ≤ _), (by decide : 12 + 0 ≤ _)⟩)
        dsimp only [Pt.U, Pt.locs, Pt.cells, Pt.slots] at X98 l98 y98 z98 st98 hQ98
        subst l98 y98 z98
        obtain ⟨rfl, Nq98, Kq98, IS98⟩ := hQ98
        have N98 := Fr.app N94 Nq98
        have E98 := IS98.1
        have Fa99 := (Vq94.keep Kq98 (ninS ne_b76_b83 (ninS ne_m_am (ninS ne_m_ap nin0))))
        have Z98 : n0 ≤ T98.heap.size := Nat.le_trans Z94 Kq98.1
        refine own_tr st98 ?_
        show own_Gl _ _ _ _ _ _ _ _ (T98.setTop (mkF m 194 #[.val (.int p0), .val (.int p1), .val (.int p2), .val (.int p3), .val (.int ix), .val (.int f0), .val (.int f1), .val (.int f2), .val (.int (3 : Int32)), .val (.int r), .val (.ref b76), .val (.ref b83), .val (.int (own_at (own_put (own_put (own_put [0, 0, 0] (0 : Int32) f0) (1 : Int32) f1) (2 : Int32) f2) r)), .val (.int (2 : Int32)), .val (.int t), .val (.int (own_at (own_rat (own_put (own_put (own_put [0, 0, 0] (0 : Int32) f0) (1 : Int32) f1) (2 : Int32) f2) (3 : Int32) r) t))] []))
        refine own_st (A' := T98.setTop (mkF m 200 #[.val (.int p0), .val (.int p1), .val (.int p2), .val (.int p3), .val (.int ix), .val (.int f0), .val (.int f1), .val (.int f2), .val (.int (3 : Int32)), .val (.int r), .val (.ref b76), .val (.ref b83), .val (.int (own_at (own_put (own_put (own_put [0, 0, 0] (0 : Int32) f0) (1 : Int32) f1) (2 : Int32) f2) r)), .val (.int (2 : Int32)), .val (.int t), .val (.int (own_at (own_rat (own_put (own_put (own_put [0, 0, 0] (0 : Int32) f0) (1 : Int32) f1) (2 : Int32) f2) (3 : Int32) r) t))] [(.int t), (.int (2 : Int32)), (.ref b76)])) (fun tg kt => ?_) ?_
        · show Steps p.tables e below (T98.setTop (mkF m 194 #[.val (.int p0), .val (.int p1), .val (.int p2), .val (.int p3), .val (.int ix), .val (.int f0), .val (.int f1), .val (.int f2), .val (.int (3 : Int32)), .val (.int r), .val (.ref b76), .val (.ref b83), .val (.int (own_at (own_put (own_put (own_put [0, 0, 0] (0 : Int32) f0) (1 : Int32) f1) (2 : Int32) f2) r)), .val (.int (2 : Int32)), .val (.int t), .val (.int (own_at (own_rat (own_put (own_put (own_put [0, 0, 0] (0 : Int32) f0) (1 : Int32) f1) (2 : Int32) f2) (3 : Int32) r) t))] [])) _
          refine XS.aload X98.here hx rfl (hb hby at_194) rfl rfl ?_
          show Steps p.tables e below (T98.setTop (mkF m 196 #[.val (.int p0), .val (.int p1), .val (.int p2), .val (.int p3), .val (.int ix), .val (.int f0), .val (.int f1), .val (.int f2), .val (.int (3 : Int32)), .val (.int r), .val (.ref b76), .val (.ref b83), .val (.int (own_at (own_put (own_put (own_put [0, 0, 0] (0 : Int32) f0) (1 : Int32) f1) (2 : Int32) f2) r)), .val (.int (2 : Int32)), .val (.int t), .val (.int (own_at (own_rat (own_put (own_put (own_put [0, 0, 0] (0 : Int32) f0) (1 : Int32) f1) (2 : Int32) f2) (3 : Int32) r) t))] [(.ref b76)])) _
          refine XS.iload X98.here hx rfl (hb hby at_196) rfl ?_
          show Steps p.tables e below (T98.setTop (mkF m 198 #[.val (.int p0), .val (.int p1), .val (.int p2), .val (.int p3), .val (.int ix), .val (.int f0), .val (.int f1), .val (.int f2), .val (.int (3 : Int32)), .val (.int r), .val (.ref b76), .val (.ref b83), .val (.int (own_at (own_put (own_put (own_put [0, 0, 0] (0 : Int32) f0) (1 : Int32) f1) (2 : Int32) f2) r)), .val (.int (2 : Int32)), .val (.int t), .val (.int (own_at (own_rat (own_put (own_put (own_put [0, 0, 0] (0 : Int32) f0) (1 : Int32) f1) (2 : Int32) f2) (3 : Int32) r) t))] [(.int (2 : Int32)), (.ref b76)])) _
          refine XS.iload X98.here hx rfl (hb hby at_198) rfl ?_
          exact kt
        obtain ⟨_, _, ⟨T100, L100, k100, n100⟩, -, X100, ⟨Lc100, hQ100, l100, y100, z100⟩, st100⟩ := Jvm.LawKit.callS X98 hx (y := (⟨"com/example/slotpack/slotpack/IndexSetRemovePinLaw", "removeAt", "([III)I"⟩ : MethodName)) hown (mvT hZ (hw _ (List.mem_of_getElem? (i := 31) rfl))) (mvT hZ (hw _ (List.mem_of_getElem? (i := 32) rfl))) (mvT hZ (hw _ (List.mem_of_getElem? (i := 33) rfl))) (mvT hZ (hw _ (List.mem_of_getElem? (i := 34) rfl))) (by decide) (backOf (W := 0) (rm6 l Z a0 hw [] b76 (2 : Int32) t k76 (own_rat (own_put (own_put (own_put [0, 0, 0] (0 : Int32) f0) (1 : Int32) f1) (2 : Int32) f2) (3 : Int32) r) T98.heap n0 Z98 Fa99 g_b76 (by decide) okt) hZ (hw _ (List.mem_of_getElem? (i := 34) rfl)) (hw _ (List.mem_of_getElem? (i := 33) rfl)) (by decide) (by decide)) (g := (mkF m 200 #[.val (.int p0), .val (.int p1), .val (.int p2), .val (.int p3), .val (.int ix), .val (.int f0), .val (.int f1), .val (.int f2), .val (.int (3 : Int32)), .val (.int r), .val (.ref b76), .val (.ref b83), .val (.int (own_at (own_put (own_put (own_put [0, 0, 0] (0 : Int32) f0) (1 : Int32) f1) (2 : Int32) f2) r)), .val (.int (2 : Int32)), .val (.int t), .val (.int (own_at (own_rat (own_put (own_put (own_put [0, 0, 0] (0 : Int32) f0) (1 : Int32) f1) (2 : Int32) f2) (3 : Int32) r) t))] [(.int t), (.int (2 : Int32)), (.ref b76)])) rfl (by rw [hml]; rfl) (argsL := [(.ref b76), (.int (2 : Int32)), (.int t)]) (rest := []) (lenOf own_pd8 rfl) rfl (by show 2 * 0 + _ ≤ _; exact Nat.le_of_eq rfl) (hb hby at_200) (fun _ _ => ⟨rfl, rfl, (by decide : 4 + 0 ≤ _), (by decide : 12 + 0 ≤ _)⟩)
        dsimp only [Pt.U, Pt.locs, Pt.cells, Pt.slots] at X100 l100 y100 z100 st100 hQ100
        subst l100 y100 z100
        obtain ⟨rfl, Nq100, Kq100, Vq100⟩ := hQ100
        have N100 := Fr.app N98 Nq100
        have IS100 : own_IS Z T100.heap b83 am ap ka kp (own_del (own_del (own_add (own_add (own_add own_D0 f0) f1) f2) (own_at (own_put (own_put (own_put [0, 0, 0] (0 : Int32) f0) (1 : Int32) f1) (2 : Int32) f2) r)) (own_at (own_rat (own_put (own_put (own_put [0, 0, 0] (0 : Int32) f0) (1 : Int32) f1) (2 : Int32) f2) (3 : Int32) r) t)) := ⟨IS98.1.keep Kq100, IS98.2.1.keep Kq100 (ninS (Ne.symm ne_b76_b83) nin0), IS98.2.2.1.keep Kq100 (ninS (Ne.symm ne_b76_b83) nin0), IS98.2.2.2.1.keep Kq100 (ninS (Ne.symm ne_b76_b83) nin0), IS98.2.2.2.2.1.keep Kq100 (ninS (Ne.symm ne_m_am) nin0), IS98.2.2.2.2.2.keep Kq100 (ninS (Ne.symm ne_m_ap) nin0)⟩
        have Z100 : n0 ≤ T100.heap.size := Nat.le_trans Z98 Kq100.1
        refine own_st st100 ?_
        show own_Gl _ _ _ _ _ _ _ _ (T100.setTop (mkF m 203 #[.val (.int p0), .val (.int p1), .val (.int p2), .val (.int p3), .val (.int ix), .val (.int f0), .val (.int f1), .val (.int f2), .val (.int (3 : Int32)), .val (.int r), .val (.ref b76), .val (.ref b83), .val (.int (own_at (own_put (own_put (own_put [0, 0, 0] (0 : Int32) f0) (1 : Int32) f1) (2 : Int32) f2) r)), .val (.int (2 : Int32)), .val (.int t), .val (.int (own_at (own_rat (own_put (own_put (own_put [0, 0, 0] (0 : Int32) f0) (1 : Int32) f1) (2 : Int32) f2) (3 : Int32) r) t))] [(.int (1 : Int32))]))
        refine own_st (A' := T100.setTop (mkF m 207 #[.val (.int p0), .val (.int p1), .val (.int p2), .val (.int p3), .val (.int ix), .val (.int f0), .val (.int f1), .val (.int f2), .val (.int (3 : Int32)), .val (.int r), .val (.ref b76), .val (.ref b83), .val (.int (own_at (own_put (own_put (own_put [0, 0, 0] (0 : Int32) f0) (1 : Int32) f1) (2 : Int32) f2) r)), .val (.int (1 : Int32)), .val (.int t), .val (.int (own_at (own_rat (own_put (own_put (own_put [0, 0, 0] (0 : Int32) f0) (1 : Int32) f1) (2 : Int32) f2) (3 : Int32) r) t))] [(.ref b83)])) (fun tg kt => ?_) ?_
        · show Steps p.tables e below (T100.setTop (mkF m 203 #[.val (.int p0), .val (.int p1), .val (.int p2), .val (.int p3), .val (.int ix), .val (.int f0), .val (.int f1), .val (.int f2), .val (.int (3 : Int32)), .val (.int r), .val (.ref b76), .val (.ref b83), .val (.int (own_at (own_put (own_put (own_put [0, 0, 0] (0 : Int32) f0) (1 : Int32) f1) (2 : Int32) f2) r)), .val (.int (2 : Int32)), .val (.int t), .val (.int (own_at (own_rat (own_put (own_put (own_put [0, 0, 0] (0 : Int32) f0) (1 : Int32) f1) (2 : Int32) f2) (3 : Int32) r) t))] [(.int (1 : Int32))])) _
          refine XS.istore X100.here hx rfl (hb hby at_203) rfl (l' := #[.val (.int p0), .val (.int p1), .val (.int p2), .val (.int p3), .val (.int ix), .val (.int f0), .val (.int f1), .val (.int f2), .val (.int (3 : Int32)), .val (.int r), .val (.ref b76), .val (.ref b83), .val (.int (own_at (own_put (own_put (own_put [0, 0, 0] (0 : Int32) f0) (1 : Int32) f1) (2 : Int32) f2) r)), .val (.int (1 : Int32)), .val (.int t), .val (.int (own_at (own_rat (own_put (own_put (own_put [0, 0, 0] (0 : Int32) f0) (1 : Int32) f1) (2 : Int32) f2) (3 : Int32) r) t))]) rfl ?_
          show Steps p.tables e below (T100.setTop (mkF m 205 #[.val (.int p0), .val (.int p1), .val (.int p2), .val (.int p3), .val (.int ix), .val (.int f0), .val (.int f1), .val (.int f2), .val (.int (3 : Int32)), .val (.int r), .val (.ref b76), .val (.ref b83), .val (.int (own_at (own_put (own_put (own_put [0, 0, 0] (0 : Int32) f0) (1 : Int32) f1) (2 : Int32) f2) r)), .val (.int (1 : Int32)), .val (.int t), .val (.int (own_at (own_rat (own_put (own_put (own_put [0, 0, 0] (0 : Int32) f0) (1 : Int32) f1) (2 : Int32) f2) (3 : Int32) r) t))] [])) _
          refine XS.aload X100.here hx rfl (hb hby at_205) rfl rfl ?_
          exact kt
        obtain ⟨cq101, kq101, q101a, q101b, q101c⟩ := isOf hZ rfl (E98.keep Kq100)
        obtain ⟨_, _, ⟨T101, L101, k101, n101⟩, -, X101, ⟨Lc101, hQ101, l101, y101, z101⟩, st101⟩ := X100.virtualBack hx (y := (⟨"com/example/slotpack/slotpack/IndexSet", "size", "()I"⟩ : MethodName)) (z := (⟨"com/example/slotpack/slotpack/IndexSet", "size", "()I"⟩ : MethodName)) hown (mvT hZ (hw _ (List.mem_of_getElem? (i := 35) rfl))) (mvT hZ (hw _ (List.mem_of_getElem? (i := 36) rfl))) (notFace_of_selects (args := #[]) (mvT hZ (hw _ (List.mem_of_getElem? (i := 38) rfl)))) (mvT hZ (hw _ (List.mem_of_getElem? (i := 38) rfl))) (mvT hZ (hw _ (List.mem_of_getElem? (i := 37) rfl))) (by decide) (backOf (W := 0) (rm7 l Z a0 hw [] b83   am ap ka kp (own_del (own_del (own_add (own_add (own_add own_D0 f0) f1) f2) (own_at (own_put (own_put (own_put [0, 0, 0] (0 : Int32) f0) (1 : Int32) f1) (2 : Int32) f2) r)) (own_at (own_rat (own_put (own_put (own_put [0, 0, 0] (0 : Int32) f0) (1 : Int32) f1) (2 : Int32) f2) (3 : Int32) r) t)) T100.heap n0 Z100 IS100 geo ) hZ (hw _ (List.mem_of_getElem? (i := 39) rfl)) (hw _ (List.mem_of_getElem? (i := 4) rfl)) (by decide) (by decide)) q101a q101c (g := (mkF m 207 #[.val (.int p0), .val (.int p1), .val (.int p2), .val (.int p3), .val (.int ix), .val (.int f0), .val (.int f1), .val (.int f2), .val (.int (3 : Int32)), .val (.int r), .val (.ref b76), .val (.ref b83), .val (.int (own_at (own_put (own_put (own_put [0, 0, 0] (0 : Int32) f0) (1 : Int32) f1) (2 : Int32) f2) r)), .val (.int (1 : Int32)), .val (.int t), .val (.int (own_at (own_rat (own_put (own_put (own_put [0, 0, 0] (0 : Int32) f0) (1 : Int32) f1) (2 : Int32) f2) (3 : Int32) r) t))] [(.ref b83)])) rfl (by rw [hml]; rfl) (Steps.refl _) (argsL := []) (rest := []) (lenOf own_pd9 rfl) rfl (by show 2 * 0 + _ ≤ _; exact Nat.le_of_eq rfl) (hb hby at_207) (fun _ _ => ⟨rfl, rfl, (by decide : 4 + 0 ≤ _), (by decide : 12 + 0 ≤ _)⟩)
        dsimp only [Pt.U, Pt.locs, Pt.cells, Pt.slots] at X101 l101 y101 z101 st101 hQ101
        subst l101 y101 z101
        obtain ⟨rfl, Nq101, eq101⟩ := hQ101
        have N101 := Fr.app N100 Nq101
        refine own_tr st101 ?_
        show own_Gl _ _ _ _ _ _ _ _ (T101.setTop (mkF m 210 #[.val (.int p0), .val (.int p1), .val (.int p2), .val (.int p3), .val (.int ix), .val (.int f0), .val (.int f1), .val (.int f2), .val (.int (3 : Int32)), .val (.int r), .val (.ref b76), .val (.ref b83), .val (.int (own_at (own_put (own_put (own_put [0, 0, 0] (0 : Int32) f0) (1 : Int32) f1) (2 : Int32) f2) r)), .val (.int (1 : Int32)), .val (.int t), .val (.int (own_at (own_rat (own_put (own_put (own_put [0, 0, 0] (0 : Int32) f0) (1 : Int32) f1) (2 : Int32) f2) (3 : Int32) r) t))] [(.int (own_del (own_del (own_add (own_add (own_add own_D0 f0) f1) f2) (own_at (own_put (own_put (own_put [0, 0, 0] (0 : Int32) f0) (1 : Int32) f1) (2 : Int32) f2) r)) (own_at (own_rat (own_put (own_put (own_put [0, 0, 0] (0 : Int32) f0) (1 : Int32) f1) (2 : Int32) f2) (3 : Int32) r) t)).2.2)]))
        refine own_st (A' := T101.setTop (mkF m 222 #[.val (.int p0), .val (.int p1), .val (.int p2), .val (.int p3), .val (.int ix), .val (.int f0), .val (.int f1), .val (.int f2), .val (.int (3 : Int32)), .val (.int r), .val (.ref b76), .val (.ref b83), .val (.int (own_at (own_put (own_put (own_put [0, 0, 0] (0 : Int32) f0) (1 : Int32) f1) (2 : Int32) f2) r)), .val (.int (1 : Int32)), .val (.int (1 : Int32)), .val (.int (own_at (own_rat (own_put (own_put (own_put [0, 0, 0] (0 : Int32) f0) (1 : Int32) f1) (2 : Int32) f2) (3 : Int32) r) t))] [])) (fun tg kt => ?_) ?_
        · show Steps p.tables e below (T101.setTop (mkF m 210 #[.val (.int p0), .val (.int p1), .val (.int p2), .val (.int p3), .val (.int ix), .val (.int f0), .val (.int f1), .val (.int f2), .val (.int (3 : Int32)), .val (.int r), .val (.ref b76), .val (.ref b83), .val (.int (own_at (own_put (own_put (own_put [0, 0, 0] (0 : Int32) f0) (1 : Int32) f1) (2 : Int32) f2) r)), .val (.int (1 : Int32)), .val (.int t), .val (.int (own_at (own_rat (own_put (own_put (own_put [0, 0, 0] (0 : Int32) f0) (1 : Int32) f1) (2 : Int32) f2) (3 : Int32) r) t))] [(.int (own_del (own_del (own_add (own_add (own_add own_D0 f0) f1) f2) (own_at (own_put (own_put (own_put [0, 0, 0] (0 : Int32) f0) (1 : Int32) f1) (2 : Int32) f2) r)) (own_at (own_rat (own_put (own_put (own_put [0, 0, 0] (0 : Int32) f0) (1 : Int32) f1) (2 : Int32) f2) (3 : Int32) r) t)).2.2)])) _
          refine XS.iload X101.here hx rfl (hb hby at_210) rfl ?_
          show Steps p.tables e below (T101.setTop (mkF m 212 #[.val (.int p0), .val (.int p1), .val (.int p2), .val (.int p3), .val (.int ix), .val (.int f0), .val (.int f1), .val (.int f2), .val (.int (3 : Int32)), .val (.int r), .val (.ref b76), .val (.ref b83), .val (.int (own_at (own_put (own_put (own_put [0, 0, 0] (0 : Int32) f0) (1 : Int32) f1) (2 : Int32) f2) r)), .val (.int (1 : Int32)), .val (.int t), .val (.int (own_at (own_rat (own_put (own_put (own_put [0, 0, 0] (0 : Int32) f0) (1 : Int32) f1) (2 : Int32) f2) (3 : Int32) r) t))] [(.int (1 : Int32)), (.int (own_del (own_del (own_add (own_add (own_add own_D0 f0) f1) f2) (own_at (own_put (own_put (own_put [0, 0, 0] (0 : Int32) f0) (1 : Int32) f1) (2 : Int32) f2) r)) (own_at (own_rat (own_put (own_put (own_put [0, 0, 0] (0 : Int32) f0) (1 : Int32) f1) (2 : Int32) f2) (3 : Int32) r) t)).2.2)])) _
          refine XS.icmpNo X101.here hx rfl (hb hby at_212) rfl (teq (okF2.1 : (own_del (own_del (own_add (own_add (own_add own_D0 f0) f1) f2) (own_at (own_put (own_put (own_put [0, 0, 0] (0 : Int32) f0) (1 : Int32) f1) (2 : Int32) f2) r)) (own_at (own_rat (own_put (own_put (own_put [0, 0, 0] (0 : Int32) f0) (1 : Int32) f1) (2 : Int32) f2) (3 : Int32) r) t)).2.2 = (1 : Int32))).2 ?_
          show Steps p.tables e below (T101.setTop (mkF m 215 #[.val (.int p0), .val (.int p1), .val (.int p2), .val (.int p3), .val (.int ix), .val (.int f0), .val (.int f1), .val (.int f2), .val (.int (3 : Int32)), .val (.int r), .val (.ref b76), .val (.ref b83), .val (.int (own_at (own_put (own_put (own_put [0, 0, 0] (0 : Int32) f0) (1 : Int32) f1) (2 : Int32) f2) r)), .val (.int (1 : Int32)), .val (.int t), .val (.int (own_at (own_rat (own_put (own_put (own_put [0, 0, 0] (0 : Int32) f0) (1 : Int32) f1) (2 : Int32) f2) (3 : Int32) r) t))] [])) _
          refine XS.iconst X101.here hx rfl (hb hby at_215) ?_
          show Steps p.tables e below (T101.setTop (mkF m 216 #[.val (.int p0), .val (.int p1), .val (.int p2), .val (.int p3), .val (.int ix), .val (.int f0), .val (.int f1), .val (.int f2), .val (.int (3 : Int32)), .val (.int r), .val (.ref b76), .val (.ref b83), .val (.int (own_at (own_put (own_put (own_put [0, 0, 0] (0 : Int32) f0) (1 : Int32) f1) (2 : Int32) f2) r)), .val (.int (1 : Int32)), .val (.int t), .val (.int (own_at (own_rat (own_put (own_put (own_put [0, 0, 0] (0 : Int32) f0) (1 : Int32) f1) (2 : Int32) f2) (3 : Int32) r) t))] [(.int (1 : Int32))])) _
          refine XS.goto X101.here hx rfl (pc0 := 216) (pc' := 220) rfl (hb hby at_216) (by decide) (by decide) ?_
          show Steps p.tables e below (T101.setTop (mkF m 220 #[.val (.int p0), .val (.int p1), .val (.int p2), .val (.int p3), .val (.int ix), .val (.int f0), .val (.int f1), .val (.int f2), .val (.int (3 : Int32)), .val (.int r), .val (.ref b76), .val (.ref b83), .val (.int (own_at (own_put (own_put (own_put [0, 0, 0] (0 : Int32) f0) (1 : Int32) f1) (2 : Int32) f2) r)), .val (.int (1 : Int32)), .val (.int t), .val (.int (own_at (own_rat (own_put (own_put (own_put [0, 0, 0] (0 : Int32) f0) (1 : Int32) f1) (2 : Int32) f2) (3 : Int32) r) t))] [(.int (1 : Int32))])) _
          refine XS.istore X101.here hx rfl (hb hby at_220) rfl (l' := #[.val (.int p0), .val (.int p1), .val (.int p2), .val (.int p3), .val (.int ix), .val (.int f0), .val (.int f1), .val (.int f2), .val (.int (3 : Int32)), .val (.int r), .val (.ref b76), .val (.ref b83), .val (.int (own_at (own_put (own_put (own_put [0, 0, 0] (0 : Int32) f0) (1 : Int32) f1) (2 : Int32) f2) r)), .val (.int (1 : Int32)), .val (.int (1 : Int32)), .val (.int (own_at (own_rat (own_put (own_put (own_put [0, 0, 0] (0 : Int32) f0) (1 : Int32) f1) (2 : Int32) f2) (3 : Int32) r) t))]) rfl ?_
          exact kt
        exact tlE _ _ _ _ _ _ _ _ b76 b83 am ap _ ka kp (own_del (own_del (own_add (own_add (own_add own_D0 f0) f1) f2) (own_at (own_put (own_put (own_put [0, 0, 0] (0 : Int32) f0) (1 : Int32) f1) (2 : Int32) f2) r)) (own_at (own_rat (own_put (own_put (own_put [0, 0, 0] (0 : Int32) f0) (1 : Int32) f1) (2 : Int32) f2) (3 : Int32) r) t)) (1 : Int32) _ T101 _ _ X101 eq101 N101 Z100 IS100 Vq100 geo g_b76 okF2
  refine own_st (A' := s₁.setTop (mkF m 35 #[.val (.int p0), .val (.int p1), .val (.int p2), .val (.int p3), .val (.int ix), .val (.int (ix / (2 : Int32))), .val (.int (((ix / (2 : Int32)) + (1 : Int32)) % (3 : Int32))), .val (.int (((ix / (2 : Int32)) + (2 : Int32)) % (3 : Int32))), .unset, .unset, .unset, .unset, .unset, .unset, .unset, .unset] [(.int (ix &&& (1 : Int32)))])) (fun tg kt => ?_) ?_
  · show Steps p.tables e below (s₁.setTop (mkF m 31 #[.val (.int p0), .val (.int p1), .val (.int p2), .val (.int p3), .val (.int ix), .val (.int (ix / (2 : Int32))), .val (.int (((ix / (2 : Int32)) + (1 : Int32)) % (3 : Int32))), .val (.int (((ix / (2 : Int32)) + (2 : Int32)) % (3 : Int32))), .unset, .unset, .unset, .unset, .unset, .unset, .unset, .unset] [])) _
    refine XS.iload X0.here hx rfl (hb hby at_31) rfl ?_
    show Steps p.tables e below (s₁.setTop (mkF m 33 #[.val (.int p0), .val (.int p1), .val (.int p2), .val (.int p3), .val (.int ix), .val (.int (ix / (2 : Int32))), .val (.int (((ix / (2 : Int32)) + (1 : Int32)) % (3 : Int32))), .val (.int (((ix / (2 : Int32)) + (2 : Int32)) % (3 : Int32))), .unset, .unset, .unset, .unset, .unset, .unset, .unset, .unset] [(.int ix)])) _
    refine XS.iconst X0.here hx rfl (hb hby at_33) ?_
    show Steps p.tables e below (s₁.setTop (mkF m 34 #[.val (.int p0), .val (.int p1), .val (.int p2), .val (.int p3), .val (.int ix), .val (.int (ix / (2 : Int32))), .val (.int (((ix / (2 : Int32)) + (1 : Int32)) % (3 : Int32))), .val (.int (((ix / (2 : Int32)) + (2 : Int32)) % (3 : Int32))), .unset, .unset, .unset, .unset, .unset, .unset, .unset, .unset] [(.int (1 : Int32)), (.int ix)])) _
    refine XS.iand X0.here hx rfl (hb hby at_34) rfl ?_
    exact kt
  by_cases hc35_102 : (ix &&& (1 : Int32)) = (0 : Int32)
  · refine own_st (A' := s₁.setTop (mkF m 60 #[.val (.int p0), .val (.int p1), .val (.int p2), .val (.int p3), .val (.int ix), .val (.int (ix / (2 : Int32))), .val (.int (((ix / (2 : Int32)) + (1 : Int32)) % (3 : Int32))), .val (.int (((ix / (2 : Int32)) + (2 : Int32)) % (3 : Int32))), .val (.int ((1 : Int32) + ((p1 &&& (2147483647 : Int32)) % (3 : Int32)))), .unset, .unset, .unset, .unset, .unset, .unset, .unset] [])) (fun tg kt => ?_) ?_
    · show Steps p.tables e below (s₁.setTop (mkF m 35 #[.val (.int p0), .val (.int p1), .val (.int p2), .val (.int p3), .val (.int ix), .val (.int (ix / (2 : Int32))), .val (.int (((ix / (2 : Int32)) + (1 : Int32)) % (3 : Int32))), .val (.int (((ix / (2 : Int32)) + (2 : Int32)) % (3 : Int32))), .unset, .unset, .unset, .unset, .unset, .unset, .unset, .unset] [(.int (ix &&& (1 : Int32)))])) _
      refine XS.ifYes X0.here hx rfl (pc0 := 35) (pc' := 50) rfl (hb hby at_35) rfl ((if0 _ _).trans (teq hc35_102).1) (by decide) (by decide) ?_
      show Steps p.tables e below (s₁.setTop (mkF m 50 #[.val (.int p0), .val (.int p1), .val (.int p2), .val (.int p3), .val (.int ix), .val (.int (ix / (2 : Int32))), .val (.int (((ix / (2 : Int32)) + (1 : Int32)) % (3 : Int32))), .val (.int (((ix / (2 : Int32)) + (2 : Int32)) % (3 : Int32))), .unset, .unset, .unset, .unset, .unset, .unset, .unset, .unset] [])) _
      refine XS.iconst X0.here hx rfl (hb hby at_50) ?_
      show Steps p.tables e below (s₁.setTop (mkF m 51 #[.val (.int p0), .val (.int p1), .val (.int p2), .val (.int p3), .val (.int ix), .val (.int (ix / (2 : Int32))), .val (.int (((ix / (2 : Int32)) + (1 : Int32)) % (3 : Int32))), .val (.int (((ix / (2 : Int32)) + (2 : Int32)) % (3 : Int32))), .unset, .unset, .unset, .unset, .unset, .unset, .unset, .unset] [(.int (1 : Int32))])) _
      refine XS.iloadN X0.here hx rfl (hb hby at_51) rfl ?_
      show Steps p.tables e below (s₁.setTop (mkF m 52 #[.val (.int p0), .val (.int p1), .val (.int p2), .val (.int p3), .val (.int ix), .val (.int (ix / (2 : Int32))), .val (.int (((ix / (2 : Int32)) + (1 : Int32)) % (3 : Int32))), .val (.int (((ix / (2 : Int32)) + (2 : Int32)) % (3 : Int32))), .unset, .unset, .unset, .unset, .unset, .unset, .unset, .unset] [(.int p1), (.int (1 : Int32))])) _
      refine X0.ldcInt hx hown (mvT hZ (hw _ (List.mem_of_getElem? (i := 0) rfl))) (g := (mkF m 52 #[.val (.int p0), .val (.int p1), .val (.int p2), .val (.int p3), .val (.int ix), .val (.int (ix / (2 : Int32))), .val (.int (((ix / (2 : Int32)) + (1 : Int32)) % (3 : Int32))), .val (.int (((ix / (2 : Int32)) + (2 : Int32)) % (3 : Int32))), .unset, .unset, .unset, .unset, .unset, .unset, .unset, .unset] [(.int p1), (.int (1 : Int32))])) rfl (hb hby at_52) _ ?_
      show Steps p.tables e below (s₁.setTop (mkF m 54 #[.val (.int p0), .val (.int p1), .val (.int p2), .val (.int p3), .val (.int ix), .val (.int (ix / (2 : Int32))), .val (.int (((ix / (2 : Int32)) + (1 : Int32)) % (3 : Int32))), .val (.int (((ix / (2 : Int32)) + (2 : Int32)) % (3 : Int32))), .unset, .unset, .unset, .unset, .unset, .unset, .unset, .unset] [(.int (2147483647 : Int32)), (.int p1), (.int (1 : Int32))])) _
      refine XS.iand X0.here hx rfl (hb hby at_54) rfl ?_
      show Steps p.tables e below (s₁.setTop (mkF m 55 #[.val (.int p0), .val (.int p1), .val (.int p2), .val (.int p3), .val (.int ix), .val (.int (ix / (2 : Int32))), .val (.int (((ix / (2 : Int32)) + (1 : Int32)) % (3 : Int32))), .val (.int (((ix / (2 : Int32)) + (2 : Int32)) % (3 : Int32))), .unset, .unset, .unset, .unset, .unset, .unset, .unset, .unset] [(.int (p1 &&& (2147483647 : Int32))), (.int (1 : Int32))])) _
      refine XS.iconst X0.here hx rfl (hb hby at_55) ?_
      show Steps p.tables e below (s₁.setTop (mkF m 56 #[.val (.int p0), .val (.int p1), .val (.int p2), .val (.int p3), .val (.int ix), .val (.int (ix / (2 : Int32))), .val (.int (((ix / (2 : Int32)) + (1 : Int32)) % (3 : Int32))), .val (.int (((ix / (2 : Int32)) + (2 : Int32)) % (3 : Int32))), .unset, .unset, .unset, .unset, .unset, .unset, .unset, .unset] [(.int (3 : Int32)), (.int (p1 &&& (2147483647 : Int32))), (.int (1 : Int32))])) _
      refine iremM X0 hx rfl (hb hby at_56) rfl (by decide) ?_
      show Steps p.tables e below (s₁.setTop (mkF m 57 #[.val (.int p0), .val (.int p1), .val (.int p2), .val (.int p3), .val (.int ix), .val (.int (ix / (2 : Int32))), .val (.int (((ix / (2 : Int32)) + (1 : Int32)) % (3 : Int32))), .val (.int (((ix / (2 : Int32)) + (2 : Int32)) % (3 : Int32))), .unset, .unset, .unset, .unset, .unset, .unset, .unset, .unset] [(.int ((p1 &&& (2147483647 : Int32)) % (3 : Int32))), (.int (1 : Int32))])) _
      refine XS.iadd X0.here hx rfl (hb hby at_57) rfl ?_
      show Steps p.tables e below (s₁.setTop (mkF m 58 #[.val (.int p0), .val (.int p1), .val (.int p2), .val (.int p3), .val (.int ix), .val (.int (ix / (2 : Int32))), .val (.int (((ix / (2 : Int32)) + (1 : Int32)) % (3 : Int32))), .val (.int (((ix / (2 : Int32)) + (2 : Int32)) % (3 : Int32))), .unset, .unset, .unset, .unset, .unset, .unset, .unset, .unset] [(.int ((1 : Int32) + ((p1 &&& (2147483647 : Int32)) % (3 : Int32))))])) _
      refine XS.istore X0.here hx rfl (hb hby at_58) rfl (l' := #[.val (.int p0), .val (.int p1), .val (.int p2), .val (.int p3), .val (.int ix), .val (.int (ix / (2 : Int32))), .val (.int (((ix / (2 : Int32)) + (1 : Int32)) % (3 : Int32))), .val (.int (((ix / (2 : Int32)) + (2 : Int32)) % (3 : Int32))), .val (.int ((1 : Int32) + ((p1 &&& (2147483647 : Int32)) % (3 : Int32)))), .unset, .unset, .unset, .unset, .unset, .unset, .unset]) rfl ?_
      exact kt
    exact tl60 _ _ _ _ (hpp.1 hc35_102) (by
      have q := own_rem p1 3 3 (by decide) (by decide)
      rcases own_split3 q.1 q.2 with h | h | h <;> rw [h] <;> decide)
  · refine own_st (A' := s₁.setTop (mkF m 60 #[.val (.int p0), .val (.int p1), .val (.int p2), .val (.int p3), .val (.int ix), .val (.int (ix / (2 : Int32))), .val (.int (((ix / (2 : Int32)) + (2 : Int32)) % (3 : Int32))), .val (.int (((ix / (2 : Int32)) + (1 : Int32)) % (3 : Int32))), .val (.int ((1 : Int32) + ((p1 &&& (2147483647 : Int32)) % (3 : Int32)))), .unset, .unset, .unset, .unset, .unset, .unset, .unset] [])) (fun tg kt => ?_) ?_
    · show Steps p.tables e below (s₁.setTop (mkF m 35 #[.val (.int p0), .val (.int p1), .val (.int p2), .val (.int p3), .val (.int ix), .val (.int (ix / (2 : Int32))), .val (.int (((ix / (2 : Int32)) + (1 : Int32)) % (3 : Int32))), .val (.int (((ix / (2 : Int32)) + (2 : Int32)) % (3 : Int32))), .unset, .unset, .unset, .unset, .unset, .unset, .unset, .unset] [(.int (ix &&& (1 : Int32)))])) _
      refine XS.ifNo X0.here hx rfl (hb hby at_35) rfl ((if0 _ _).trans (feq hc35_102).1) ?_
      show Steps p.tables e below (s₁.setTop (mkF m 38 #[.val (.int p0), .val (.int p1), .val (.int p2), .val (.int p3), .val (.int ix), .val (.int (ix / (2 : Int32))), .val (.int (((ix / (2 : Int32)) + (1 : Int32)) % (3 : Int32))), .val (.int (((ix / (2 : Int32)) + (2 : Int32)) % (3 : Int32))), .unset, .unset, .unset, .unset, .unset, .unset, .unset, .unset] [])) _
      refine XS.iload X0.here hx rfl (hb hby at_38) rfl ?_
      show Steps p.tables e below (s₁.setTop (mkF m 40 #[.val (.int p0), .val (.int p1), .val (.int p2), .val (.int p3), .val (.int ix), .val (.int (ix / (2 : Int32))), .val (.int (((ix / (2 : Int32)) + (1 : Int32)) % (3 : Int32))), .val (.int (((ix / (2 : Int32)) + (2 : Int32)) % (3 : Int32))), .unset, .unset, .unset, .unset, .unset, .unset, .unset, .unset] [(.int (((ix / (2 : Int32)) + (1 : Int32)) % (3 : Int32)))])) _
      refine XS.istore X0.here hx rfl (hb hby at_40) rfl (l' := #[.val (.int p0), .val (.int p1), .val (.int p2), .val (.int p3), .val (.int ix), .val (.int (ix / (2 : Int32))), .val (.int (((ix / (2 : Int32)) + (1 : Int32)) % (3 : Int32))), .val (.int (((ix / (2 : Int32)) + (2 : Int32)) % (3 : Int32))), .val (.int (((ix / (2 : Int32)) + (1 : Int32)) % (3 : Int32))), .unset, .unset, .unset, .unset, .unset, .unset, .unset]) rfl ?_
      show Steps p.tables e below (s₁.setTop (mkF m 42 #[.val (.int p0), .val (.int p1), .val (.int p2), .val (.int p3), .val (.int ix), .val (.int (ix / (2 : Int32))), .val (.int (((ix / (2 : Int32)) + (1 : Int32)) % (3 : Int32))), .val (.int (((ix / (2 : Int32)) + (2 : Int32)) % (3 : Int32))), .val (.int (((ix / (2 : Int32)) + (1 : Int32)) % (3 : Int32))), .unset, .unset, .unset, .unset, .unset, .unset, .unset] [])) _
      refine XS.iload X0.here hx rfl (hb hby at_42) rfl ?_
      show Steps p.tables e below (s₁.setTop (mkF m 44 #[.val (.int p0), .val (.int p1), .val (.int p2), .val (.int p3), .val (.int ix), .val (.int (ix / (2 : Int32))), .val (.int (((ix / (2 : Int32)) + (1 : Int32)) % (3 : Int32))), .val (.int (((ix / (2 : Int32)) + (2 : Int32)) % (3 : Int32))), .val (.int (((ix / (2 : Int32)) + (1 : Int32)) % (3 : Int32))), .unset, .unset, .unset, .unset, .unset, .unset, .unset] [(.int (((ix / (2 : Int32)) + (2 : Int32)) % (3 : Int32)))])) _
      refine XS.istore X0.here hx rfl (hb hby at_44) rfl (l' := #[.val (.int p0), .val (.int p1), .val (.int p2), .val (.int p3), .val (.int ix), .val (.int (ix / (2 : Int32))), .val (.int (((ix / (2 : Int32)) + (2 : Int32)) % (3 : Int32))), .val (.int (((ix / (2 : Int32)) + (2 : Int32)) % (3 : Int32))), .val (.int (((ix / (2 : Int32)) + (1 : Int32)) % (3 : Int32))), .unset, .unset, .unset, .unset, .unset, .unset, .unset]) rfl ?_
      show Steps p.tables e below (s₁.setTop (mkF m 46 #[.val (.int p0), .val (.int p1), .val (.int p2), .val (.int p3), .val (.int ix), .val (.int (ix / (2 : Int32))), .val (.int (((ix / (2 : Int32)) + (2 : Int32)) % (3 : Int32))), .val (.int (((ix / (2 : Int32)) + (2 : Int32)) % (3 : Int32))), .val (.int (((ix / (2 : Int32)) + (1 : Int32)) % (3 : Int32))), .unset, .unset, .unset, .unset, .unset, .unset, .unset] [])) _
      refine XS.iload X0.here hx rfl (hb hby at_46) rfl ?_
      show Steps p.tables e below (s₁.setTop (mkF m 48 #[.val (.int p0), .val (.int p1), .val (.int p2), .val (.int p3), .val (.int ix), .val (.int (ix / (2 : Int32))), .val (.int (((ix / (2 : Int32)) + (2 : Int32)) % (3 : Int32))), .val (.int (((ix / (2 : Int32)) + (2 : Int32)) % (3 : Int32))), .val (.int (((ix / (2 : Int32)) + (1 : Int32)) % (3 : Int32))), .unset, .unset, .unset, .unset, .unset, .unset, .unset] [(.int (((ix / (2 : Int32)) + (1 : Int32)) % (3 : Int32)))])) _
      refine XS.istore X0.here hx rfl (hb hby at_48) rfl (l' := #[.val (.int p0), .val (.int p1), .val (.int p2), .val (.int p3), .val (.int ix), .val (.int (ix / (2 : Int32))), .val (.int (((ix / (2 : Int32)) + (2 : Int32)) % (3 : Int32))), .val (.int (((ix / (2 : Int32)) + (1 : Int32)) % (3 : Int32))), .val (.int (((ix / (2 : Int32)) + (1 : Int32)) % (3 : Int32))), .unset, .unset, .unset, .unset, .unset, .unset, .unset]) rfl ?_
      show Steps p.tables e below (s₁.setTop (mkF m 50 #[.val (.int p0), .val (.int p1), .val (.int p2), .val (.int p3), .val (.int ix), .val (.int (ix / (2 : Int32))), .val (.int (((ix / (2 : Int32)) + (2 : Int32)) % (3 : Int32))), .val (.int (((ix / (2 : Int32)) + (1 : Int32)) % (3 : Int32))), .val (.int (((ix / (2 : Int32)) + (1 : Int32)) % (3 : Int32))), .unset, .unset, .unset, .unset, .unset, .unset, .unset] [])) _
      refine XS.iconst X0.here hx rfl (hb hby at_50) ?_
      show Steps p.tables e below (s₁.setTop (mkF m 51 #[.val (.int p0), .val (.int p1), .val (.int p2), .val (.int p3), .val (.int ix), .val (.int (ix / (2 : Int32))), .val (.int (((ix / (2 : Int32)) + (2 : Int32)) % (3 : Int32))), .val (.int (((ix / (2 : Int32)) + (1 : Int32)) % (3 : Int32))), .val (.int (((ix / (2 : Int32)) + (1 : Int32)) % (3 : Int32))), .unset, .unset, .unset, .unset, .unset, .unset, .unset] [(.int (1 : Int32))])) _
      refine XS.iloadN X0.here hx rfl (hb hby at_51) rfl ?_
      show Steps p.tables e below (s₁.setTop (mkF m 52 #[.val (.int p0), .val (.int p1), .val (.int p2), .val (.int p3), .val (.int ix), .val (.int (ix / (2 : Int32))), .val (.int (((ix / (2 : Int32)) + (2 : Int32)) % (3 : Int32))), .val (.int (((ix / (2 : Int32)) + (1 : Int32)) % (3 : Int32))), .val (.int (((ix / (2 : Int32)) + (1 : Int32)) % (3 : Int32))), .unset, .unset, .unset, .unset, .unset, .unset, .unset] [(.int p1), (.int (1 : Int32))])) _
      refine X0.ldcInt hx hown (mvT hZ (hw _ (List.mem_of_getElem? (i := 0) rfl))) (g := (mkF m 52 #[.val (.int p0), .val (.int p1), .val (.int p2), .val (.int p3), .val (.int ix), .val (.int (ix / (2 : Int32))), .val (.int (((ix / (2 : Int32)) + (2 : Int32)) % (3 : Int32))), .val (.int (((ix / (2 : Int32)) + (1 : Int32)) % (3 : Int32))), .val (.int (((ix / (2 : Int32)) + (1 : Int32)) % (3 : Int32))), .unset, .unset, .unset, .unset, .unset, .unset, .unset] [(.int p1), (.int (1 : Int32))])) rfl (hb hby at_52) _ ?_
      show Steps p.tables e below (s₁.setTop (mkF m 54 #[.val (.int p0), .val (.int p1), .val (.int p2), .val (.int p3), .val (.int ix), .val (.int (ix / (2 : Int32))), .val (.int (((ix / (2 : Int32)) + (2 : Int32)) % (3 : Int32))), .val (.int (((ix / (2 : Int32)) + (1 : Int32)) % (3 : Int32))), .val (.int (((ix / (2 : Int32)) + (1 : Int32)) % (3 : Int32))), .unset, .unset, .unset, .unset, .unset, .unset, .unset] [(.int (2147483647 : Int32)), (.int p1), (.int (1 : Int32))])) _
      refine XS.iand X0.here hx rfl (hb hby at_54) rfl ?_
      show Steps p.tables e below (s₁.setTop (mkF m 55 #[.val (.int p0), .val (.int p1), .val (.int p2), .val (.int p3), .val (.int ix), .val (.int (ix / (2 : Int32))), .val (.int (((ix / (2 : Int32)) + (2 : Int32)) % (3 : Int32))), .val (.int (((ix / (2 : Int32)) + (1 : Int32)) % (3 : Int32))), .val (.int (((ix / (2 : Int32)) + (1 : Int32)) % (3 : Int32))), .unset, .unset, .unset, .unset, .unset, .unset, .unset] [(.int (p1 &&& (2147483647 : Int32))), (.int (1 : Int32))])) _
      refine XS.iconst X0.here hx rfl (hb hby at_55) ?_
      show Steps p.tables e below (s₁.setTop (mkF m 56 #[.val (.int p0), .val (.int p1), .val (.int p2), .val (.int p3), .val (.int ix), .val (.int (ix / (2 : Int32))), .val (.int (((ix / (2 : Int32)) + (2 : Int32)) % (3 : Int32))), .val (.int (((ix / (2 : Int32)) + (1 : Int32)) % (3 : Int32))), .val (.int (((ix / (2 : Int32)) + (1 : Int32)) % (3 : Int32))), .unset, .unset, .unset, .unset, .unset, .unset, .unset] [(.int (3 : Int32)), (.int (p1 &&& (2147483647 : Int32))), (.int (1 : Int32))])) _
      refine iremM X0 hx rfl (hb hby at_56) rfl (by decide) ?_
      show Steps p.tables e below (s₁.setTop (mkF m 57 #[.val (.int p0), .val (.int p1), .val (.int p2), .val (.int p3), .val (.int ix), .val (.int (ix / (2 : Int32))), .val (.int (((ix / (2 : Int32)) + (2 : Int32)) % (3 : Int32))), .val (.int (((ix / (2 : Int32)) + (1 : Int32)) % (3 : Int32))), .val (.int (((ix / (2 : Int32)) + (1 : Int32)) % (3 : Int32))), .unset, .unset, .unset, .unset, .unset, .unset, .unset] [(.int ((p1 &&& (2147483647 : Int32)) % (3 : Int32))), (.int (1 : Int32))])) _
      refine XS.iadd X0.here hx rfl (hb hby at_57) rfl ?_
      show Steps p.tables e below (s₁.setTop (mkF m 58 #[.val (.int p0), .val (.int p1), .val (.int p2), .val (.int p3), .val (.int ix), .val (.int (ix / (2 : Int32))), .val (.int (((ix / (2 : Int32)) + (2 : Int32)) % (3 : Int32))), .val (.int (((ix / (2 : Int32)) + (1 : Int32)) % (3 : Int32))), .val (.int (((ix / (2 : Int32)) + (1 : Int32)) % (3 : Int32))), .unset, .unset, .unset, .unset, .unset, .unset, .unset] [(.int ((1 : Int32) + ((p1 &&& (2147483647 : Int32)) % (3 : Int32))))])) _
      refine XS.istore X0.here hx rfl (hb hby at_58) rfl (l' := #[.val (.int p0), .val (.int p1), .val (.int p2), .val (.int p3), .val (.int ix), .val (.int (ix / (2 : Int32))), .val (.int (((ix / (2 : Int32)) + (2 : Int32)) % (3 : Int32))), .val (.int (((ix / (2 : Int32)) + (1 : Int32)) % (3 : Int32))), .val (.int ((1 : Int32) + ((p1 &&& (2147483647 : Int32)) % (3 : Int32)))), .unset, .unset, .unset, .unset, .unset, .unset, .unset]) rfl ?_
      exact kt
    exact tl60 _ _ _ _ (hpp.2 hc35_102) (by
      have q := own_rem p1 3 3 (by decide) (by decide)
      rcases own_split3 q.1 q.2 with h | h | h <;> rw [h] <;> decide)
set_option maxRecDepth 65536 in
set_option maxHeartbeats 40000000 in
theorem comes_1 {Post : Tables → Env → Array Value → State → Outcome → State → Prop} (hpost : ∀ tb e args s v u, (limb_1_1.after args s (.returned v) u = true ∧ limb_1_2.after args s (.returned v) u = true ∧ True) → FrameEnd s (.returned v) u (Jvm.fieldLocs frame_1_writes args s ++ Jvm.arrayLocs frame_1_arrays args s ++ Jvm.staticLocs frame_1_statics s) 16 128 → Post tb e args s (.returned v) u) :
    ArmFor flags0 classFile x code maxLocals ret World_1 tables_1 room_1 Calls_1 rest_1 Pre_1 Post := by
  intro l hfl _ _ p e ha hc hk s m args below hf hA hF happ hP
  obtain ⟨hcalls, hrest, hpre⟩ := hP
  obtain ⟨-, -, -, hnamed, -, -, -, hat⟩ := (Spec.applies_iff hf).mp happ
  obtain ⟨hg, hn⟩ := and_e (Cond.before_iff.mp (show (Jvm.Cond.and given_1 narrow_1).before args s = true from hpre))
  obtain ⟨gg1, gg2⟩ := and_e hg
  obtain ⟨gg3, gg4⟩ := and_e gg2
  obtain ⟨gg5, gg6⟩ := and_e gg4
  obtain ⟨gg7, gg8⟩ := and_e gg6
  obtain ⟨w0, w1, w2, w3, rfl⟩ : ∃ w0 w1 w2 w3 : Value, args = #[w0, w1, w2, w3] := by
    have hs : args.size = 4 := by simpa [Cond.value, given_1] using gg1
    obtain ⟨L⟩ := args
    match L, hs with
    | [w0, w1, w2, w3], _ => exact ⟨w0, w1, w2, w3, rfl⟩
  have hw := fun d (hd : d ∈ tables_1) => atoms_spec (ws := Jvm.Cond.code x code maxLocals ret :: tables_1) hat d (List.mem_cons_of_mem _ hd)
  have hfit : Fit s := fun {y c} hc i hi => by
    obtain ⟨ha, rfl⟩ := Array.getElem?_eq_some_iff.mp hc
    have q := List.all_eq_true.mp ((Array.all_eq_true_iff_forall_mem.mp hF) _ (Array.getElem_mem ha)) i (List.mem_range.mpr hi)
    simpa [Array.getElem?_eq_getElem hi] using q
  obtain ⟨i0, ei0⟩ := is_v gg3
  obtain rfl : w0 = (.int i0) := Option.some.inj ei0
  obtain ⟨i1, ei1⟩ := is_v gg5
  obtain rfl : w1 = (.int i1) := Option.some.inj ei1
  obtain ⟨i2, ei2⟩ := is_v gg7
  obtain rfl : w2 = (.int i2) := Option.some.inj ei2
  obtain ⟨i3, ei3⟩ := is_v gg8
  obtain rfl : w3 = (.int i3) := Option.some.inj ei3
  obtain ⟨n, o, h1, h2, h3, _, L, rfl, ⟨rfl, N⟩, hq⟩ := rm0 l s _ hw tables_1 i0 i1 i2 i3 s.heap s.heap.size (Nat.le_refl _)  p e ha hc hk s m _ below hf ((Spec.applies_iff_loose hf).mp happ).1 ⟨rfl, State.Warmed39.refl s, rfl⟩ trivial
  refine ⟨n, _, h1, h2, h3, hpost _ _ _ _ _ _ ⟨Cond.after_iff.mpr rfl, Cond.after_iff.mpr (eq_i res_at (Term.int_eval (1)) rfl), trivial⟩ ⟨hq.1, hq.2.1, (hq.2.2.sift fun y hy => Or.inr (N y hy)).mono (by decide) (by decide)⟩⟩
theorem main_1_1 : Claimed_1_1 := comes_1 fun _ _ _ _ _ _ h hF => ⟨h.1, hF⟩
theorem main_1_2 : Claimed_1_2 := comes_1 fun _ _ _ _ _ _ h hF => ⟨h.2.1, hF⟩
end Jvm.Pilot.@@N@@
namespace Jvm.Pilot.@@N@@
open Jvm Jvm.ClassFile Sem Op Lib Jvm.Free Jvm.Stand Jvm.Pilot.@@N@@.Jvm.D
/-! MADE BY PROGRAM (witnessworld.py) out of the Statement's table words and the real class files: 10 classes; the members and pool entries that the words name. The judged class is class 1, her method 3. -/
namespace start1
open Jvm.ClassFile
def u (s : String) : CpInfo := .utf8 (stringToUtf16 s)
/-- a pool by its gaps: so many unusable entries, then the entry; so many at the end -/
def gap : Nat → List CpInfo → List CpInfo
  | 0, r => r
  | n + 1, r => .unusable :: gap n r
def poolList (es : List (Nat × CpInfo)) (last : Nat) : List CpInfo := es.foldr (fun e r => gap e.1 (e.2 :: r)) (gap last [])
def pool (es : List (Nat × CpInfo)) (last : Nat) : Array CpInfo := ⟨poolList es last⟩
def fileOf (pool : Array CpInfo) (this : Nat) (attrs : Array Attribute := #[]) (ms : Array MethodInfo := #[]) (fl : Nat := 33) (sup : Nat := 0) (ifs : Array Nat := #[]) (fds : Array FieldInfo := #[]) : ClassFile where
  minorVersion := 0
  majorVersion := 65
  constantPool := pool
  accessFlags := fl
  thisClass := this
  superClass := sup
  interfaces := ifs
  fields := fds
  methods := ms
  attributes := attrs
def plain (name : String) (sup : Option ClassId) : Class where
  name := name
  kind := .ordinary
  loader := none
  accessFlags := 33
  super := sup
  interfaces := #[]
  cf := none
  fields := #[]
  methods := #[]
  instanceTypes := #[]
  staticTypes := #[]
  resolved := #[]
  callSites := []
  init := .initialized
  statics := none
  mirror := none

def pool0 : Array CpInfo := pool [(5, u "<init>"), (0, u "()V"), (1, .class_ 10), (1, u "java/lang/Object")] 113

def k0c0 : Code := { maxStack := 0, maxLocals := 1, code := object_method_1_code, exceptionTable := #[], attributes := #[] }
def k0m0 : Method := { name := "<init>", desc := "()V", sig := { parameters := [], returnType := none }, accessFlags := 1, code := some k0c0 }
/-- java/lang/Object -/
def k0 : Class := { plain "java/lang/Object" none with
  accessFlags := 33
  interfaces := #[]
  cf := some (fileOf pool0 8 #[] #[{ accessFlags := 1, nameIndex := 5, descriptorIndex := 6, attributes := #[] }] 33 0 #[] #[])
  fields := #[]
  methods := #[k0m0]
  instanceTypes := #[]
  staticTypes := #[]
  resolved := Array.replicate 124 none
  statics := none }

def pool1 : Array CpInfo := pool [(2, .class_ 4), (1, u "java/lang/Object"), (0, u "<init>"), (0, u "()V"), (0, .integer 2147483647), (0, .class_ 9), (0, u "com/example/slotpack/slotpack/IndexSet"), (0, .methodref 8 11), (0, .nameAndType 5 12), (0, u "(I)V"), (0, .methodref 8 14), (0, .nameAndType 15 12), (0, u "add"), (0, .methodref 8 17), (0, .nameAndType 18 12), (0, u "remove"), (0, .methodref 20 21), (0, .class_ 22), (0, .nameAndType 23 24), (0, u "com/example/slotpack/slotpack/IndexSetRemovePinLaw"), (0, u "removeAt"), (0, u "([III)I"), (0, .methodref 8 26), (0, .nameAndType 27 28), (0, u "size"), (0, u "()I"), (0, .methodref 8 30), (0, .nameAndType 31 32), (0, u "get"), (0, u "(I)I"), (0, .methodref 8 34), (0, .nameAndType 35 36), (0, u "contains"), (0, u "(I)Z"), (0, .methodref 20 38), (0, .nameAndType 39 40), (0, u "inSet"), (0, u "([III)Z"), (3, u "law"), (0, u "(IIII)Z")] 4

def k1m0 : Method := { name := "<init>", desc := "()V", sig := { parameters := [], returnType := none }, accessFlags := 1, code := none }
def k1c1 : Code := { maxStack := 5, maxLocals := 3, code := method_2_code, exceptionTable := #[], attributes := #[] }
def k1m1 : Method := { name := "removeAt", desc := "([III)I", sig := { parameters := [(.array .int), .int, .int], returnType := some .int }, accessFlags := 10, code := some k1c1 }
def k1c2 : Code := { maxStack := 2, maxLocals := 3, code := method_3_code, exceptionTable := #[], attributes := #[] }
def k1m2 : Method := { name := "inSet", desc := "([III)Z", sig := { parameters := [(.array .int), .int, .int], returnType := some .boolean }, accessFlags := 10, code := some k1c2 }
def k1c3 : Code := { maxStack := 4, maxLocals := 16, code := code, exceptionTable := #[], attributes := #[] }
def k1m3 : Method := { name := "law", desc := "(IIII)Z", sig := { parameters := [.int, .int, .int, .int], returnType := some .boolean }, accessFlags := 9, code := some k1c3 }
/-- com/example/slotpack/slotpack/IndexSetRemovePinLaw -/
def k1 : Class := { plain "com/example/slotpack/slotpack/IndexSetRemovePinLaw" (some 0) with
  accessFlags := 49
  interfaces := #[]
  cf := some (fileOf pool1 20 #[] #[{ accessFlags := 1, nameIndex := 5, descriptorIndex := 6, attributes := #[] }, { accessFlags := 10, nameIndex := 23, descriptorIndex := 24, attributes := #[] }, { accessFlags := 10, nameIndex := 39, descriptorIndex := 40, attributes := #[] }, { accessFlags := 9, nameIndex := 44, descriptorIndex := 45, attributes := #[] }] 49 2 #[] #[])
  fields := #[]
  methods := #[k1m0, k1m1, k1m2, k1m3]
  instanceTypes := #[]
  staticTypes := #[]
  resolved := Array.replicate 50 none
  statics := none }

def pool2 : Array CpInfo := pool [(1, .methodref 2 3), (0, .class_ 4), (0, .nameAndType 5 6), (0, u "java/lang/Object"), (0, u "<init>"), (0, u "()V"), (0, .fieldref 8 9), (0, .class_ 10), (0, .nameAndType 11 12), (0, u "com/example/slotpack/slotpack/IndexSet"), (0, u "members"), (0, u "[I"), (0, .fieldref 8 14), (0, .nameAndType 15 12), (0, u "positions"), (0, .methodref 17 18), (0, .class_ 19), (0, .nameAndType 20 21), (0, u "java/util/Arrays"), (0, u "fill"), (0, u "([II)V"), (0, .fieldref 8 23), (0, .nameAndType 24 25), (0, u "size"), (0, u "I"), (0, u "(I)V"), (2, u "()I"), (0, u "get"), (0, u "(I)I"), (0, u "contains"), (0, u "(I)Z"), (1, u "add"), (0, u "remove")] 2

def k2c0 : Code := { maxStack := 2, maxLocals := 2, code := prog_16_method_1_code, exceptionTable := #[], attributes := #[] }
def k2m0 : Method := { name := "<init>", desc := "(I)V", sig := { parameters := [.int], returnType := none }, accessFlags := 0, code := some k2c0 }
def k2c1 : Code := { maxStack := 1, maxLocals := 1, code := prog_16_method_2_code, exceptionTable := #[], attributes := #[] }
def k2m1 : Method := { name := "size", desc := "()I", sig := { parameters := [], returnType := some .int }, accessFlags := 0, code := some k2c1 }
def k2c2 : Code := { maxStack := 2, maxLocals := 2, code := prog_16_method_3_code, exceptionTable := #[], attributes := #[] }
def k2m2 : Method := { name := "get", desc := "(I)I", sig := { parameters := [.int], returnType := some .int }, accessFlags := 0, code := some k2c2 }
def k2c3 : Code := { maxStack := 2, maxLocals := 2, code := prog_16_method_4_code, exceptionTable := #[], attributes := #[] }
def k2m3 : Method := { name := "contains", desc := "(I)Z", sig := { parameters := [.int], returnType := some .boolean }, accessFlags := 0, code := some k2c3 }
def k2c4 : Code := { maxStack := 3, maxLocals := 2, code := prog_16_method_5_code, exceptionTable := #[], attributes := #[] }
def k2m4 : Method := { name := "add", desc := "(I)V", sig := { parameters := [.int], returnType := none }, accessFlags := 0, code := some k2c4 }
def k2c5 : Code := { maxStack := 3, maxLocals := 4, code := prog_16_method_6_code, exceptionTable := #[], attributes := #[] }
def k2m5 : Method := { name := "remove", desc := "(I)V", sig := { parameters := [.int], returnType := none }, accessFlags := 0, code := some k2c5 }
/-- com/example/slotpack/slotpack/IndexSet -/
def k2 : Class := { plain "com/example/slotpack/slotpack/IndexSet" (some 0) with
  accessFlags := 48
  interfaces := #[]
  cf := some (fileOf pool2 8 #[] #[{ accessFlags := 0, nameIndex := 5, descriptorIndex := 26, attributes := #[] }, { accessFlags := 0, nameIndex := 24, descriptorIndex := 29, attributes := #[] }, { accessFlags := 0, nameIndex := 30, descriptorIndex := 31, attributes := #[] }, { accessFlags := 0, nameIndex := 32, descriptorIndex := 33, attributes := #[] }, { accessFlags := 0, nameIndex := 35, descriptorIndex := 26, attributes := #[] }, { accessFlags := 0, nameIndex := 36, descriptorIndex := 26, attributes := #[] }] 48 2 #[] #[{ accessFlags := 18, nameIndex := 11, descriptorIndex := 12, attributes := #[] }, { accessFlags := 18, nameIndex := 15, descriptorIndex := 12, attributes := #[] }, { accessFlags := 2, nameIndex := 24, descriptorIndex := 25, attributes := #[] }])
  fields := #[{ name := "members", type := (.array .int), accessFlags := 18, slot := 0, constantValue := 0 }, { name := "positions", type := (.array .int), accessFlags := 18, slot := 1, constantValue := 0 }, { name := "size", type := .int, accessFlags := 2, slot := 2, constantValue := 0 }]
  methods := #[k2m0, k2m1, k2m2, k2m3, k2m4, k2m5]
  instanceTypes := #[(.array .int), (.array .int), .int]
  staticTypes := #[]
  resolved := Array.replicate 39 none
  statics := none }

def pool3 : Array CpInfo := pool [(2, .class_ 4), (1, u "java/lang/Object"), (0, u "<init>"), (0, u "()V"), (7, .class_ 16), (1, u "java/util/Arrays"), (57, .class_ 76), (1, u "java/util/Arrays$NaturalOrder"), (36, .class_ 115), (1, u "java/util/Arrays$LegacyMergeSort"), (1, u "Z"), (257, .class_ 376), (0, u "java/util/Arrays$ArrayList"), (68, u "$assertionsDisabled"), (269, u "MIN_ARRAY_SORT_GRAN"), (0, u "I"), (2, u "INSERTIONSORT_THRESHOLD"), (120, u "fill"), (4, u "([II)V"), (129, .class_ 976), (0, u "java/util/Arrays$ArrayItr")] 52

def k3m0 : Method := { name := "<init>", desc := "()V", sig := { parameters := [], returnType := none }, accessFlags := 2, code := none }
def k3c1 : Code := { maxStack := 3, maxLocals := 4, code := jdk_65_method_103_code, exceptionTable := #[], attributes := #[] }
def k3m1 : Method := { name := "fill", desc := "([II)V", sig := { parameters := [(.array .int), .int], returnType := none }, accessFlags := 9, code := some k3c1 }
/-- java/util/Arrays -/
def k3 : Class := { plain "java/util/Arrays" (some 0) with
  accessFlags := 49
  interfaces := #[]
  cf := some (fileOf pool3 14 #[.nestMembers #[975, 375, 113, 74]] #[{ accessFlags := 2, nameIndex := 5, descriptorIndex := 6, attributes := #[] }, { accessFlags := 9, nameIndex := 840, descriptorIndex := 845, attributes := #[] }] 49 2 #[] #[{ accessFlags := 26, nameIndex := 715, descriptorIndex := 716, attributes := #[] }, { accessFlags := 26, nameIndex := 719, descriptorIndex := 716, attributes := #[] }, { accessFlags := 4120, nameIndex := 445, descriptorIndex := 117, attributes := #[] }])
  fields := #[{ name := "MIN_ARRAY_SORT_GRAN", type := .int, accessFlags := 26, slot := 0, constantValue := 0 }, { name := "INSERTIONSORT_THRESHOLD", type := .int, accessFlags := 26, slot := 1, constantValue := 0 }, { name := "$assertionsDisabled", type := .boolean, accessFlags := 4120, slot := 2, constantValue := 0 }]
  methods := #[k3m0, k3m1]
  instanceTypes := #[]
  staticTypes := #[.int, .int, .boolean]
  resolved := Array.replicate 1029 none
  statics := none }

def pool4 : Array CpInfo := pool [(1, u "java/lang/Cloneable"), (0, .class_ 1), (0, u "java/lang/Object"), (0, .class_ 3)] 3

/-- java/lang/Cloneable -/
def k4 : Class := { plain "java/lang/Cloneable" (some 0) with
  accessFlags := 1537
  interfaces := #[]
  cf := some (fileOf pool4 2 #[] #[] 1537 4 #[] #[])
  fields := #[]
  methods := #[]
  instanceTypes := #[]
  staticTypes := #[]
  resolved := Array.replicate 8 none
  statics := none }

def pool5 : Array CpInfo := pool [(1, u "java/io/Serializable"), (0, .class_ 1), (0, u "java/lang/Object"), (0, .class_ 3)] 3

/-- java/io/Serializable -/
def k5 : Class := { plain "java/io/Serializable" (some 0) with
  accessFlags := 1537
  interfaces := #[]
  cf := some (fileOf pool5 2 #[] #[] 1537 4 #[] #[])
  fields := #[]
  methods := #[]
  instanceTypes := #[]
  staticTypes := #[]
  resolved := Array.replicate 8 none
  statics := none }

/-- the primitive byte -/
def k6 : Class := { plain "byte" none with kind := .primitive 'B', accessFlags := 0x411 }
/-- [B -/
def k7 : Class := { plain "[B" (some 0) with kind := .array 6 .byte, interfaces := #[4, 5], accessFlags := 1041 }

/-- the primitive int -/
def k8 : Class := { plain "int" none with kind := .primitive 'I', accessFlags := 0x411 }
/-- [I -/
def k9 : Class := { plain "[I" (some 0) with kind := .array 8 .int, interfaces := #[4, 5], accessFlags := 1041 }

def heap : Heap := #[]
def classes : Array Class := #[k0, k1, k2, k3, k4, k5, k6, k7, k8, k9]
def interned : List (Array UInt16 × Addr) := []
def slotsUsed : Nat := 0
def theMethod : MethodId := ⟨1, 3⟩
def args0 : Array Value := #[.int 1, .int 2, .int 3, .int 4]
def aboutOver (below : List Frame) : State where
  vm := { classes := classes, interned := interned.toArray }
  heap := heap
  slotsUsed := slotsUsed
  threads := #[{ frames := .invoking theMethod args0 :: below }]
def below0 : List Frame := [.native { method := ⟨0, 0⟩, args := #[] }]
def about1 : State := aboutOver below0
def p0 : Program := .bare "" "" ""
def e0 : Env := launch0.env 0 0 0
theorem w_frames : about1.frames = Frame.invoking theMethod args0 :: below0 := rfl
set_option maxRecDepth 65536 in
theorem w_args : argsFit about1.vm theMethod args0 = true := by decide +kernel
set_option maxRecDepth 65536 in
theorem w_heap : heapFits about1 = true := by decide +kernel
set_option maxRecDepth 65536 in
theorem w_runnable : about1.curStatus? = some .runnable := by decide +kernel
set_option maxRecDepth 65536 in
theorem w_alone : about1.alone = true := by decide +kernel
set_option maxRecDepth 65536 in
theorem w_named : about1.methodNamed? x = some theMethod := by decide +kernel
set_option maxRecDepth 65536 in
theorem w_hears : about1.hears theMethod below0 = true := by decide +kernel
set_option maxRecDepth 65536 in
theorem w_ripe : about1.ripe theMethod args0 below0 = true := by decide +kernel
theorem w_running : about1.status = .running := rfl
set_option maxRecDepth 65536 in
theorem w_room : about1.hasRoom e0.platform room_1 = true :=
  launch0.hasRoom_least _ room_1 (by decide +kernel) (by decide +kernel) (by decide +kernel) (by decide +kernel) (by decide +kernel) (by decide +kernel)
theorem allAtoms_all (ts : List Jvm.Cond) (a : Array Jvm.Value) (st : Jvm.State) : (allAtoms ts).before a st = ts.all (fun c => c.before a st) := by
  induction ts with
  | nil => rfl
  | cons c t ih =>
    show (Jvm.Cond.and c (allAtoms t)).before a st = _
    rw [Jvm.Cond.before_and, ih, List.all_cons]
def words1 : List Jvm.Cond := Jvm.Cond.code x code maxLocals ret :: tables_1
/-- a 'code' word, met by the world's own term for the bytes: nothing is compared byte by byte -/
theorem code_word {y : MethodName} {bytes : ByteArray} {mx : Nat} {rt : Option FieldType} {a : Array Value} {s : State} {m : MethodId} {meth : Method} {c : Code} (h1 : s.methodNamed? y = some m) (h2 : s.vm.method? m = some meth) (h3 : meth.code = some c) (h4 : c.code = bytes)
    (h5 : (c.maxLocals == mx && c.exceptionTable.isEmpty && decide (c.maxStack ≤ mostOperands) && decide (meth.sig.returnType = rt) && !meth.locks && decide (parseMethodDescriptor y.desc = some meth.sig)) = true) : (Jvm.Cond.code y bytes mx rt).before a s = true := by
  simp only [Bool.and_eq_true, beq_iff_eq, Bool.not_eq_true', decide_eq_true_eq] at h5
  obtain ⟨⟨⟨⟨⟨g1, g2⟩, g3⟩, g4⟩, g5⟩, g6⟩ := h5
  simp [Cond.before, Cond.holds, Cond.value, h1, h2, h3, h4, g1, g2, g3, g4, g5, g6]
def isCode : Jvm.Cond → Bool
  | .code _ _ _ _ => true
  | _ => false
theorem all_split {L : List Jvm.Cond} {P : Jvm.Cond → Bool} (h1 : L.all (fun c => isCode c || P c) = true) (h2 : ∀ c ∈ L.filter isCode, P c = true) : L.all P = true := by
  refine List.all_eq_true.mpr fun c hc => ?_
  have h := List.all_eq_true.mp h1 c hc
  rcases Bool.eq_false_or_eq_true (isCode c) with hi | hi
  · exact h2 c (List.mem_filter.mpr ⟨hc, hi⟩)
  · simpa [hi] using h
set_option maxRecDepth 65536 in
theorem w_c0 : (Jvm.Cond.code x code maxLocals ret).before args0 about1 = true := code_word (m := ⟨1, 3⟩) (meth := k1m3) (c := k1c3) (by decide +kernel) rfl rfl rfl (by decide +kernel)
set_option maxRecDepth 65536 in
theorem w_c1 : (Jvm.Cond.code ({ cls := "com/example/slotpack/slotpack/IndexSet", name := "<init>", desc := "(I)V" } : Jvm.MethodName) prog_16_method_1_code (2 : Nat) (Option.none : Option Jvm.ClassFile.FieldType)).before args0 about1 = true := code_word (m := ⟨2, 0⟩) (meth := k2m0) (c := k2c0) (by decide +kernel) rfl rfl rfl (by decide +kernel)
set_option maxRecDepth 65536 in
theorem w_c2 : (Jvm.Cond.code ({ cls := "java/lang/Object", name := "<init>", desc := "()V" } : Jvm.MethodName) object_method_1_code (1 : Nat) (Option.none : Option Jvm.ClassFile.FieldType)).before args0 about1 = true := code_word (m := ⟨0, 0⟩) (meth := k0m0) (c := k0c0) (by decide +kernel) rfl rfl rfl (by decide +kernel)
set_option maxRecDepth 65536 in
theorem w_c3 : (Jvm.Cond.code ({ cls := "java/util/Arrays", name := "fill", desc := "([II)V" } : Jvm.MethodName) jdk_65_method_103_code (4 : Nat) (Option.none : Option Jvm.ClassFile.FieldType)).before args0 about1 = true := code_word (m := ⟨3, 1⟩) (meth := k3m1) (c := k3c1) (by decide +kernel) rfl rfl rfl (by decide +kernel)
set_option maxRecDepth 65536 in
theorem w_c4 : (Jvm.Cond.code ({ cls := "com/example/slotpack/slotpack/IndexSet", name := "add", desc := "(I)V" } : Jvm.MethodName) prog_16_method_5_code (2 : Nat) (Option.none : Option Jvm.ClassFile.FieldType)).before args0 about1 = true := code_word (m := ⟨2, 4⟩) (meth := k2m4) (c := k2c4) (by decide +kernel) rfl rfl rfl (by decide +kernel)
set_option maxRecDepth 65536 in
theorem w_c5 : (Jvm.Cond.code ({ cls := "com/example/slotpack/slotpack/IndexSet", name := "remove", desc := "(I)V" } : Jvm.MethodName) prog_16_method_6_code (4 : Nat) (Option.none : Option Jvm.ClassFile.FieldType)).before args0 about1 = true := code_word (m := ⟨2, 5⟩) (meth := k2m5) (c := k2c5) (by decide +kernel) rfl rfl rfl (by decide +kernel)
set_option maxRecDepth 65536 in
theorem w_c6 : (Jvm.Cond.code ({ cls := "com/example/slotpack/slotpack/IndexSetRemovePinLaw", name := "removeAt", desc := "([III)I" } : Jvm.MethodName) method_2_code (3 : Nat) (Option.some Jvm.ClassFile.FieldType.int)).before args0 about1 = true := code_word (m := ⟨1, 1⟩) (meth := k1m1) (c := k1c1) (by decide +kernel) rfl rfl rfl (by decide +kernel)
set_option maxRecDepth 65536 in
theorem w_c7 : (Jvm.Cond.code ({ cls := "com/example/slotpack/slotpack/IndexSet", name := "size", desc := "()I" } : Jvm.MethodName) prog_16_method_2_code (1 : Nat) (Option.some Jvm.ClassFile.FieldType.int)).before args0 about1 = true := code_word (m := ⟨2, 1⟩) (meth := k2m1) (c := k2c1) (by decide +kernel) rfl rfl rfl (by decide +kernel)
set_option maxRecDepth 65536 in
theorem w_c8 : (Jvm.Cond.code ({ cls := "com/example/slotpack/slotpack/IndexSet", name := "contains", desc := "(I)Z" } : Jvm.MethodName) prog_16_method_4_code (2 : Nat) (Option.some Jvm.ClassFile.FieldType.boolean)).before args0 about1 = true := code_word (m := ⟨2, 3⟩) (meth := k2m3) (c := k2c3) (by decide +kernel) rfl rfl rfl (by decide +kernel)
set_option maxRecDepth 65536 in
theorem w_c9 : (Jvm.Cond.code ({ cls := "com/example/slotpack/slotpack/IndexSetRemovePinLaw", name := "inSet", desc := "([III)Z" } : Jvm.MethodName) method_3_code (3 : Nat) (Option.some Jvm.ClassFile.FieldType.boolean)).before args0 about1 = true := code_word (m := ⟨1, 2⟩) (meth := k1m2) (c := k1c2) (by decide +kernel) rfl rfl rfl (by decide +kernel)
set_option maxRecDepth 65536 in
theorem w_c10 : (Jvm.Cond.code ({ cls := "com/example/slotpack/slotpack/IndexSet", name := "get", desc := "(I)I" } : Jvm.MethodName) prog_16_method_3_code (2 : Nat) (Option.some Jvm.ClassFile.FieldType.int)).before args0 about1 = true := code_word (m := ⟨2, 2⟩) (meth := k2m2) (c := k2c2) (by decide +kernel) rfl rfl rfl (by decide +kernel)
def codes1 : List Jvm.Cond := [Jvm.Cond.code x code maxLocals ret, Jvm.Cond.code ({ cls := "com/example/slotpack/slotpack/IndexSet", name := "<init>", desc := "(I)V" } : Jvm.MethodName) prog_16_method_1_code (2 : Nat) (Option.none : Option Jvm.ClassFile.FieldType), Jvm.Cond.code ({ cls := "java/lang/Object", name := "<init>", desc := "()V" } : Jvm.MethodName) object_method_1_code (1 : Nat) (Option.none : Option Jvm.ClassFile.FieldType), Jvm.Cond.code ({ cls := "java/util/Arrays", name := "fill", desc := "([II)V" } : Jvm.MethodName) jdk_65_method_103_code (4 : Nat) (Option.none : Option Jvm.ClassFile.FieldType), Jvm.Cond.code ({ cls := "com/example/slotpack/slotpack/IndexSet", name := "add", desc := "(I)V" } : Jvm.MethodName) prog_16_method_5_code (2 : Nat) (Option.none : Option Jvm.ClassFile.FieldType), Jvm.Cond.code ({ cls := "com/example/slotpack/slotpack/IndexSet", name := "remove", desc := "(I)V" } : Jvm.MethodName) prog_16_method_6_code (4 : Nat) (Option.none : Option Jvm.ClassFile.FieldType), Jvm.Cond.code ({ cls := "com/example/slotpack/slotpack/IndexSetRemovePinLaw", name := "removeAt", desc := "([III)I" } : Jvm.MethodName) method_2_code (3 : Nat) (Option.some Jvm.ClassFile.FieldType.int), Jvm.Cond.code ({ cls := "com/example/slotpack/slotpack/IndexSet", name := "size", desc := "()I" } : Jvm.MethodName) prog_16_method_2_code (1 : Nat) (Option.some Jvm.ClassFile.FieldType.int), Jvm.Cond.code ({ cls := "com/example/slotpack/slotpack/IndexSet", name := "contains", desc := "(I)Z" } : Jvm.MethodName) prog_16_method_4_code (2 : Nat) (Option.some Jvm.ClassFile.FieldType.boolean), Jvm.Cond.code ({ cls := "com/example/slotpack/slotpack/IndexSetRemovePinLaw", name := "inSet", desc := "([III)Z" } : Jvm.MethodName) method_3_code (3 : Nat) (Option.some Jvm.ClassFile.FieldType.boolean), Jvm.Cond.code ({ cls := "com/example/slotpack/slotpack/IndexSet", name := "get", desc := "(I)I" } : Jvm.MethodName) prog_16_method_3_code (2 : Nat) (Option.some Jvm.ClassFile.FieldType.int)]
set_option maxRecDepth 65536 in
theorem codes_eq : words1.filter isCode = codes1 := rfl
theorem w_codes : ∀ c ∈ words1.filter isCode, c.before args0 about1 = true := by
  rw [codes_eq]
  intro c hc
  simp only [codes1, List.mem_cons, List.not_mem_nil, or_false] at hc
  rcases hc with rfl | rfl | rfl | rfl | rfl | rfl | rfl | rfl | rfl | rfl | rfl
  · exact w_c0
  · exact w_c1
  · exact w_c2
  · exact w_c3
  · exact w_c4
  · exact w_c5
  · exact w_c6
  · exact w_c7
  · exact w_c8
  · exact w_c9
  · exact w_c10
set_option maxRecDepth 65536 in
theorem w_t1 : (words1.take 24).all (fun c => isCode c || c.before args0 about1) = true := by decide +kernel
set_option maxRecDepth 65536 in
theorem w_t2 : ((words1.drop 24).take 24).all (fun c => isCode c || c.before args0 about1) = true := by decide +kernel
set_option maxRecDepth 65536 in
theorem w_t3 : ((words1.drop 24).drop 24).all (fun c => isCode c || c.before args0 about1) = true := by decide +kernel
theorem w_tables : (allAtoms (Jvm.Cond.code x code maxLocals ret :: tables_1)).before args0 about1 = true := by
  rw [allAtoms_all]
  show words1.all (fun c => c.before args0 about1) = true
  refine all_split ?_ w_codes
  rw [← List.take_append_drop 24 words1, List.all_append, w_t1, ← List.take_append_drop 24 (words1.drop 24), List.all_append, w_t2, w_t3]
  rfl
set_option maxRecDepth 65536 in
theorem w_case : (Jvm.Cond.and given_1 narrow_1).before args0 about1 = true := by decide +kernel
theorem w_applies : (headSpec (Jvm.Cond.code x code maxLocals ret :: tables_1) room_1).applies x e0.platform about1 = true :=
  (Spec.applies_iff w_frames).mpr ⟨w_running, w_runnable, w_alone, w_named, w_hears, w_ripe, w_room, w_tables⟩
theorem atStart : AtStart classFile x code maxLocals ret World_1 tables_1 room_1 Calls_1 rest_1 Pre_1 launch0 p0 e0 about1 theMethod args0 below0 :=
  ⟨lists_1, trivial, launch0.admits_env _ _ _, launch0.least_env, fairChoices_fair.cas, fairChoices_fair.clock, w_frames, w_args, w_heap, w_applies, trivial, trivial, w_case⟩
end start1
theorem witness_1 : WitnessClaimed_1 := ⟨start1.p0, start1.e0, start1.about1, start1.theMethod, start1.args0, start1.below0, start1.atStart⟩
end Jvm.Pilot.@@N@@
