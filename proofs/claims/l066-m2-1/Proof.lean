import JvmDerived
import JvmDerived.Pilot.@@N@@Statement
import JvmDerived.Pilot.@@N@@Code
set_option linter.unusedVariables false
set_option linter.unusedSimpArgs false
@@BLOCK:NumsL.lean.txt@@
namespace Jvm.Pilot.@@N@@
open Jvm Jvm.ClassFile Sem Op Lib Jvm.Free Jvm.Stand Jvm.LawKit Jvm.RoadKit Bundle Jvm.Pilot.@@N@@.Jvm.D
/-! OwnGo: from here the run ends, returning as Q says -/
def OwnGo (p : Program) (e : Env) (below : List Frame) (s : State) (C S : Nat) (Q : Option Value → Heap → List Loc → Prop) (T : State) (g : JFrame) : Prop :=
  ∃ s₂ o, Steps p.tables e below (T.setTop g) s₂ ∧ s₂.status = .running ∧ Ended s₂ below o ∧ ∃ v L, o = .returned v ∧ Q v s₂.heap L ∧ FrameEnd s o s₂ L C S
section OwnBase
variable {p : Program} {l : Launch} {e : Env} {R : Room} {s : State} {m : MethodId} {args : Array Value} {below : List Frame} {meth : Method} {c : Code} {T T' : State} {locs : List Loc} {cells slots C S : Nat} {Q : Option Value → Heap → List Loc → Prop} {g g' : JFrame}
theorem own_st (k : ∀ t, Steps p.tables e below (T'.setTop g') t → Steps p.tables e below (T.setTop g) t) (h : OwnGo p e below s C S Q T' g') : OwnGo p e below s C S Q T g := by
  obtain ⟨s₂, o, h1, h2⟩ := h
  exact ⟨s₂, o, k _ h1, h2⟩
theorem own_tr (k : Steps p.tables e below (T.setTop g) (T'.setTop g')) (h : OwnGo p e below s C S Q T' g') : OwnGo p e below s C S Q T g := by
  obtain ⟨s₂, o, h1, h2⟩ := h
  exact ⟨s₂, o, k.trans h1, h2⟩
theorem own_cast (q : g = g') (h : OwnGo p e below s C S Q T g') : OwnGo p e below s C S Q T g := q ▸ h
theorem own_ret {v : Option Value} (X : Stand p l e R s m args below meth c T locs cells slots) (hlk : meth.locks = false) (hv : meth.sig.returnType = none → v = none)
    (step : ∀ fs, (∀ (f : JFrame) (acts : List Action), f.method = m → f.locked = none → f.entered = [] → (doReturn e (T.setTop f) acts v).1 = T.setFrames fs) → Steps p.tables e below (T.setTop g) (T.setFrames fs))
    (hQ : Q v T.heap locs) (hc : cells ≤ C) (hs : slots ≤ S) : OwnGo p e below s C S Q T g := by
  obtain ⟨fs, hr, hrun, hended, hW, hsame⟩ := X.leave (v := v) hv hlk
  exact ⟨_, _, step fs hr, hrun, hended, v, locs, rfl, hQ, ⟨_, rfl⟩, hW, hsame.mono hc hs⟩
end OwnBase

def OwnGoW (p : Program) (e : Env) (below : List Frame) (s : State) (C S : Nat) (Q : Option Value → Heap → List Loc → Prop) (T : State) (g : JFrame) : Prop :=
  ∃ s₂ o, Steps p.tables e below (T.setTop g) s₂ ∧ s₂.status = .running ∧ Ended s₂ below o ∧ ∃ v L, o = .returned v ∧ Q v s₂.heap L ∧ ReturnedEndW s o s₂ L C S
section OwnBaseW
variable {p : Program} {l : Launch} {e : Env} {R : Room} {s : State} {m : MethodId} {args : Array Value} {below : List Frame} {meth : Method} {c : Code} {T T' : State} {locs : List Loc} {cells slots C S : Nat} {Q : Option Value → Heap → List Loc → Prop} {g g' : JFrame}
theorem own_stW (k : ∀ t, Steps p.tables e below (T'.setTop g') t → Steps p.tables e below (T.setTop g) t) (h : OwnGoW p e below s C S Q T' g') : OwnGoW p e below s C S Q T g := by
  obtain ⟨s₂, o, h1, h2⟩ := h
  exact ⟨s₂, o, k _ h1, h2⟩
theorem own_trW (k : Steps p.tables e below (T.setTop g) (T'.setTop g')) (h : OwnGoW p e below s C S Q T' g') : OwnGoW p e below s C S Q T g := by
  obtain ⟨s₂, o, h1, h2⟩ := h
  exact ⟨s₂, o, k.trans h1, h2⟩
theorem own_castW (q : g = g') (h : OwnGoW p e below s C S Q T g') : OwnGoW p e below s C S Q T g := q ▸ h
theorem own_retW {v : Option Value} {vm1 : Vm} {k1 : Nat} (X : Stand p l e R (s.setVm vm1) m args below meth c T locs cells slots) (hS : s.Since vm1 k1) (hk : k1 ≤ T.heap.size) (hlk : meth.locks = false) (hv : meth.sig.returnType = none → v = none)
    (step : ∀ fs, (∀ (f : JFrame) (acts : List Action), f.method = m → f.locked = none → f.entered = [] → (doReturn e (T.setTop f) acts v).1 = T.setFrames fs) → Steps p.tables e below (T.setTop g) (T.setFrames fs))
    (hQ : Q v T.heap locs) (hc : cells ≤ C) (hs : slots ≤ S) : OwnGoW p e below s C S Q T g := by
  obtain ⟨fs, hr, hrun, hended, q1, q2, q3, q4⟩ := X.leaveW hS hk (v := v) hv hlk
  exact ⟨_, _, step fs hr, hrun, hended, v, locs, rfl, hQ, q1, q2, q3, q4.mono hc hs⟩
end OwnBaseW
theorem own_wS {a0 : Array Value} {Z : State} (hw : ∀ d ∈ tables_1, d.before a0 Z = true) : ∀ d ∈ Bundle.stringAtoms, d.before a0 Z = true := by
  have q : ∀ d ∈ [Jvm.Cond.initialized "java/lang/String", .instantiable "java/lang/String" 4, .arrayClass .byte, .laysFinal "java/lang/String" "java/lang/String" "value" "[B", .laysFinal "java/lang/String" "java/lang/String" "coder" "B", .soleField "java/lang/String" "value", .soleField "java/lang/String" "coder"], d.before a0 Z = true := by
    intro d hd
    simp only [List.mem_cons, List.not_mem_nil, or_false] at hd
    rcases hd with rfl | rfl | rfl | rfl | rfl | rfl | rfl
    · exact hw _ (List.mem_of_getElem? (i := 5) rfl)
    · exact hw _ (List.mem_of_getElem? (i := 6) rfl)
    · exact hw _ (List.mem_of_getElem? (i := 7) rfl)
    · exact hw _ (List.mem_of_getElem? (i := 8) rfl)
    · exact hw _ (List.mem_of_getElem? (i := 9) rfl)
    · exact hw _ (List.mem_of_getElem? (i := 10) rfl)
    · exact hw _ (List.mem_of_getElem? (i := 11) rfl)
  exact q
def own_at : List Addr → Nat → Value
  | [], _ => .null
  | a :: _, 0 => .ref a
  | _ :: as, d + 1 => own_at as d
def own_chain (Z : State) (h : Heap) : Value → List Addr → Prop
  | v, [] => v = .null
  | v, a :: as => v = .ref a ∧ ∃ w, Fld Z h a "com/example/liblockmode/liblockmode/core/Grant" "nextLogged" "Lcom/example/liblockmode/liblockmode/core/Grant;" w ∧ own_chain Z h w as
theorem own_at_ref : ∀ (as : List Addr) (d : Nat), (own_at as d).isRef = true
  | [], _ => rfl
  | _ :: _, 0 => rfl
  | _ :: as, d + 1 => own_at_ref as d
theorem own_at_far : ∀ (as : List Addr) (d : Nat), as.length ≤ d → own_at as d = .null
  | [], _, _ => rfl
  | _ :: _, 0, h => absurd h (Nat.not_succ_le_zero _)
  | _ :: as, d + 1, h => own_at_far as d (Nat.le_of_succ_le_succ h)
theorem own_chain_ref {Z : State} {h : Heap} {v : Value} {as : List Addr} (q : own_chain Z h v as) : v.isRef = true := by
  cases as with
  | nil => obtain rfl : v = .null := q; rfl
  | cons a as => obtain ⟨rfl, -⟩ := q; rfl
theorem own_jlt {j d : Nat} {k : Int32} (hj : (j : Int) + d = k.toInt) : Int32.ofNat j < k ↔ 0 < d := by
  have a := k.toInt_lt
  rw [Int32.lt_iff_toInt_lt, Int32.toInt_ofNat_of_lt (by omega)]
  omega
theorem own_j1 (j : Nat) : Int32.ofNat j + (1 : Int32) = Int32.ofNat (j + 1) := (Int32.ofNat_add j 1).symm
theorem own_sto {t a : Addr} {k i : Int32} {w : Value} (h : w.isRef = true) : storeLocals #[.val (.ref t), .val (.int k), .val (.ref a), .val (.int i)] 2 w = some #[.val (.ref t), .val (.int k), .val w, .val (.int i)] := by
  rcases ref_cases h with rfl | ⟨b, rfl⟩ <;> rfl
theorem own_stou {t : Addr} {k : Int32} {w : Value} (h : w.isRef = true) : storeLocals #[.val (.ref t), .val (.int k), .unset, .unset] 2 w = some #[.val (.ref t), .val (.int k), .val w, .unset] := by
  rcases ref_cases h with rfl | ⟨b, rfl⟩ <;> rfl
theorem own_n (p : Int32) : ((p &&& 2147483647) % 5) = 0 ∨ ((p &&& 2147483647) % 5) = 1 ∨ ((p &&& 2147483647) % 5) = 2 ∨ ((p &&& 2147483647) % 5) = 3 ∨ ((p &&& 2147483647) % 5) = 4 := by
  have e1 : (p &&& 2147483647).toInt = p.toInt % 2 ^ 31 := Jvm.Kit.i32_mask p 2147483647 (k := 31) (by decide) (by decide)
  have e2 : ((p &&& 2147483647) % 5).toInt = (p &&& 2147483647).toInt % (5 : Int32).toInt := Jvm.Kit.i32_rem_nonneg (by omega)
  have e3 : (5 : Int32).toInt = 5 := rfl
  rw [e3] at e2
  generalize ((p &&& 2147483647) % 5) = n at *
  have h : n.toInt = 0 ∨ n.toInt = 1 ∨ n.toInt = 2 ∨ n.toInt = 3 ∨ n.toInt = 4 := by omega
  rcases h with h | h | h | h | h
  · exact Or.inl (Int32.toInt_inj.mp h)
  · exact Or.inr (Or.inl (Int32.toInt_inj.mp h))
  · exact Or.inr (Or.inr (Or.inl (Int32.toInt_inj.mp h)))
  · exact Or.inr (Or.inr (Or.inr (Or.inl (Int32.toInt_inj.mp h))))
  · exact Or.inr (Or.inr (Or.inr (Or.inr (Int32.toInt_inj.mp h))))
theorem own_k1 (p : Int32) : 0 ≤ (p &&& 7).toInt := by
  have e1 : (p &&& 7).toInt = p.toInt % 2 ^ 3 := Jvm.Kit.i32_mask p 7 (k := 3) (by decide) (by decide)
  omega
theorem own_k2 (p : Int32) : 0 ≤ (p &&& 2147483647).toInt := by
  have e1 : (p &&& 2147483647).toInt = p.toInt % 2 ^ 31 := Jvm.Kit.i32_mask p 2147483647 (k := 31) (by decide) (by decide)
  omega
theorem own_split {k : Int32} (hk : 0 ≤ k.toInt) : k = 0 ∨ k = 1 ∨ k = 2 ∨ k = 3 ∨ 4 ≤ k.toInt := by
  have h : k.toInt = 0 ∨ k.toInt = 1 ∨ k.toInt = 2 ∨ k.toInt = 3 ∨ 4 ≤ k.toInt := by omega
  rcases h with h | h | h | h | h
  · exact Or.inl (Int32.toInt_inj.mp h)
  · exact Or.inr (Or.inl (Int32.toInt_inj.mp h))
  · exact Or.inr (Or.inr (Or.inl (Int32.toInt_inj.mp h)))
  · exact Or.inr (Or.inr (Or.inr (Or.inl (Int32.toInt_inj.mp h))))
  · exact Or.inr (Or.inr (Or.inr (Or.inr h)))
theorem own_ge {k n : Int32} (h : 4 ≤ k.toInt) (hn : n.toInt ≤ 4) : ¬ k < n := by rw [Int32.lt_iff_toInt_lt]; omega
theorem pn_0 : plainName "com/example/liblockmode/liblockmode/core/TransactionLocksGrantAfterPinLaw" = true := by first | (simp [plainName, overriddenIn]; done) | decide +kernel
def Ctx0 (p : Program) (s : State) (m : MethodId) (meth : Method) (c : Code) (Z : State) (a0 : Array Value) : Prop := p.tables.exec = Jvm.exec ∧ Z.Warmed39 s.vm ∧ (∀ d ∈ tables_1, d.before a0 Z = true) ∧ c.code = code ∧ c.maxLocals = 11 ∧ s.vm.findClass "com/example/liblockmode/liblockmode/core/TransactionLocksGrantAfterPinLaw" = some m.cls ∧ meth.sig.returnType = ret ∧ meth.locks = false ∧ meth.name = "law"
theorem d1_0 : decode prog_56_method_1_code 0 = .ok (.aload_n 0, 1) := by decide +kernel
theorem d1_1 : decode prog_56_method_1_code 1 = .ok (.invokespecial 1, 3) := by decide +kernel
theorem d1_4 : decode prog_56_method_1_code 4 = .ok (.aload_n 0, 1) := by decide +kernel
theorem d1_5 : decode prog_56_method_1_code 5 = .ok (.aload_n 1, 1) := by decide +kernel
theorem d1_6 : decode prog_56_method_1_code 6 = .ok (.putfield 7, 3) := by decide +kernel
theorem d1_9 : decode prog_56_method_1_code 9 = .ok (.return_, 1) := by decide +kernel
theorem pn_1 : plainName "com/example/liblockmode/liblockmode/core/TransactionLocks" = true := by first | (simp [plainName, overriddenIn]; done) | decide +kernel
def Ctx1 (p : Program) (s : State) (m : MethodId) (meth : Method) (c : Code) (Z : State) (a0 : Array Value) : Prop := p.tables.exec = Jvm.exec ∧ Z.Warmed39 s.vm ∧ (∀ d ∈ tables_1, d.before a0 Z = true) ∧ c.code = prog_56_method_1_code ∧ c.maxLocals = 2 ∧ s.vm.findClass "com/example/liblockmode/liblockmode/core/TransactionLocks" = some m.cls ∧ meth.sig.returnType = none ∧ meth.locks = false ∧ meth.name = "<init>"
theorem d3_0 : decode prog_39_method_1_code 0 = .ok (.aload_n 0, 1) := by decide +kernel
theorem d3_1 : decode prog_39_method_1_code 1 = .ok (.invokespecial 1, 3) := by decide +kernel
theorem d3_4 : decode prog_39_method_1_code 4 = .ok (.aload_n 0, 1) := by decide +kernel
theorem d3_5 : decode prog_39_method_1_code 5 = .ok (.aload_n 1, 1) := by decide +kernel
theorem d3_6 : decode prog_39_method_1_code 6 = .ok (.putfield 7, 3) := by decide +kernel
theorem d3_9 : decode prog_39_method_1_code 9 = .ok (.aload_n 0, 1) := by decide +kernel
theorem d3_10 : decode prog_39_method_1_code 10 = .ok (.aload_n 2, 1) := by decide +kernel
theorem d3_11 : decode prog_39_method_1_code 11 = .ok (.putfield 13, 3) := by decide +kernel
theorem d3_14 : decode prog_39_method_1_code 14 = .ok (.return_, 1) := by decide +kernel
theorem pn_3 : plainName "com/example/liblockmode/liblockmode/core/Grant" = true := by first | (simp [plainName, overriddenIn]; done) | decide +kernel
def Ctx3 (p : Program) (s : State) (m : MethodId) (meth : Method) (c : Code) (Z : State) (a0 : Array Value) : Prop := p.tables.exec = Jvm.exec ∧ Z.Warmed39 s.vm ∧ (∀ d ∈ tables_1, d.before a0 Z = true) ∧ c.code = prog_39_method_1_code ∧ c.maxLocals = 3 ∧ s.vm.findClass "com/example/liblockmode/liblockmode/core/Grant" = some m.cls ∧ meth.sig.returnType = none ∧ meth.locks = false ∧ meth.name = "<init>"
theorem d4_0 : decode prog_56_method_17_code 0 = .ok (.aload_n 0, 1) := by decide +kernel
theorem d4_1 : decode prog_56_method_17_code 1 = .ok (.getfield 58, 3) := by decide +kernel
theorem d4_4 : decode prog_56_method_17_code 4 = .ok (.astore_n 2, 1) := by decide +kernel
theorem d4_5 : decode prog_56_method_17_code 5 = .ok (.iconst 0, 1) := by decide +kernel
theorem d4_6 : decode prog_56_method_17_code 6 = .ok (.istore_n 3, 1) := by decide +kernel
theorem d4_7 : decode prog_56_method_17_code 7 = .ok (.iload_n 3, 1) := by decide +kernel
theorem d4_8 : decode prog_56_method_17_code 8 = .ok (.iload_n 1, 1) := by decide +kernel
theorem d4_9 : decode prog_56_method_17_code 9 = .ok (.if_icmp .ge 18, 3) := by decide +kernel
theorem d4_12 : decode prog_56_method_17_code 12 = .ok (.aload_n 2, 1) := by decide +kernel
theorem d4_13 : decode prog_56_method_17_code 13 = .ok (.ifnull 14, 3) := by decide +kernel
theorem d4_16 : decode prog_56_method_17_code 16 = .ok (.aload_n 2, 1) := by decide +kernel
theorem d4_17 : decode prog_56_method_17_code 17 = .ok (.getfield 61, 3) := by decide +kernel
theorem d4_20 : decode prog_56_method_17_code 20 = .ok (.astore_n 2, 1) := by decide +kernel
theorem d4_21 : decode prog_56_method_17_code 21 = .ok (.iinc 3 1, 3) := by decide +kernel
theorem d4_24 : decode prog_56_method_17_code 24 = .ok (.goto (-17), 3) := by decide +kernel
theorem d4_27 : decode prog_56_method_17_code 27 = .ok (.aload_n 2, 1) := by decide +kernel
theorem d4_28 : decode prog_56_method_17_code 28 = .ok (.areturn, 1) := by decide +kernel
theorem pn_4 : plainName "com/example/liblockmode/liblockmode/core/TransactionLocks" = true := by first | (simp [plainName, overriddenIn]; done) | decide +kernel
def Ctx4 (p : Program) (s : State) (m : MethodId) (meth : Method) (c : Code) (Z : State) (a0 : Array Value) : Prop := p.tables.exec = Jvm.exec ∧ Z.Warmed39 s.vm ∧ (∀ d ∈ tables_1, d.before a0 Z = true) ∧ c.code = prog_56_method_17_code ∧ c.maxLocals = 4 ∧ s.vm.findClass "com/example/liblockmode/liblockmode/core/TransactionLocks" = some m.cls ∧ meth.sig.returnType = (some (.object "com/example/liblockmode/liblockmode/core/Grant")) ∧ meth.locks = false ∧ meth.name = "grantAfter"
theorem d5_0 : decode prog_56_method_13_code 0 = .ok (.aload_n 0, 1) := by decide +kernel
theorem d5_1 : decode prog_56_method_13_code 1 = .ok (.getfield 54, 3) := by decide +kernel
theorem d5_4 : decode prog_56_method_13_code 4 = .ok (.ifnonnull 11, 3) := by decide +kernel
theorem d5_7 : decode prog_56_method_13_code 7 = .ok (.aload_n 0, 1) := by decide +kernel
theorem d5_8 : decode prog_56_method_13_code 8 = .ok (.aload_n 1, 1) := by decide +kernel
theorem d5_9 : decode prog_56_method_13_code 9 = .ok (.putfield 58, 3) := by decide +kernel
theorem d5_12 : decode prog_56_method_13_code 12 = .ok (.goto 11, 3) := by decide +kernel
theorem d5_15 : decode prog_56_method_13_code 15 = .ok (.aload_n 0, 1) := by decide +kernel
theorem d5_16 : decode prog_56_method_13_code 16 = .ok (.getfield 54, 3) := by decide +kernel
theorem d5_19 : decode prog_56_method_13_code 19 = .ok (.aload_n 1, 1) := by decide +kernel
theorem d5_20 : decode prog_56_method_13_code 20 = .ok (.putfield 61, 3) := by decide +kernel
theorem d5_23 : decode prog_56_method_13_code 23 = .ok (.aload_n 0, 1) := by decide +kernel
theorem d5_24 : decode prog_56_method_13_code 24 = .ok (.aload_n 1, 1) := by decide +kernel
theorem d5_25 : decode prog_56_method_13_code 25 = .ok (.putfield 54, 3) := by decide +kernel
theorem d5_28 : decode prog_56_method_13_code 28 = .ok (.aload_n 0, 1) := by decide +kernel
theorem d5_29 : decode prog_56_method_13_code 29 = .ok (.dup, 1) := by decide +kernel
theorem d5_30 : decode prog_56_method_13_code 30 = .ok (.getfield 66, 3) := by decide +kernel
theorem d5_33 : decode prog_56_method_13_code 33 = .ok (.iconst 1, 1) := by decide +kernel
theorem d5_34 : decode prog_56_method_13_code 34 = .ok (.iadd, 1) := by decide +kernel
theorem d5_35 : decode prog_56_method_13_code 35 = .ok (.putfield 66, 3) := by decide +kernel
theorem d5_38 : decode prog_56_method_13_code 38 = .ok (.aload_n 0, 1) := by decide +kernel
theorem d5_39 : decode prog_56_method_13_code 39 = .ok (.getfield 70, 3) := by decide +kernel
theorem d5_42 : decode prog_56_method_13_code 42 = .ok (.ifnull 35, 3) := by decide +kernel
theorem d5_45 : decode prog_56_method_13_code 45 = .ok (.aload_n 0, 1) := by decide +kernel
theorem d5_46 : decode prog_56_method_13_code 46 = .ok (.getfield 70, 3) := by decide +kernel
theorem d5_49 : decode prog_56_method_13_code 49 = .ok (.aload_n 1, 1) := by decide +kernel
theorem d5_50 : decode prog_56_method_13_code 50 = .ok (.invokevirtual 74, 3) := by decide +kernel
theorem d5_53 : decode prog_56_method_13_code 53 = .ok (.aload_n 1, 1) := by decide +kernel
theorem d5_54 : decode prog_56_method_13_code 54 = .ok (.invokevirtual 78, 3) := by decide +kernel
theorem d5_57 : decode prog_56_method_13_code 57 = .ok (.invokestatic 82, 3) := by decide +kernel
theorem d5_60 : decode prog_56_method_13_code 60 = .ok (.invokestatic 86, 3) := by decide +kernel
theorem d5_63 : decode prog_56_method_13_code 63 = .ok (.invokedynamic 92, 5) := by decide +kernel
theorem d5_68 : decode prog_56_method_13_code 68 = .ok (.invokeinterface 96 4, 5) := by decide +kernel
theorem d5_73 : decode prog_56_method_13_code 73 = .ok (.pop, 1) := by decide +kernel
theorem d5_74 : decode prog_56_method_13_code 74 = .ok (.goto 16, 3) := by decide +kernel
theorem d5_77 : decode prog_56_method_13_code 77 = .ok (.aload_n 0, 1) := by decide +kernel
theorem d5_78 : decode prog_56_method_13_code 78 = .ok (.getfield 66, 3) := by decide +kernel
theorem d5_81 : decode prog_56_method_13_code 81 = .ok (.bipush 8, 2) := by decide +kernel
theorem d5_83 : decode prog_56_method_13_code 83 = .ok (.if_icmp .le 7, 3) := by decide +kernel
theorem d5_86 : decode prog_56_method_13_code 86 = .ok (.aload_n 0, 1) := by decide +kernel
theorem d5_87 : decode prog_56_method_13_code 87 = .ok (.invokevirtual 102, 3) := by decide +kernel
theorem d5_90 : decode prog_56_method_13_code 90 = .ok (.return_, 1) := by decide +kernel
theorem pn_5 : plainName "com/example/liblockmode/liblockmode/core/TransactionLocks" = true := by first | (simp [plainName, overriddenIn]; done) | decide +kernel
def Ctx5 (p : Program) (s : State) (m : MethodId) (meth : Method) (c : Code) (Z : State) (a0 : Array Value) : Prop := p.tables.exec = Jvm.exec ∧ Z.Warmed39 s.vm ∧ (∀ d ∈ tables_1, d.before a0 Z = true) ∧ c.code = prog_56_method_13_code ∧ c.maxLocals = 2 ∧ s.vm.findClass "com/example/liblockmode/liblockmode/core/TransactionLocks" = some m.cls ∧ meth.sig.returnType = none ∧ meth.locks = false ∧ meth.name = "log"
theorem own_pd0 : parseMethodDescriptor "(Ljava/lang/String;)V" = some ⟨[(.object "java/lang/String")], none⟩ := by decide +kernel
theorem own_pd1 : parseMethodDescriptor "(Lcom/example/liblockmode/liblockmode/core/LockedObject;Lcom/example/liblockmode/liblockmode/model/LockMode;)V" = some ⟨[(.object "com/example/liblockmode/liblockmode/core/LockedObject"), (.object "com/example/liblockmode/liblockmode/model/LockMode")], none⟩ := by decide +kernel
theorem own_pd2 : parseMethodDescriptor "(I)Lcom/example/liblockmode/liblockmode/core/Grant;" = some ⟨[.int], some (.object "com/example/liblockmode/liblockmode/core/Grant")⟩ := by decide +kernel
theorem own_pd3 : parseMethodDescriptor "(Lcom/example/liblockmode/liblockmode/core/Grant;)V" = some ⟨[(.object "com/example/liblockmode/liblockmode/core/Grant")], none⟩ := by decide +kernel
def Q1 (Z : State) (t : Addr) (sa : Addr) (h0 : Heap) (n0 : Nat) (v : Option Value) (h : Heap) (L : List Loc) : Prop := v = none ∧ Fr n0 L ∧ Keep h0 h [t] ∧ Exa Z h t "com/example/liblockmode/liblockmode/core/TransactionLocks" ∧ Fld Z h t "com/example/liblockmode/liblockmode/core/TransactionLocks" "firstGrant" "Lcom/example/liblockmode/liblockmode/core/Grant;" .null ∧ Fld Z h t "com/example/liblockmode/liblockmode/core/TransactionLocks" "lastGrant" "Lcom/example/liblockmode/liblockmode/core/Grant;" .null ∧ Fld Z h t "com/example/liblockmode/liblockmode/core/TransactionLocks" "grantCount" "I" (.int (0 : Int32)) ∧ Fld Z h t "com/example/liblockmode/liblockmode/core/TransactionLocks" "modesByObject" "Ljava/util/Map;" .null
theorem own_ef_rm1 (m : MethodId) (x0 : Addr) (x1 : Addr) : entryFrame m #[(.ref x0), (.ref x1)] 2 = mkF m 0 #[.val (.ref x0), .val (.ref x1)] [] := by first | (simp [entryFrame, mkF, argsToLocals, Value.category]; done) | rfl
set_option maxRecDepth 65536 in
set_option maxHeartbeats 40000000 in
theorem rm1 (l : Launch) (Z : State) (a0 : Array Value) (hw : ∀ d ∈ tables_1, d.before a0 Z = true) (ws : List Jvm.Cond) (t : Addr) (sa : Addr) (h0 : Heap) (n0 : Nat) (Z0 : n0 ≤ h0.size) (E_t : Exa Z h0 t "com/example/liblockmode/liblockmode/core/TransactionLocks") (F_name : Fld Z h0 t "com/example/liblockmode/liblockmode/core/TransactionLocks" "name" "Ljava/lang/String;" .null) (F_firstGrant : Fld Z h0 t "com/example/liblockmode/liblockmode/core/TransactionLocks" "firstGrant" "Lcom/example/liblockmode/liblockmode/core/Grant;" .null) (F_lastGrant : Fld Z h0 t "com/example/liblockmode/liblockmode/core/TransactionLocks" "lastGrant" "Lcom/example/liblockmode/liblockmode/core/Grant;" .null) (F_grantCount : Fld Z h0 t "com/example/liblockmode/liblockmode/core/TransactionLocks" "grantCount" "I" (.int (0 : Int32))) (F_modesByObject : Fld Z h0 t "com/example/liblockmode/liblockmode/core/TransactionLocks" "modesByObject" "Ljava/util/Map;" .null) (g_t : n0 ≤ t) :
    MetFree l (⟨"com/example/liblockmode/liblockmode/core/TransactionLocks", "<init>", "(Ljava/lang/String;)V"⟩ : MethodName) (head1 (Jvm.Cond.code (⟨"com/example/liblockmode/liblockmode/core/TransactionLocks", "<init>", "(Ljava/lang/String;)V"⟩ : MethodName) prog_56_method_1_code 2 none :: ws) ({ frames := 1, cells := 0, slots := 0, locals := 12 } : Room)) (fun aQ UQ => aQ = #[(.ref t), (.ref sa)] ∧ Z.Warmed39 UQ.vm ∧ UQ.heap = h0) (fun _ _ _ _ _ => True) (fun _ UQ oQ UR => ∃ vQ LQ, oQ = .returned vQ ∧ Q1 Z t sa h0 n0 vQ UR.heap LQ ∧ FrameEnd UQ oQ UR LQ ({ frames := 1, cells := 0, slots := 0, locals := 12 } : Room).cells ({ frames := 1, cells := 0, slots := 0, locals := 12 } : Room).slots) := by
  refine MetFree.of_bodySF (plainFor_of_name pn_1) hisR ?_
  intro p e s m args below meth c s₁ Bd hml0 hP hK
  obtain ⟨rfl, hZ, hh⟩ := hP
  have hx := Bd.exec
  have hby := Bd.bytes
  have hml : c.maxLocals = 2 := hml0
  have hown : s.vm.findClass "com/example/liblockmode/liblockmode/core/TransactionLocks" = some m.cls := findClass_of_methodNamed Bd.named
  have hnm := (name_of_methodNamed Bd.named Bd.method).1
  have hret := Bd.returns
  have hlk : meth.locks = false := Bd.notSynchronized
  have X0 : Stand p l e ({ frames := 1, cells := 0, slots := 0, locals := 12 } : Room) s m #[(.ref t), (.ref sa)] below meth c s₁ [] 0 0 := Stand.of_body Bd
  have e0 : s₁.heap = h0 := by rw [← hh, Bd.state]; rfl
  have N0 := Fr.nil n0
  have K : Ctx1 p s m meth c Z a0 := ⟨hx, hZ, hw, hby, hml, hown, hret, hlk, hnm⟩
  show OwnGo p e below s ({ frames := 1, cells := 0, slots := 0, locals := 12 } : Room).cells ({ frames := 1, cells := 0, slots := 0, locals := 12 } : Room).slots (Q1 Z t sa h0 n0) s₁ (entryFrame m #[(.ref t), (.ref sa)] 2)
  refine own_cast (own_ef_rm1 m t sa) ?_
  show OwnGo p e below s _ _ _ s₁ (mkF m 0 #[.val (.ref t), .val (.ref sa)] [])
  refine own_st (T' := s₁) (g' := (mkF m 1 #[.val (.ref t), .val (.ref sa)] [(.ref t)])) (fun uT uK => ?_) ?_
  · show Steps p.tables e below (s₁.setTop (mkF m 0 #[.val (.ref t), .val (.ref sa)] [])) _
    refine XS.aloadN X0.here hx rfl (hb hby d1_0) rfl rfl ?_
    exact uK
  obtain ⟨T1, X1, e1, st1⟩ := initO X0 hx hZ hown (hw _ (List.mem_of_getElem? (i := 15) rfl)) (hw _ (List.mem_of_getElem? (i := 16) rfl)) (hw _ (List.mem_of_getElem? (i := 17) rfl)) e0 (g := (mkF m 1 #[.val (.ref t), .val (.ref sa)] [(.ref t)])) rfl (by rw [hml]; rfl) rfl (hb hby d1_1) (by decide) (W := 0) (by show 2 * 0 + _ ≤ _; exact Nat.le_of_eq rfl) (by decide)
  refine own_st st1 ?_
  show OwnGo p e below s _ _ _ T1 (mkF m 4 #[.val (.ref t), .val (.ref sa)] [])
  refine own_st (T' := T1) (g' := (mkF m 6 #[.val (.ref t), .val (.ref sa)] [(.ref sa), (.ref t)])) (fun uT uK => ?_) ?_
  · show Steps p.tables e below (T1.setTop (mkF m 4 #[.val (.ref t), .val (.ref sa)] [])) _
    refine XS.aloadN X1.here hx rfl (hb hby d1_4) rfl rfl ?_
    show Steps p.tables e below (T1.setTop (mkF m 5 #[.val (.ref t), .val (.ref sa)] [(.ref t)])) _
    refine XS.aloadN X1.here hx rfl (hb hby d1_5) rfl rfl ?_
    exact uK
  obtain ⟨T2, h2, X2, e2, W2, st2⟩ := putF X1 hx hZ hown (host := "") (Or.inl (hw _ (List.mem_of_getElem? (i := 18) rfl))) Via.refl e1 F_name E_t (Or.inr ⟨(hw _ (List.mem_of_getElem? (i := 19) rfl)), rfl, hnm⟩) (hw _ (List.mem_of_getElem? (i := 2) rfl)) (ty := (.object "java/lang/String")) (by decide) rfl rfl (g := (mkF m 6 #[.val (.ref t), .val (.ref sa)] [(.ref sa), (.ref t)])) rfl rfl (hb hby d1_6)
  have E2_t := (E_t).wr W2
  have K2 := (Keep.refl h0 [t]).wr W2 (Or.inl (List.mem_of_getElem? (i := 0) rfl))
  have F2_name_t := (F_name).same W2
  have F2_firstGrant_t := (F_firstGrant).other W2 (Or.inr (slot_ne (Or.inl (hw _ (List.mem_of_getElem? (i := 37) rfl))) (Or.inr (hw _ (List.mem_of_getElem? (i := 19) rfl))) (by decide) (t := (.object "com/example/liblockmode/liblockmode/core/Grant")) (t' := (.object "java/lang/String")) (by decide) (by decide)))
  have F2_lastGrant_t := (F_lastGrant).other W2 (Or.inr (slot_ne (Or.inl (hw _ (List.mem_of_getElem? (i := 44) rfl))) (Or.inr (hw _ (List.mem_of_getElem? (i := 19) rfl))) (by decide) (t := (.object "com/example/liblockmode/liblockmode/core/Grant")) (t' := (.object "java/lang/String")) (by decide) (by decide)))
  have F2_grantCount_t := (F_grantCount).other W2 (Or.inr (slot_ne (Or.inl (hw _ (List.mem_of_getElem? (i := 46) rfl))) (Or.inr (hw _ (List.mem_of_getElem? (i := 19) rfl))) (by decide) (t := .int) (t' := (.object "java/lang/String")) (by decide) (by decide)))
  have F2_modesByObject_t := (F_modesByObject).other W2 (Or.inr (slot_ne (Or.inl (hw _ (List.mem_of_getElem? (i := 48) rfl))) (Or.inr (hw _ (List.mem_of_getElem? (i := 19) rfl))) (by decide) (t := (.object "java/util/Map")) (t' := (.object "java/lang/String")) (by decide) (by decide)))
  have N2 := Fr.snoc X2 N0 g_t
  have Z2 : n0 ≤ h2.size := Nat.le_trans Z0 (Keep.of_wr W2).1
  refine own_st st2 ?_
  show OwnGo p e below s _ _ _ T2 (mkF m 9 #[.val (.ref t), .val (.ref sa)] [])
  exact own_ret (v := none) X2 hlk (fun _ => rfl) (fun fs hr => X2.returnOut hx hret (hb hby d1_9) hr) (by rw [e2]; exact ⟨rfl, N2, K2, E2_t, F2_firstGrant_t, F2_lastGrant_t, F2_grantCount_t, F2_modesByObject_t⟩) (by decide) (by decide)
def Q3 (Z : State) (a : Addr) (h0 : Heap) (n0 : Nat) (v : Option Value) (h : Heap) (L : List Loc) : Prop := v = none ∧ Fr n0 L ∧ Keep h0 h [a] ∧ Exa Z h a "com/example/liblockmode/liblockmode/core/Grant" ∧ Fld Z h a "com/example/liblockmode/liblockmode/core/Grant" "nextLogged" "Lcom/example/liblockmode/liblockmode/core/Grant;" .null
theorem own_ef_rm3 (m : MethodId) (x0 : Addr) : entryFrame m #[(.ref x0), .null, .null] 3 = mkF m 0 #[.val (.ref x0), .val .null, .val .null] [] := by first | (simp [entryFrame, mkF, argsToLocals, Value.category]; done) | rfl
set_option maxRecDepth 65536 in
set_option maxHeartbeats 40000000 in
theorem rm3 (l : Launch) (Z : State) (a0 : Array Value) (hw : ∀ d ∈ tables_1, d.before a0 Z = true) (ws : List Jvm.Cond) (a : Addr) (h0 : Heap) (n0 : Nat) (Z0 : n0 ≤ h0.size) (E_a : Exa Z h0 a "com/example/liblockmode/liblockmode/core/Grant") (F_object : Fld Z h0 a "com/example/liblockmode/liblockmode/core/Grant" "object" "Lcom/example/liblockmode/liblockmode/core/LockedObject;" .null) (F_mode : Fld Z h0 a "com/example/liblockmode/liblockmode/core/Grant" "mode" "Lcom/example/liblockmode/liblockmode/model/LockMode;" .null) (F_nextLogged : Fld Z h0 a "com/example/liblockmode/liblockmode/core/Grant" "nextLogged" "Lcom/example/liblockmode/liblockmode/core/Grant;" .null) (g_a : n0 ≤ a) :
    MetFree l (⟨"com/example/liblockmode/liblockmode/core/Grant", "<init>", "(Lcom/example/liblockmode/liblockmode/core/LockedObject;Lcom/example/liblockmode/liblockmode/model/LockMode;)V"⟩ : MethodName) (head1 (Jvm.Cond.code (⟨"com/example/liblockmode/liblockmode/core/Grant", "<init>", "(Lcom/example/liblockmode/liblockmode/core/LockedObject;Lcom/example/liblockmode/liblockmode/model/LockMode;)V"⟩ : MethodName) prog_39_method_1_code 3 none :: ws) ({ frames := 1, cells := 0, slots := 0, locals := 12 } : Room)) (fun aQ UQ => aQ = #[(.ref a), .null, .null] ∧ Z.Warmed39 UQ.vm ∧ UQ.heap = h0) (fun _ _ _ _ _ => True) (fun _ UQ oQ UR => ∃ vQ LQ, oQ = .returned vQ ∧ Q3 Z a h0 n0 vQ UR.heap LQ ∧ FrameEnd UQ oQ UR LQ ({ frames := 1, cells := 0, slots := 0, locals := 12 } : Room).cells ({ frames := 1, cells := 0, slots := 0, locals := 12 } : Room).slots) := by
  refine MetFree.of_bodySF (plainFor_of_name pn_3) hisR ?_
  intro p e s m args below meth c s₁ Bd hml0 hP hK
  obtain ⟨rfl, hZ, hh⟩ := hP
  have hx := Bd.exec
  have hby := Bd.bytes
  have hml : c.maxLocals = 3 := hml0
  have hown : s.vm.findClass "com/example/liblockmode/liblockmode/core/Grant" = some m.cls := findClass_of_methodNamed Bd.named
  have hnm := (name_of_methodNamed Bd.named Bd.method).1
  have hret := Bd.returns
  have hlk : meth.locks = false := Bd.notSynchronized
  have X0 : Stand p l e ({ frames := 1, cells := 0, slots := 0, locals := 12 } : Room) s m #[(.ref a), .null, .null] below meth c s₁ [] 0 0 := Stand.of_body Bd
  have e0 : s₁.heap = h0 := by rw [← hh, Bd.state]; rfl
  have N0 := Fr.nil n0
  have K : Ctx3 p s m meth c Z a0 := ⟨hx, hZ, hw, hby, hml, hown, hret, hlk, hnm⟩
  show OwnGo p e below s ({ frames := 1, cells := 0, slots := 0, locals := 12 } : Room).cells ({ frames := 1, cells := 0, slots := 0, locals := 12 } : Room).slots (Q3 Z a h0 n0) s₁ (entryFrame m #[(.ref a), .null, .null] 3)
  refine own_cast (own_ef_rm3 m a) ?_
  show OwnGo p e below s _ _ _ s₁ (mkF m 0 #[.val (.ref a), .val .null, .val .null] [])
  refine own_st (T' := s₁) (g' := (mkF m 1 #[.val (.ref a), .val .null, .val .null] [(.ref a)])) (fun uT uK => ?_) ?_
  · show Steps p.tables e below (s₁.setTop (mkF m 0 #[.val (.ref a), .val .null, .val .null] [])) _
    refine XS.aloadN X0.here hx rfl (hb hby d3_0) rfl rfl ?_
    exact uK
  obtain ⟨T1, X1, e1, st1⟩ := initO X0 hx hZ hown (hw _ (List.mem_of_getElem? (i := 26) rfl)) (hw _ (List.mem_of_getElem? (i := 16) rfl)) (hw _ (List.mem_of_getElem? (i := 17) rfl)) e0 (g := (mkF m 1 #[.val (.ref a), .val .null, .val .null] [(.ref a)])) rfl (by rw [hml]; rfl) rfl (hb hby d3_1) (by decide) (W := 0) (by show 2 * 0 + _ ≤ _; exact Nat.le_of_eq rfl) (by decide)
  refine own_st st1 ?_
  show OwnGo p e below s _ _ _ T1 (mkF m 4 #[.val (.ref a), .val .null, .val .null] [])
  refine own_st (T' := T1) (g' := (mkF m 6 #[.val (.ref a), .val .null, .val .null] [.null, (.ref a)])) (fun uT uK => ?_) ?_
  · show Steps p.tables e below (T1.setTop (mkF m 4 #[.val (.ref a), .val .null, .val .null] [])) _
    refine XS.aloadN X1.here hx rfl (hb hby d3_4) rfl rfl ?_
    show Steps p.tables e below (T1.setTop (mkF m 5 #[.val (.ref a), .val .null, .val .null] [(.ref a)])) _
    refine XS.aloadN X1.here hx rfl (hb hby d3_5) rfl rfl ?_
    exact uK
  obtain ⟨T2, h2, X2, e2, W2, st2⟩ := putF X1 hx hZ hown (host := "") (Or.inl (hw _ (List.mem_of_getElem? (i := 27) rfl))) Via.refl e1 F_object E_a (Or.inr ⟨(hw _ (List.mem_of_getElem? (i := 28) rfl)), rfl, hnm⟩) (hw _ (List.mem_of_getElem? (i := 21) rfl)) (ty := (.object "com/example/liblockmode/liblockmode/core/LockedObject")) (by decide) rfl rfl (g := (mkF m 6 #[.val (.ref a), .val .null, .val .null] [.null, (.ref a)])) rfl rfl (hb hby d3_6)
  have E2_a := (E_a).wr W2
  have K2 := (Keep.refl h0 [a]).wr W2 (Or.inl (List.mem_of_getElem? (i := 0) rfl))
  have F2_object_a := (F_object).same W2
  have F2_mode_a := (F_mode).other W2 (Or.inr (slot_ne (Or.inr (hw _ (List.mem_of_getElem? (i := 30) rfl))) (Or.inr (hw _ (List.mem_of_getElem? (i := 28) rfl))) (by decide) (t := (.object "com/example/liblockmode/liblockmode/model/LockMode")) (t' := (.object "com/example/liblockmode/liblockmode/core/LockedObject")) (by decide) (by decide)))
  have F2_nextLogged_a := (F_nextLogged).other W2 (Or.inr (slot_ne (Or.inl (hw _ (List.mem_of_getElem? (i := 50) rfl))) (Or.inr (hw _ (List.mem_of_getElem? (i := 28) rfl))) (by decide) (t := (.object "com/example/liblockmode/liblockmode/core/Grant")) (t' := (.object "com/example/liblockmode/liblockmode/core/LockedObject")) (by decide) (by decide)))
  have N2 := Fr.snoc X2 N0 g_a
  have Z2 : n0 ≤ h2.size := Nat.le_trans Z0 (Keep.of_wr W2).1
  refine own_st st2 ?_
  show OwnGo p e below s _ _ _ T2 (mkF m 9 #[.val (.ref a), .val .null, .val .null] [])
  refine own_st (T' := T2) (g' := (mkF m 11 #[.val (.ref a), .val .null, .val .null] [.null, (.ref a)])) (fun uT uK => ?_) ?_
  · show Steps p.tables e below (T2.setTop (mkF m 9 #[.val (.ref a), .val .null, .val .null] [])) _
    refine XS.aloadN X2.here hx rfl (hb hby d3_9) rfl rfl ?_
    show Steps p.tables e below (T2.setTop (mkF m 10 #[.val (.ref a), .val .null, .val .null] [(.ref a)])) _
    refine XS.aloadN X2.here hx rfl (hb hby d3_10) rfl rfl ?_
    exact uK
  obtain ⟨T3, h3, X3, e3, W3, st3⟩ := putF X2 hx hZ hown (host := "") (Or.inl (hw _ (List.mem_of_getElem? (i := 29) rfl))) Via.refl e2 F2_mode_a E2_a (Or.inr ⟨(hw _ (List.mem_of_getElem? (i := 30) rfl)), rfl, hnm⟩) (hw _ (List.mem_of_getElem? (i := 21) rfl)) (ty := (.object "com/example/liblockmode/liblockmode/model/LockMode")) (by decide) rfl rfl (g := (mkF m 11 #[.val (.ref a), .val .null, .val .null] [.null, (.ref a)])) rfl rfl (hb hby d3_11)
  have E3_a := (E2_a).wr W3
  have K3 := (K2).wr W3 (Or.inl (List.mem_of_getElem? (i := 0) rfl))
  have F3_object_a := (F2_object_a).other W3 (Or.inr (slot_ne (Or.inr (hw _ (List.mem_of_getElem? (i := 28) rfl))) (Or.inr (hw _ (List.mem_of_getElem? (i := 30) rfl))) (by decide) (t := (.object "com/example/liblockmode/liblockmode/core/LockedObject")) (t' := (.object "com/example/liblockmode/liblockmode/model/LockMode")) (by decide) (by decide)))
  have F3_mode_a := (F2_mode_a).same W3
  have F3_nextLogged_a := (F2_nextLogged_a).other W3 (Or.inr (slot_ne (Or.inl (hw _ (List.mem_of_getElem? (i := 50) rfl))) (Or.inr (hw _ (List.mem_of_getElem? (i := 30) rfl))) (by decide) (t := (.object "com/example/liblockmode/liblockmode/core/Grant")) (t' := (.object "com/example/liblockmode/liblockmode/model/LockMode")) (by decide) (by decide)))
  have N3 := Fr.snoc X3 N2 g_a
  have Z3 : n0 ≤ h3.size := Nat.le_trans Z2 (Keep.of_wr W3).1
  refine own_st st3 ?_
  show OwnGo p e below s _ _ _ T3 (mkF m 14 #[.val (.ref a), .val .null, .val .null] [])
  exact own_ret (v := none) X3 hlk (fun _ => rfl) (fun fs hr => X3.returnOut hx hret (hb hby d3_14) hr) (by rw [e3]; exact ⟨rfl, N3, K3, E3_a, F3_nextLogged_a⟩) (by decide) (by decide)
def Q5a (Z : State) (t : Addr) (x : Addr) (n : Int32) (h0 : Heap) (n0 : Nat) (v : Option Value) (h : Heap) (L : List Loc) : Prop := v = none ∧ Fr n0 L ∧ Keep h0 h [t] ∧ Exa Z h t "com/example/liblockmode/liblockmode/core/TransactionLocks" ∧ Fld Z h t "com/example/liblockmode/liblockmode/core/TransactionLocks" "firstGrant" "Lcom/example/liblockmode/liblockmode/core/Grant;" (.ref x) ∧ Fld Z h t "com/example/liblockmode/liblockmode/core/TransactionLocks" "lastGrant" "Lcom/example/liblockmode/liblockmode/core/Grant;" (.ref x) ∧ Fld Z h t "com/example/liblockmode/liblockmode/core/TransactionLocks" "grantCount" "I" (.int (n + 1)) ∧ Fld Z h t "com/example/liblockmode/liblockmode/core/TransactionLocks" "modesByObject" "Ljava/util/Map;" .null
theorem own_ef_rm5a (m : MethodId) (x0 : Addr) (x1 : Addr) : entryFrame m #[(.ref x0), (.ref x1)] 2 = mkF m 0 #[.val (.ref x0), .val (.ref x1)] [] := by first | (simp [entryFrame, mkF, argsToLocals, Value.category]; done) | rfl
set_option maxRecDepth 65536 in
set_option maxHeartbeats 40000000 in
theorem rm5a (l : Launch) (Z : State) (a0 : Array Value) (hw : ∀ d ∈ tables_1, d.before a0 Z = true) (ws : List Jvm.Cond) (t : Addr) (x : Addr) (n : Int32) (h0 : Heap) (n0 : Nat) (Z0 : n0 ≤ h0.size) (E_t : Exa Z h0 t "com/example/liblockmode/liblockmode/core/TransactionLocks") (F_firstGrant : Fld Z h0 t "com/example/liblockmode/liblockmode/core/TransactionLocks" "firstGrant" "Lcom/example/liblockmode/liblockmode/core/Grant;" .null) (F_lastGrant : Fld Z h0 t "com/example/liblockmode/liblockmode/core/TransactionLocks" "lastGrant" "Lcom/example/liblockmode/liblockmode/core/Grant;" .null) (F_grantCount : Fld Z h0 t "com/example/liblockmode/liblockmode/core/TransactionLocks" "grantCount" "I" (.int n)) (F_modesByObject : Fld Z h0 t "com/example/liblockmode/liblockmode/core/TransactionLocks" "modesByObject" "Ljava/util/Map;" .null) (g_t : n0 ≤ t) (hn : ¬ (8 : Int32) < (n + (1 : Int32))) :
    MetFree l (⟨"com/example/liblockmode/liblockmode/core/TransactionLocks", "log", "(Lcom/example/liblockmode/liblockmode/core/Grant;)V"⟩ : MethodName) (head1 (Jvm.Cond.code (⟨"com/example/liblockmode/liblockmode/core/TransactionLocks", "log", "(Lcom/example/liblockmode/liblockmode/core/Grant;)V"⟩ : MethodName) prog_56_method_13_code 2 none :: ws) ({ frames := 0, cells := 0, slots := 0, locals := 0 } : Room)) (fun aQ UQ => aQ = #[(.ref t), (.ref x)] ∧ Z.Warmed39 UQ.vm ∧ UQ.heap = h0) (fun _ _ _ _ _ => True) (fun _ UQ oQ UR => ∃ vQ LQ, oQ = .returned vQ ∧ Q5a Z t x n h0 n0 vQ UR.heap LQ ∧ FrameEnd UQ oQ UR LQ ({ frames := 0, cells := 0, slots := 0, locals := 0 } : Room).cells ({ frames := 0, cells := 0, slots := 0, locals := 0 } : Room).slots) := by
  refine MetFree.of_bodySF (plainFor_of_name pn_5) hisR ?_
  intro p e s m args below meth c s₁ Bd hml0 hP hK
  obtain ⟨rfl, hZ, hh⟩ := hP
  have hx := Bd.exec
  have hby := Bd.bytes
  have hml : c.maxLocals = 2 := hml0
  have hown : s.vm.findClass "com/example/liblockmode/liblockmode/core/TransactionLocks" = some m.cls := findClass_of_methodNamed Bd.named
  have hnm := (name_of_methodNamed Bd.named Bd.method).1
  have hret := Bd.returns
  have hlk : meth.locks = false := Bd.notSynchronized
  have X0 : Stand p l e ({ frames := 0, cells := 0, slots := 0, locals := 0 } : Room) s m #[(.ref t), (.ref x)] below meth c s₁ [] 0 0 := Stand.of_body Bd
  have e0 : s₁.heap = h0 := by rw [← hh, Bd.state]; rfl
  have N0 := Fr.nil n0
  have K : Ctx5 p s m meth c Z a0 := ⟨hx, hZ, hw, hby, hml, hown, hret, hlk, hnm⟩
  show OwnGo p e below s ({ frames := 0, cells := 0, slots := 0, locals := 0 } : Room).cells ({ frames := 0, cells := 0, slots := 0, locals := 0 } : Room).slots (Q5a Z t x n h0 n0) s₁ (entryFrame m #[(.ref t), (.ref x)] 2)
  refine own_cast (own_ef_rm5a m t x) ?_
  show OwnGo p e below s _ _ _ s₁ (mkF m 0 #[.val (.ref t), .val (.ref x)] [])
  refine own_st (T' := s₁) (g' := (mkF m 1 #[.val (.ref t), .val (.ref x)] [(.ref t)])) (fun uT uK => ?_) ?_
  · show Steps p.tables e below (s₁.setTop (mkF m 0 #[.val (.ref t), .val (.ref x)] [])) _
    refine XS.aloadN X0.here hx rfl (hb hby d5_0) rfl rfl ?_
    exact uK
  obtain ⟨T1, X1, e1, st1⟩ := getF X0 hx hZ hown (host := "") (Or.inl (hw _ (List.mem_of_getElem? (i := 43) rfl))) Via.refl e0 F_lastGrant (g := (mkF m 1 #[.val (.ref t), .val (.ref x)] [(.ref t)])) rfl rfl (hb hby d5_1)
  refine own_st st1 ?_
  show OwnGo p e below s _ _ _ T1 (mkF m 4 #[.val (.ref t), .val (.ref x)] [.null])
  refine own_st (T' := T1) (g' := (mkF m 9 #[.val (.ref t), .val (.ref x)] [(.ref x), (.ref t)])) (fun uT uK => ?_) ?_
  · show Steps p.tables e below (T1.setTop (mkF m 4 #[.val (.ref t), .val (.ref x)] [.null])) _
    refine XT.ifnonnullNo X1.here hx rfl (hb hby d5_4) rfl ?_
    show Steps p.tables e below (T1.setTop (mkF m 7 #[.val (.ref t), .val (.ref x)] [])) _
    refine XS.aloadN X1.here hx rfl (hb hby d5_7) rfl rfl ?_
    show Steps p.tables e below (T1.setTop (mkF m 8 #[.val (.ref t), .val (.ref x)] [(.ref t)])) _
    refine XS.aloadN X1.here hx rfl (hb hby d5_8) rfl rfl ?_
    exact uK
  obtain ⟨T2, h2, X2, e2, W2, st2⟩ := putF X1 hx hZ hown (host := "") (Or.inl (hw _ (List.mem_of_getElem? (i := 36) rfl))) Via.refl e1 F_firstGrant E_t (Or.inl (hw _ (List.mem_of_getElem? (i := 37) rfl))) (hw _ (List.mem_of_getElem? (i := 2) rfl)) (ty := (.object "com/example/liblockmode/liblockmode/core/Grant")) (by decide) rfl rfl (g := (mkF m 9 #[.val (.ref t), .val (.ref x)] [(.ref x), (.ref t)])) rfl rfl (hb hby d5_9)
  have E2_t := (E_t).wr W2
  have F2_firstGrant_t := (F_firstGrant).same W2
  have F2_lastGrant_t := (F_lastGrant).other W2 (Or.inr (slot_ne (Or.inl (hw _ (List.mem_of_getElem? (i := 44) rfl))) (Or.inl (hw _ (List.mem_of_getElem? (i := 37) rfl))) (by decide) (t := (.object "com/example/liblockmode/liblockmode/core/Grant")) (t' := (.object "com/example/liblockmode/liblockmode/core/Grant")) (by decide) (by decide)))
  have F2_grantCount_t := (F_grantCount).other W2 (Or.inr (slot_ne (Or.inl (hw _ (List.mem_of_getElem? (i := 46) rfl))) (Or.inl (hw _ (List.mem_of_getElem? (i := 37) rfl))) (by decide) (t := .int) (t' := (.object "com/example/liblockmode/liblockmode/core/Grant")) (by decide) (by decide)))
  have F2_modesByObject_t := (F_modesByObject).other W2 (Or.inr (slot_ne (Or.inl (hw _ (List.mem_of_getElem? (i := 48) rfl))) (Or.inl (hw _ (List.mem_of_getElem? (i := 37) rfl))) (by decide) (t := (.object "java/util/Map")) (t' := (.object "com/example/liblockmode/liblockmode/core/Grant")) (by decide) (by decide)))
  have K2 := (Keep.refl h0 [t]).wr W2 (Or.inl (List.mem_of_getElem? (i := 0) rfl))
  have N2 := Fr.snoc X2 N0 g_t
  have Z2 : n0 ≤ h2.size := Nat.le_trans Z0 (Keep.of_wr W2).1
  refine own_st st2 ?_
  show OwnGo p e below s _ _ _ T2 (mkF m 12 #[.val (.ref t), .val (.ref x)] [])
  refine own_st (T' := T2) (g' := (mkF m 25 #[.val (.ref t), .val (.ref x)] [(.ref x), (.ref t)])) (fun uT uK => ?_) ?_
  · show Steps p.tables e below (T2.setTop (mkF m 12 #[.val (.ref t), .val (.ref x)] [])) _
    refine XS.goto X2.here hx rfl (pc0 := 12) (pc' := 23) rfl (hb hby d5_12) (by decide) (by decide) ?_
    show Steps p.tables e below (T2.setTop (mkF m 23 #[.val (.ref t), .val (.ref x)] [])) _
    refine XS.aloadN X2.here hx rfl (hb hby d5_23) rfl rfl ?_
    show Steps p.tables e below (T2.setTop (mkF m 24 #[.val (.ref t), .val (.ref x)] [(.ref t)])) _
    refine XS.aloadN X2.here hx rfl (hb hby d5_24) rfl rfl ?_
    exact uK
  obtain ⟨T3, h3, X3, e3, W3, st3⟩ := putF X2 hx hZ hown (host := "") (Or.inl (hw _ (List.mem_of_getElem? (i := 43) rfl))) Via.refl e2 F2_lastGrant_t E2_t (Or.inl (hw _ (List.mem_of_getElem? (i := 44) rfl))) (hw _ (List.mem_of_getElem? (i := 2) rfl)) (ty := (.object "com/example/liblockmode/liblockmode/core/Grant")) (by decide) rfl rfl (g := (mkF m 25 #[.val (.ref t), .val (.ref x)] [(.ref x), (.ref t)])) rfl rfl (hb hby d5_25)
  have E3_t := (E2_t).wr W3
  have F3_firstGrant_t := (F2_firstGrant_t).other W3 (Or.inr (slot_ne (Or.inl (hw _ (List.mem_of_getElem? (i := 37) rfl))) (Or.inl (hw _ (List.mem_of_getElem? (i := 44) rfl))) (by decide) (t := (.object "com/example/liblockmode/liblockmode/core/Grant")) (t' := (.object "com/example/liblockmode/liblockmode/core/Grant")) (by decide) (by decide)))
  have F3_lastGrant_t := (F2_lastGrant_t).same W3
  have F3_grantCount_t := (F2_grantCount_t).other W3 (Or.inr (slot_ne (Or.inl (hw _ (List.mem_of_getElem? (i := 46) rfl))) (Or.inl (hw _ (List.mem_of_getElem? (i := 44) rfl))) (by decide) (t := .int) (t' := (.object "com/example/liblockmode/liblockmode/core/Grant")) (by decide) (by decide)))
  have F3_modesByObject_t := (F2_modesByObject_t).other W3 (Or.inr (slot_ne (Or.inl (hw _ (List.mem_of_getElem? (i := 48) rfl))) (Or.inl (hw _ (List.mem_of_getElem? (i := 44) rfl))) (by decide) (t := (.object "java/util/Map")) (t' := (.object "com/example/liblockmode/liblockmode/core/Grant")) (by decide) (by decide)))
  have K3 := (K2).wr W3 (Or.inl (List.mem_of_getElem? (i := 0) rfl))
  have N3 := Fr.snoc X3 N2 g_t
  have Z3 : n0 ≤ h3.size := Nat.le_trans Z2 (Keep.of_wr W3).1
  refine own_st st3 ?_
  show OwnGo p e below s _ _ _ T3 (mkF m 28 #[.val (.ref t), .val (.ref x)] [])
  refine own_st (T' := T3) (g' := (mkF m 30 #[.val (.ref t), .val (.ref x)] [(.ref t), (.ref t)])) (fun uT uK => ?_) ?_
  · show Steps p.tables e below (T3.setTop (mkF m 28 #[.val (.ref t), .val (.ref x)] [])) _
    refine XS.aloadN X3.here hx rfl (hb hby d5_28) rfl rfl ?_
    show Steps p.tables e below (T3.setTop (mkF m 29 #[.val (.ref t), .val (.ref x)] [(.ref t)])) _
    refine XS.dup X3.here hx rfl (hb hby d5_29) rfl rfl ?_
    exact uK
  obtain ⟨T4, X4, e4, st4⟩ := getF X3 hx hZ hown (host := "") (Or.inl (hw _ (List.mem_of_getElem? (i := 45) rfl))) Via.refl e3 F3_grantCount_t (g := (mkF m 30 #[.val (.ref t), .val (.ref x)] [(.ref t), (.ref t)])) rfl rfl (hb hby d5_30)
  refine own_st st4 ?_
  show OwnGo p e below s _ _ _ T4 (mkF m 33 #[.val (.ref t), .val (.ref x)] [(.int n), (.ref t)])
  refine own_st (T' := T4) (g' := (mkF m 35 #[.val (.ref t), .val (.ref x)] [(.int (n + (1 : Int32))), (.ref t)])) (fun uT uK => ?_) ?_
  · show Steps p.tables e below (T4.setTop (mkF m 33 #[.val (.ref t), .val (.ref x)] [(.int n), (.ref t)])) _
    refine XS.iconst X4.here hx rfl (hb hby d5_33) ?_
    show Steps p.tables e below (T4.setTop (mkF m 34 #[.val (.ref t), .val (.ref x)] [(.int (1 : Int32)), (.int n), (.ref t)])) _
    refine XS.iadd X4.here hx rfl (hb hby d5_34) rfl ?_
    exact uK
  obtain ⟨T5, h5, X5, e5, W5, st5⟩ := putF X4 hx hZ hown (host := "") (Or.inl (hw _ (List.mem_of_getElem? (i := 45) rfl))) Via.refl e4 F3_grantCount_t E3_t (Or.inl (hw _ (List.mem_of_getElem? (i := 46) rfl))) (hw _ (List.mem_of_getElem? (i := 2) rfl)) (ty := .int) (by decide) rfl rfl (g := (mkF m 35 #[.val (.ref t), .val (.ref x)] [(.int (n + (1 : Int32))), (.ref t)])) rfl rfl (hb hby d5_35)
  have E5_t := (E3_t).wr W5
  have F5_firstGrant_t := (F3_firstGrant_t).other W5 (Or.inr (slot_ne (Or.inl (hw _ (List.mem_of_getElem? (i := 37) rfl))) (Or.inl (hw _ (List.mem_of_getElem? (i := 46) rfl))) (by decide) (t := (.object "com/example/liblockmode/liblockmode/core/Grant")) (t' := .int) (by decide) (by decide)))
  have F5_lastGrant_t := (F3_lastGrant_t).other W5 (Or.inr (slot_ne (Or.inl (hw _ (List.mem_of_getElem? (i := 44) rfl))) (Or.inl (hw _ (List.mem_of_getElem? (i := 46) rfl))) (by decide) (t := (.object "com/example/liblockmode/liblockmode/core/Grant")) (t' := .int) (by decide) (by decide)))
  have F5_grantCount_t := (F3_grantCount_t).same W5
  have F5_modesByObject_t := (F3_modesByObject_t).other W5 (Or.inr (slot_ne (Or.inl (hw _ (List.mem_of_getElem? (i := 48) rfl))) (Or.inl (hw _ (List.mem_of_getElem? (i := 46) rfl))) (by decide) (t := (.object "java/util/Map")) (t' := .int) (by decide) (by decide)))
  have K5 := (K3).wr W5 (Or.inl (List.mem_of_getElem? (i := 0) rfl))
  have N5 := Fr.snoc X5 N3 g_t
  have Z5 : n0 ≤ h5.size := Nat.le_trans Z3 (Keep.of_wr W5).1
  refine own_st st5 ?_
  show OwnGo p e below s _ _ _ T5 (mkF m 38 #[.val (.ref t), .val (.ref x)] [])
  refine own_st (T' := T5) (g' := (mkF m 39 #[.val (.ref t), .val (.ref x)] [(.ref t)])) (fun uT uK => ?_) ?_
  · show Steps p.tables e below (T5.setTop (mkF m 38 #[.val (.ref t), .val (.ref x)] [])) _
    refine XS.aloadN X5.here hx rfl (hb hby d5_38) rfl rfl ?_
    exact uK
  obtain ⟨T6, X6, e6, st6⟩ := getF X5 hx hZ hown (host := "") (Or.inl (hw _ (List.mem_of_getElem? (i := 47) rfl))) Via.refl e5 F5_modesByObject_t (g := (mkF m 39 #[.val (.ref t), .val (.ref x)] [(.ref t)])) rfl rfl (hb hby d5_39)
  refine own_st st6 ?_
  show OwnGo p e below s _ _ _ T6 (mkF m 42 #[.val (.ref t), .val (.ref x)] [.null])
  refine own_st (T' := T6) (g' := (mkF m 78 #[.val (.ref t), .val (.ref x)] [(.ref t)])) (fun uT uK => ?_) ?_
  · show Steps p.tables e below (T6.setTop (mkF m 42 #[.val (.ref t), .val (.ref x)] [.null])) _
    refine XS.ifnullYes X6.here hx rfl (pc0 := 42) (pc' := 77) rfl (hb hby d5_42) rfl (by decide) (by decide) ?_
    show Steps p.tables e below (T6.setTop (mkF m 77 #[.val (.ref t), .val (.ref x)] [])) _
    refine XS.aloadN X6.here hx rfl (hb hby d5_77) rfl rfl ?_
    exact uK
  obtain ⟨T7, X7, e7, st7⟩ := getF X6 hx hZ hown (host := "") (Or.inl (hw _ (List.mem_of_getElem? (i := 45) rfl))) Via.refl e6 F5_grantCount_t (g := (mkF m 78 #[.val (.ref t), .val (.ref x)] [(.ref t)])) rfl rfl (hb hby d5_78)
  refine own_st st7 ?_
  show OwnGo p e below s _ _ _ T7 (mkF m 81 #[.val (.ref t), .val (.ref x)] [(.int (n + (1 : Int32)))])
  refine own_st (T' := T7) (g' := (mkF m 90 #[.val (.ref t), .val (.ref x)] [])) (fun uT uK => ?_) ?_
  · show Steps p.tables e below (T7.setTop (mkF m 81 #[.val (.ref t), .val (.ref x)] [(.int (n + (1 : Int32)))])) _
    refine XS.bipush X7.here hx rfl (hb hby d5_81) ?_
    show Steps p.tables e below (T7.setTop (mkF m 83 #[.val (.ref t), .val (.ref x)] [(.int (8 : Int32)), (.int (n + (1 : Int32)))])) _
    refine XS.icmpYes X7.here hx rfl (pc0 := 83) (pc' := 90) rfl (hb hby d5_83) rfl (XT.ii_le_t hn) (by decide) (by decide) ?_
    exact uK
  exact own_ret (v := none) X7 hlk (fun _ => rfl) (fun fs hr => X7.returnOut hx hret (hb hby d5_90) hr) (by rw [e7]; exact ⟨rfl, N5, K5, E5_t, F5_firstGrant_t, F5_lastGrant_t, F5_grantCount_t, F5_modesByObject_t⟩) (by decide) (by decide)
def Q5b (Z : State) (t : Addr) (x : Addr) (f : Addr) (b : Addr) (n : Int32) (h0 : Heap) (n0 : Nat) (v : Option Value) (h : Heap) (L : List Loc) : Prop := v = none ∧ Fr n0 L ∧ Keep h0 h [t, b] ∧ Exa Z h t "com/example/liblockmode/liblockmode/core/TransactionLocks" ∧ Fld Z h t "com/example/liblockmode/liblockmode/core/TransactionLocks" "firstGrant" "Lcom/example/liblockmode/liblockmode/core/Grant;" (.ref f) ∧ Fld Z h t "com/example/liblockmode/liblockmode/core/TransactionLocks" "lastGrant" "Lcom/example/liblockmode/liblockmode/core/Grant;" (.ref x) ∧ Fld Z h t "com/example/liblockmode/liblockmode/core/TransactionLocks" "grantCount" "I" (.int (n + 1)) ∧ Fld Z h t "com/example/liblockmode/liblockmode/core/TransactionLocks" "modesByObject" "Ljava/util/Map;" .null ∧ Exa Z h b "com/example/liblockmode/liblockmode/core/Grant" ∧ Fld Z h b "com/example/liblockmode/liblockmode/core/Grant" "nextLogged" "Lcom/example/liblockmode/liblockmode/core/Grant;" (.ref x)
theorem own_ef_rm5b (m : MethodId) (x0 : Addr) (x1 : Addr) : entryFrame m #[(.ref x0), (.ref x1)] 2 = mkF m 0 #[.val (.ref x0), .val (.ref x1)] [] := by first | (simp [entryFrame, mkF, argsToLocals, Value.category]; done) | rfl
set_option maxRecDepth 65536 in
set_option maxHeartbeats 40000000 in
theorem rm5b (l : Launch) (Z : State) (a0 : Array Value) (hw : ∀ d ∈ tables_1, d.before a0 Z = true) (ws : List Jvm.Cond) (t : Addr) (x : Addr) (f : Addr) (b : Addr) (n : Int32) (h0 : Heap) (n0 : Nat) (Z0 : n0 ≤ h0.size) (E_t : Exa Z h0 t "com/example/liblockmode/liblockmode/core/TransactionLocks") (F_firstGrant : Fld Z h0 t "com/example/liblockmode/liblockmode/core/TransactionLocks" "firstGrant" "Lcom/example/liblockmode/liblockmode/core/Grant;" (.ref f)) (F_lastGrant : Fld Z h0 t "com/example/liblockmode/liblockmode/core/TransactionLocks" "lastGrant" "Lcom/example/liblockmode/liblockmode/core/Grant;" (.ref b)) (F_grantCount : Fld Z h0 t "com/example/liblockmode/liblockmode/core/TransactionLocks" "grantCount" "I" (.int n)) (F_modesByObject : Fld Z h0 t "com/example/liblockmode/liblockmode/core/TransactionLocks" "modesByObject" "Ljava/util/Map;" .null) (E_b : Exa Z h0 b "com/example/liblockmode/liblockmode/core/Grant") (F_nx : Fld Z h0 b "com/example/liblockmode/liblockmode/core/Grant" "nextLogged" "Lcom/example/liblockmode/liblockmode/core/Grant;" .null) (ne_tb : t ≠ b) (g_t : n0 ≤ t) (g_b : n0 ≤ b) (hn : ¬ (8 : Int32) < (n + (1 : Int32))) :
    MetFree l (⟨"com/example/liblockmode/liblockmode/core/TransactionLocks", "log", "(Lcom/example/liblockmode/liblockmode/core/Grant;)V"⟩ : MethodName) (head1 (Jvm.Cond.code (⟨"com/example/liblockmode/liblockmode/core/TransactionLocks", "log", "(Lcom/example/liblockmode/liblockmode/core/Grant;)V"⟩ : MethodName) prog_56_method_13_code 2 none :: ws) ({ frames := 0, cells := 0, slots := 0, locals := 0 } : Room)) (fun aQ UQ => aQ = #[(.ref t), (.ref x)] ∧ Z.Warmed39 UQ.vm ∧ UQ.heap = h0) (fun _ _ _ _ _ => True) (fun _ UQ oQ UR => ∃ vQ LQ, oQ = .returned vQ ∧ Q5b Z t x f b n h0 n0 vQ UR.heap LQ ∧ FrameEnd UQ oQ UR LQ ({ frames := 0, cells := 0, slots := 0, locals := 0 } : Room).cells ({ frames := 0, cells := 0, slots := 0, locals := 0 } : Room).slots) := by
  refine MetFree.of_bodySF (plainFor_of_name pn_5) hisR ?_
  intro p e s m args below meth c s₁ Bd hml0 hP hK
  obtain ⟨rfl, hZ, hh⟩ := hP
  have hx := Bd.exec
  have hby := Bd.bytes
  have hml : c.maxLocals = 2 := hml0
  have hown : s.vm.findClass "com/example/liblockmode/liblockmode/core/TransactionLocks" = some m.cls := findClass_of_methodNamed Bd.named
  have hnm := (name_of_methodNamed Bd.named Bd.method).1
  have hret := Bd.returns
  have hlk : meth.locks = false := Bd.notSynchronized
  have X0 : Stand p l e ({ frames := 0, cells := 0, slots := 0, locals := 0 } : Room) s m #[(.ref t), (.ref x)] below meth c s₁ [] 0 0 := Stand.of_body Bd
  have e0 : s₁.heap = h0 := by rw [← hh, Bd.state]; rfl
  have N0 := Fr.nil n0
  have K : Ctx5 p s m meth c Z a0 := ⟨hx, hZ, hw, hby, hml, hown, hret, hlk, hnm⟩
  show OwnGo p e below s ({ frames := 0, cells := 0, slots := 0, locals := 0 } : Room).cells ({ frames := 0, cells := 0, slots := 0, locals := 0 } : Room).slots (Q5b Z t x f b n h0 n0) s₁ (entryFrame m #[(.ref t), (.ref x)] 2)
  refine own_cast (own_ef_rm5b m t x) ?_
  show OwnGo p e below s _ _ _ s₁ (mkF m 0 #[.val (.ref t), .val (.ref x)] [])
  refine own_st (T' := s₁) (g' := (mkF m 1 #[.val (.ref t), .val (.ref x)] [(.ref t)])) (fun uT uK => ?_) ?_
  · show Steps p.tables e below (s₁.setTop (mkF m 0 #[.val (.ref t), .val (.ref x)] [])) _
    refine XS.aloadN X0.here hx rfl (hb hby d5_0) rfl rfl ?_
    exact uK
  obtain ⟨T1, X1, e1, st1⟩ := getF X0 hx hZ hown (host := "") (Or.inl (hw _ (List.mem_of_getElem? (i := 43) rfl))) Via.refl e0 F_lastGrant (g := (mkF m 1 #[.val (.ref t), .val (.ref x)] [(.ref t)])) rfl rfl (hb hby d5_1)
  refine own_st st1 ?_
  show OwnGo p e below s _ _ _ T1 (mkF m 4 #[.val (.ref t), .val (.ref x)] [(.ref b)])
  refine own_st (T' := T1) (g' := (mkF m 16 #[.val (.ref t), .val (.ref x)] [(.ref t)])) (fun uT uK => ?_) ?_
  · show Steps p.tables e below (T1.setTop (mkF m 4 #[.val (.ref t), .val (.ref x)] [(.ref b)])) _
    refine XT.ifnonnullYes X1.here hx rfl (pc0 := 4) (pc' := 15) rfl (hb hby d5_4) rfl (by decide) (by decide) ?_
    show Steps p.tables e below (T1.setTop (mkF m 15 #[.val (.ref t), .val (.ref x)] [])) _
    refine XS.aloadN X1.here hx rfl (hb hby d5_15) rfl rfl ?_
    exact uK
  obtain ⟨T2, X2, e2, st2⟩ := getF X1 hx hZ hown (host := "") (Or.inl (hw _ (List.mem_of_getElem? (i := 43) rfl))) Via.refl e1 F_lastGrant (g := (mkF m 16 #[.val (.ref t), .val (.ref x)] [(.ref t)])) rfl rfl (hb hby d5_16)
  refine own_st st2 ?_
  show OwnGo p e below s _ _ _ T2 (mkF m 19 #[.val (.ref t), .val (.ref x)] [(.ref b)])
  refine own_st (T' := T2) (g' := (mkF m 20 #[.val (.ref t), .val (.ref x)] [(.ref x), (.ref b)])) (fun uT uK => ?_) ?_
  · show Steps p.tables e below (T2.setTop (mkF m 19 #[.val (.ref t), .val (.ref x)] [(.ref b)])) _
    refine XS.aloadN X2.here hx rfl (hb hby d5_19) rfl rfl ?_
    exact uK
  obtain ⟨T3, h3, X3, e3, W3, st3⟩ := putF X2 hx hZ hown (host := "") (Or.inl (hw _ (List.mem_of_getElem? (i := 49) rfl))) Via.refl e2 F_nx E_b (Or.inl (hw _ (List.mem_of_getElem? (i := 50) rfl))) (hw _ (List.mem_of_getElem? (i := 21) rfl)) (ty := (.object "com/example/liblockmode/liblockmode/core/Grant")) (by decide) rfl rfl (g := (mkF m 20 #[.val (.ref t), .val (.ref x)] [(.ref x), (.ref b)])) rfl rfl (hb hby d5_20)
  have E3_t := (E_t).wr W3
  have F3_firstGrant_t := (F_firstGrant).other W3 (Or.inl ne_tb)
  have F3_lastGrant_t := (F_lastGrant).other W3 (Or.inl ne_tb)
  have F3_grantCount_t := (F_grantCount).other W3 (Or.inl ne_tb)
  have F3_modesByObject_t := (F_modesByObject).other W3 (Or.inl ne_tb)
  have K3 := (Keep.refl h0 [t, b]).wr W3 (Or.inl (List.mem_of_getElem? (i := 1) rfl))
  have E3_b := (E_b).wr W3
  have F3_nextLogged_b := (F_nx).same W3
  have N3 := Fr.snoc X3 N0 g_b
  have Z3 : n0 ≤ h3.size := Nat.le_trans Z0 (Keep.of_wr W3).1
  refine own_st st3 ?_
  show OwnGo p e below s _ _ _ T3 (mkF m 23 #[.val (.ref t), .val (.ref x)] [])
  refine own_st (T' := T3) (g' := (mkF m 25 #[.val (.ref t), .val (.ref x)] [(.ref x), (.ref t)])) (fun uT uK => ?_) ?_
  · show Steps p.tables e below (T3.setTop (mkF m 23 #[.val (.ref t), .val (.ref x)] [])) _
    refine XS.aloadN X3.here hx rfl (hb hby d5_23) rfl rfl ?_
    show Steps p.tables e below (T3.setTop (mkF m 24 #[.val (.ref t), .val (.ref x)] [(.ref t)])) _
    refine XS.aloadN X3.here hx rfl (hb hby d5_24) rfl rfl ?_
    exact uK
  obtain ⟨T4, h4, X4, e4, W4, st4⟩ := putF X3 hx hZ hown (host := "") (Or.inl (hw _ (List.mem_of_getElem? (i := 43) rfl))) Via.refl e3 F3_lastGrant_t E3_t (Or.inl (hw _ (List.mem_of_getElem? (i := 44) rfl))) (hw _ (List.mem_of_getElem? (i := 2) rfl)) (ty := (.object "com/example/liblockmode/liblockmode/core/Grant")) (by decide) rfl rfl (g := (mkF m 25 #[.val (.ref t), .val (.ref x)] [(.ref x), (.ref t)])) rfl rfl (hb hby d5_25)
  have E4_t := (E3_t).wr W4
  have F4_firstGrant_t := (F3_firstGrant_t).other W4 (Or.inr (slot_ne (Or.inl (hw _ (List.mem_of_getElem? (i := 37) rfl))) (Or.inl (hw _ (List.mem_of_getElem? (i := 44) rfl))) (by decide) (t := (.object "com/example/liblockmode/liblockmode/core/Grant")) (t' := (.object "com/example/liblockmode/liblockmode/core/Grant")) (by decide) (by decide)))
  have F4_lastGrant_t := (F3_lastGrant_t).same W4
  have F4_grantCount_t := (F3_grantCount_t).other W4 (Or.inr (slot_ne (Or.inl (hw _ (List.mem_of_getElem? (i := 46) rfl))) (Or.inl (hw _ (List.mem_of_getElem? (i := 44) rfl))) (by decide) (t := .int) (t' := (.object "com/example/liblockmode/liblockmode/core/Grant")) (by decide) (by decide)))
  have F4_modesByObject_t := (F3_modesByObject_t).other W4 (Or.inr (slot_ne (Or.inl (hw _ (List.mem_of_getElem? (i := 48) rfl))) (Or.inl (hw _ (List.mem_of_getElem? (i := 44) rfl))) (by decide) (t := (.object "java/util/Map")) (t' := (.object "com/example/liblockmode/liblockmode/core/Grant")) (by decide) (by decide)))
  have K4 := (K3).wr W4 (Or.inl (List.mem_of_getElem? (i := 0) rfl))
  have E4_b := (E3_b).wr W4
  have F4_nextLogged_b := (F3_nextLogged_b).other W4 (Or.inl (Ne.symm ne_tb))
  have N4 := Fr.snoc X4 N3 g_t
  have Z4 : n0 ≤ h4.size := Nat.le_trans Z3 (Keep.of_wr W4).1
  refine own_st st4 ?_
  show OwnGo p e below s _ _ _ T4 (mkF m 28 #[.val (.ref t), .val (.ref x)] [])
  refine own_st (T' := T4) (g' := (mkF m 30 #[.val (.ref t), .val (.ref x)] [(.ref t), (.ref t)])) (fun uT uK => ?_) ?_
  · show Steps p.tables e below (T4.setTop (mkF m 28 #[.val (.ref t), .val (.ref x)] [])) _
    refine XS.aloadN X4.here hx rfl (hb hby d5_28) rfl rfl ?_
    show Steps p.tables e below (T4.setTop (mkF m 29 #[.val (.ref t), .val (.ref x)] [(.ref t)])) _
    refine XS.dup X4.here hx rfl (hb hby d5_29) rfl rfl ?_
    exact uK
  obtain ⟨T5, X5, e5, st5⟩ := getF X4 hx hZ hown (host := "") (Or.inl (hw _ (List.mem_of_getElem? (i := 45) rfl))) Via.refl e4 F4_grantCount_t (g := (mkF m 30 #[.val (.ref t), .val (.ref x)] [(.ref t), (.ref t)])) rfl rfl (hb hby d5_30)
  refine own_st st5 ?_
  show OwnGo p e below s _ _ _ T5 (mkF m 33 #[.val (.ref t), .val (.ref x)] [(.int n), (.ref t)])
  refine own_st (T' := T5) (g' := (mkF m 35 #[.val (.ref t), .val (.ref x)] [(.int (n + (1 : Int32))), (.ref t)])) (fun uT uK => ?_) ?_
  · show Steps p.tables e below (T5.setTop (mkF m 33 #[.val (.ref t), .val (.ref x)] [(.int n), (.ref t)])) _
    refine XS.iconst X5.here hx rfl (hb hby d5_33) ?_
    show Steps p.tables e below (T5.setTop (mkF m 34 #[.val (.ref t), .val (.ref x)] [(.int (1 : Int32)), (.int n), (.ref t)])) _
    refine XS.iadd X5.here hx rfl (hb hby d5_34) rfl ?_
    exact uK
  obtain ⟨T6, h6, X6, e6, W6, st6⟩ := putF X5 hx hZ hown (host := "") (Or.inl (hw _ (List.mem_of_getElem? (i := 45) rfl))) Via.refl e5 F4_grantCount_t E4_t (Or.inl (hw _ (List.mem_of_getElem? (i := 46) rfl))) (hw _ (List.mem_of_getElem? (i := 2) rfl)) (ty := .int) (by decide) rfl rfl (g := (mkF m 35 #[.val (.ref t), .val (.ref x)] [(.int (n + (1 : Int32))), (.ref t)])) rfl rfl (hb hby d5_35)
  have E6_t := (E4_t).wr W6
  have F6_firstGrant_t := (F4_firstGrant_t).other W6 (Or.inr (slot_ne (Or.inl (hw _ (List.mem_of_getElem? (i := 37) rfl))) (Or.inl (hw _ (List.mem_of_getElem? (i := 46) rfl))) (by decide) (t := (.object "com/example/liblockmode/liblockmode/core/Grant")) (t' := .int) (by decide) (by decide)))
  have F6_lastGrant_t := (F4_lastGrant_t).other W6 (Or.inr (slot_ne (Or.inl (hw _ (List.mem_of_getElem? (i := 44) rfl))) (Or.inl (hw _ (List.mem_of_getElem? (i := 46) rfl))) (by decide) (t := (.object "com/example/liblockmode/liblockmode/core/Grant")) (t' := .int) (by decide) (by decide)))
  have F6_grantCount_t := (F4_grantCount_t).same W6
  have F6_modesByObject_t := (F4_modesByObject_t).other W6 (Or.inr (slot_ne (Or.inl (hw _ (List.mem_of_getElem? (i := 48) rfl))) (Or.inl (hw _ (List.mem_of_getElem? (i := 46) rfl))) (by decide) (t := (.object "java/util/Map")) (t' := .int) (by decide) (by decide)))
  have K6 := (K4).wr W6 (Or.inl (List.mem_of_getElem? (i := 0) rfl))
  have E6_b := (E4_b).wr W6
  have F6_nextLogged_b := (F4_nextLogged_b).other W6 (Or.inl (Ne.symm ne_tb))
  have N6 := Fr.snoc X6 N4 g_t
  have Z6 : n0 ≤ h6.size := Nat.le_trans Z4 (Keep.of_wr W6).1
  refine own_st st6 ?_
  show OwnGo p e below s _ _ _ T6 (mkF m 38 #[.val (.ref t), .val (.ref x)] [])
  refine own_st (T' := T6) (g' := (mkF m 39 #[.val (.ref t), .val (.ref x)] [(.ref t)])) (fun uT uK => ?_) ?_
  · show Steps p.tables e below (T6.setTop (mkF m 38 #[.val (.ref t), .val (.ref x)] [])) _
    refine XS.aloadN X6.here hx rfl (hb hby d5_38) rfl rfl ?_
    exact uK
  obtain ⟨T7, X7, e7, st7⟩ := getF X6 hx hZ hown (host := "") (Or.inl (hw _ (List.mem_of_getElem? (i := 47) rfl))) Via.refl e6 F6_modesByObject_t (g := (mkF m 39 #[.val (.ref t), .val (.ref x)] [(.ref t)])) rfl rfl (hb hby d5_39)
  refine own_st st7 ?_
  show OwnGo p e below s _ _ _ T7 (mkF m 42 #[.val (.ref t), .val (.ref x)] [.null])
  refine own_st (T' := T7) (g' := (mkF m 78 #[.val (.ref t), .val (.ref x)] [(.ref t)])) (fun uT uK => ?_) ?_
  · show Steps p.tables e below (T7.setTop (mkF m 42 #[.val (.ref t), .val (.ref x)] [.null])) _
    refine XS.ifnullYes X7.here hx rfl (pc0 := 42) (pc' := 77) rfl (hb hby d5_42) rfl (by decide) (by decide) ?_
    show Steps p.tables e below (T7.setTop (mkF m 77 #[.val (.ref t), .val (.ref x)] [])) _
    refine XS.aloadN X7.here hx rfl (hb hby d5_77) rfl rfl ?_
    exact uK
  obtain ⟨T8, X8, e8, st8⟩ := getF X7 hx hZ hown (host := "") (Or.inl (hw _ (List.mem_of_getElem? (i := 45) rfl))) Via.refl e7 F6_grantCount_t (g := (mkF m 78 #[.val (.ref t), .val (.ref x)] [(.ref t)])) rfl rfl (hb hby d5_78)
  refine own_st st8 ?_
  show OwnGo p e below s _ _ _ T8 (mkF m 81 #[.val (.ref t), .val (.ref x)] [(.int (n + (1 : Int32)))])
  refine own_st (T' := T8) (g' := (mkF m 90 #[.val (.ref t), .val (.ref x)] [])) (fun uT uK => ?_) ?_
  · show Steps p.tables e below (T8.setTop (mkF m 81 #[.val (.ref t), .val (.ref x)] [(.int (n + (1 : Int32)))])) _
    refine XS.bipush X8.here hx rfl (hb hby d5_81) ?_
    show Steps p.tables e below (T8.setTop (mkF m 83 #[.val (.ref t), .val (.ref x)] [(.int (8 : Int32)), (.int (n + (1 : Int32)))])) _
    refine XS.icmpYes X8.here hx rfl (pc0 := 83) (pc' := 90) rfl (hb hby d5_83) rfl (XT.ii_le_t hn) (by decide) (by decide) ?_
    exact uK
  exact own_ret (v := none) X8 hlk (fun _ => rfl) (fun fs hr => X8.returnOut hx hret (hb hby d5_90) hr) (by rw [e8]; exact ⟨rfl, N6, K6, E6_t, F6_firstGrant_t, F6_lastGrant_t, F6_grantCount_t, F6_modesByObject_t, E6_b, F6_nextLogged_b⟩) (by decide) (by decide)
def Q4 (Z : State) (t : Addr) (k : Int32) (as : List Addr) (d : Nat) (u : Value) (res : Value) (h0 : Heap) (n0 : Nat) (v : Option Value) (h : Heap) (L : List Loc) : Prop := v = some res ∧ Fr n0 L ∧ h = h0
set_option maxRecDepth 65536 in
set_option maxHeartbeats 40000000 in
theorem own_loop4 {p : Program} {l : Launch} {e : Env} {s : State} {m : MethodId} {args : Array Value} {below : List Frame} {meth : Method} {c : Code} {locs : List Loc} {Z : State} {a0 : Array Value} {h : Heap} {n0 : Nat} (t : Addr) (k : Int32) (as0 : List Addr) (d0 : Nat) (u0 res : Value)
    (K : Ctx4 p s m meth c Z a0) (N : Fr n0 locs) :
    ∀ (as : List Addr) (v : Value) (d j : Nat) (T : State), (j : Int) + d = k.toInt → own_chain Z h v as → Stand p l e ({ frames := 0, cells := 0, slots := 0, locals := 0 } : Room) s m args below meth c T locs 0 0 → T.heap = h → own_at as d = res →
      OwnGo p e below s ({ frames := 0, cells := 0, slots := 0, locals := 0 } : Room).cells ({ frames := 0, cells := 0, slots := 0, locals := 0 } : Room).slots (Q4 Z t k as0 d0 u0 res h n0) T (mkF m 7 #[.val (.ref t), .val (.int k), .val v, .val (.int (Int32.ofNat j))] []) := by
  obtain ⟨hx, hZ, hw, hby, hml, hown, hret, hlk, hnm⟩ := id K
  intro as
  induction as with
  | nil =>
    intro v d j T hj hch X eT hres
    obtain rfl : v = .null := hch
    show OwnGo p e below s _ _ _ T (mkF m 7 #[.val (.ref t), .val (.int k), .val .null, .val (.int (Int32.ofNat j))] [])
    refine own_st (T' := T) (g' := (mkF m 9 #[.val (.ref t), .val (.int k), .val .null, .val (.int (Int32.ofNat j))] [(.int k), (.int (Int32.ofNat j))])) (fun uT uK => ?_) ?_
    · show Steps p.tables e below (T.setTop (mkF m 7 #[.val (.ref t), .val (.int k), .val .null, .val (.int (Int32.ofNat j))] [])) _
      refine XS.iloadN X.here hx rfl (hb hby d4_7) rfl ?_
      show Steps p.tables e below (T.setTop (mkF m 8 #[.val (.ref t), .val (.int k), .val .null, .val (.int (Int32.ofNat j))] [(.int (Int32.ofNat j))])) _
      refine XS.iloadN X.here hx rfl (hb hby d4_8) rfl ?_
      exact uK
    by_cases hc9 : (Int32.ofNat j) < k
    · refine own_st (T' := T) (g' := (mkF m 28 #[.val (.ref t), .val (.int k), .val .null, .val (.int (Int32.ofNat j))] [.null])) (fun uT uK => ?_) ?_
      · show Steps p.tables e below (T.setTop (mkF m 9 #[.val (.ref t), .val (.int k), .val .null, .val (.int (Int32.ofNat j))] [(.int k), (.int (Int32.ofNat j))])) _
        refine XS.icmpNo X.here hx rfl (hb hby d4_9) rfl (XT.ii_ge_f hc9) ?_
        show Steps p.tables e below (T.setTop (mkF m 12 #[.val (.ref t), .val (.int k), .val .null, .val (.int (Int32.ofNat j))] [])) _
        refine XS.aloadN X.here hx rfl (hb hby d4_12) rfl rfl ?_
        show Steps p.tables e below (T.setTop (mkF m 13 #[.val (.ref t), .val (.int k), .val .null, .val (.int (Int32.ofNat j))] [.null])) _
        refine XS.ifnullYes X.here hx rfl (pc0 := 13) (pc' := 27) rfl (hb hby d4_13) rfl (by decide) (by decide) ?_
        show Steps p.tables e below (T.setTop (mkF m 27 #[.val (.ref t), .val (.int k), .val .null, .val (.int (Int32.ofNat j))] [])) _
        refine XS.aloadN X.here hx rfl (hb hby d4_27) rfl rfl ?_
        exact uK
      exact own_ret (v := some .null) X hlk (fun h => by rw [hret] at h; cases h) (fun fs hr => retOut X hx hret rfl (Or.inr (Or.inr (Or.inr (Or.inr ⟨rfl, rfl, rfl⟩)))) (hb hby d4_28) hr) (by rw [eT]; exact ⟨congrArg some hres, N, rfl⟩) (by decide) (by decide)
    · refine own_st (T' := T) (g' := (mkF m 28 #[.val (.ref t), .val (.int k), .val .null, .val (.int (Int32.ofNat j))] [.null])) (fun uT uK => ?_) ?_
      · show Steps p.tables e below (T.setTop (mkF m 9 #[.val (.ref t), .val (.int k), .val .null, .val (.int (Int32.ofNat j))] [(.int k), (.int (Int32.ofNat j))])) _
        refine XS.icmpYes X.here hx rfl (pc0 := 9) (pc' := 27) rfl (hb hby d4_9) rfl (XT.ii_ge_t hc9) (by decide) (by decide) ?_
        show Steps p.tables e below (T.setTop (mkF m 27 #[.val (.ref t), .val (.int k), .val .null, .val (.int (Int32.ofNat j))] [])) _
        refine XS.aloadN X.here hx rfl (hb hby d4_27) rfl rfl ?_
        exact uK
      exact own_ret (v := some .null) X hlk (fun h => by rw [hret] at h; cases h) (fun fs hr => retOut X hx hret rfl (Or.inr (Or.inr (Or.inr (Or.inr ⟨rfl, rfl, rfl⟩)))) (hb hby d4_28) hr) (by rw [eT]; exact ⟨congrArg some hres, N, rfl⟩) (by decide) (by decide)
  | cons a as ih =>
    intro v d j T hj hch X eT hres
    obtain ⟨rfl, w, F_nx, hch'⟩ := hch
    show OwnGo p e below s _ _ _ T (mkF m 7 #[.val (.ref t), .val (.int k), .val (.ref a), .val (.int (Int32.ofNat j))] [])
    refine own_st (T' := T) (g' := (mkF m 9 #[.val (.ref t), .val (.int k), .val (.ref a), .val (.int (Int32.ofNat j))] [(.int k), (.int (Int32.ofNat j))])) (fun uT uK => ?_) ?_
    · show Steps p.tables e below (T.setTop (mkF m 7 #[.val (.ref t), .val (.int k), .val (.ref a), .val (.int (Int32.ofNat j))] [])) _
      refine XS.iloadN X.here hx rfl (hb hby d4_7) rfl ?_
      show Steps p.tables e below (T.setTop (mkF m 8 #[.val (.ref t), .val (.int k), .val (.ref a), .val (.int (Int32.ofNat j))] [(.int (Int32.ofNat j))])) _
      refine XS.iloadN X.here hx rfl (hb hby d4_8) rfl ?_
      exact uK
    by_cases hc9 : (Int32.ofNat j) < k
    · refine own_st (T' := T) (g' := (mkF m 17 #[.val (.ref t), .val (.int k), .val (.ref a), .val (.int (Int32.ofNat j))] [(.ref a)])) (fun uT uK => ?_) ?_
      · show Steps p.tables e below (T.setTop (mkF m 9 #[.val (.ref t), .val (.int k), .val (.ref a), .val (.int (Int32.ofNat j))] [(.int k), (.int (Int32.ofNat j))])) _
        refine XS.icmpNo X.here hx rfl (hb hby d4_9) rfl (XT.ii_ge_f hc9) ?_
        show Steps p.tables e below (T.setTop (mkF m 12 #[.val (.ref t), .val (.int k), .val (.ref a), .val (.int (Int32.ofNat j))] [])) _
        refine XS.aloadN X.here hx rfl (hb hby d4_12) rfl rfl ?_
        show Steps p.tables e below (T.setTop (mkF m 13 #[.val (.ref t), .val (.int k), .val (.ref a), .val (.int (Int32.ofNat j))] [(.ref a)])) _
        refine XS.ifnullNo X.here hx rfl (hb hby d4_13) rfl ?_
        show Steps p.tables e below (T.setTop (mkF m 16 #[.val (.ref t), .val (.int k), .val (.ref a), .val (.int (Int32.ofNat j))] [])) _
        refine XS.aloadN X.here hx rfl (hb hby d4_16) rfl rfl ?_
        exact uK
      obtain ⟨T1, X1, e1, st1⟩ := getF X hx hZ hown (host := "") (Or.inl (hw _ (List.mem_of_getElem? (i := 49) rfl))) Via.refl eT F_nx (g := (mkF m 17 #[.val (.ref t), .val (.int k), .val (.ref a), .val (.int (Int32.ofNat j))] [(.ref a)])) rfl rfl (hb hby d4_17)
      refine own_st st1 ?_
      show OwnGo p e below s _ _ _ T1 (mkF m 20 #[.val (.ref t), .val (.int k), .val (.ref a), .val (.int (Int32.ofNat j))] [w])
      refine own_st (T' := T1) (g' := (mkF m 7 #[.val (.ref t), .val (.int k), .val w, .val (.int ((Int32.ofNat j) + (1 : Int32)))] [])) (fun uT uK => ?_) ?_
      · show Steps p.tables e below (T1.setTop (mkF m 20 #[.val (.ref t), .val (.int k), .val (.ref a), .val (.int (Int32.ofNat j))] [w])) _
        refine XS.astoreN X1.here hx rfl (hb hby d4_20) rfl (own_chain_ref hch') (l' := #[.val (.ref t), .val (.int k), .val w, .val (.int (Int32.ofNat j))]) (own_sto (own_chain_ref hch')) ?_
        show Steps p.tables e below (T1.setTop (mkF m 21 #[.val (.ref t), .val (.int k), .val w, .val (.int (Int32.ofNat j))] [])) _
        refine XS.iinc X1.here hx rfl (hb hby d4_21) rfl (l' := #[.val (.ref t), .val (.int k), .val w, .val (.int ((Int32.ofNat j) + (1 : Int32)))]) rfl ?_
        show Steps p.tables e below (T1.setTop (mkF m 24 #[.val (.ref t), .val (.int k), .val w, .val (.int ((Int32.ofNat j) + (1 : Int32)))] [])) _
        refine XS.goto X1.here hx rfl (pc0 := 24) (pc' := 7) rfl (hb hby d4_24) (by decide) (by decide) ?_
        exact uK
      have hd : 0 < d := (own_jlt hj).mp hc9
      obtain ⟨d', rfl⟩ : ∃ d', d = d' + 1 := ⟨d - 1, by omega⟩
      rw [own_j1 j]
      exact ih w d' (j + 1) T1 (by push_cast at hj ⊢; omega) hch' X1 e1 hres
    · refine own_st (T' := T) (g' := (mkF m 28 #[.val (.ref t), .val (.int k), .val (.ref a), .val (.int (Int32.ofNat j))] [(.ref a)])) (fun uT uK => ?_) ?_
      · show Steps p.tables e below (T.setTop (mkF m 9 #[.val (.ref t), .val (.int k), .val (.ref a), .val (.int (Int32.ofNat j))] [(.int k), (.int (Int32.ofNat j))])) _
        refine XS.icmpYes X.here hx rfl (pc0 := 9) (pc' := 27) rfl (hb hby d4_9) rfl (XT.ii_ge_t hc9) (by decide) (by decide) ?_
        show Steps p.tables e below (T.setTop (mkF m 27 #[.val (.ref t), .val (.int k), .val (.ref a), .val (.int (Int32.ofNat j))] [])) _
        refine XS.aloadN X.here hx rfl (hb hby d4_27) rfl rfl ?_
        exact uK
      exact own_ret (v := some (.ref a)) X hlk (fun h => by rw [hret] at h; cases h) (fun fs hr => retOut X hx hret rfl (Or.inr (Or.inr (Or.inr (Or.inr ⟨rfl, rfl, rfl⟩)))) (hb hby d4_28) hr) (by rw [eT]; exact ⟨by have hd : d = 0 := by { have := mt (own_jlt hj).mpr hc9; omega }; subst hd; exact congrArg some hres, N, rfl⟩) (by decide) (by decide)
theorem own_ef_rm4 (m : MethodId) (x0 : Addr) (x1 : Int32) : entryFrame m #[(.ref x0), (.int x1)] 4 = mkF m 0 #[.val (.ref x0), .val (.int x1), .unset, .unset] [] := by first | (simp [entryFrame, mkF, argsToLocals, Value.category]; done) | rfl
set_option maxRecDepth 65536 in
set_option maxHeartbeats 40000000 in
theorem rm4 (l : Launch) (Z : State) (a0 : Array Value) (hw : ∀ d ∈ tables_1, d.before a0 Z = true) (ws : List Jvm.Cond) (t : Addr) (k : Int32) (as : List Addr) (d : Nat) (u : Value) (res : Value) (h0 : Heap) (n0 : Nat) (Z0 : n0 ≤ h0.size) (F_firstGrant : Fld Z h0 t "com/example/liblockmode/liblockmode/core/TransactionLocks" "firstGrant" "Lcom/example/liblockmode/liblockmode/core/Grant;" u) (hch : own_chain Z h0 u as) (hd : k.toInt = (d : Int)) (hres : own_at as d = res) :
    MetFree l (⟨"com/example/liblockmode/liblockmode/core/TransactionLocks", "grantAfter", "(I)Lcom/example/liblockmode/liblockmode/core/Grant;"⟩ : MethodName) (head1 (Jvm.Cond.code (⟨"com/example/liblockmode/liblockmode/core/TransactionLocks", "grantAfter", "(I)Lcom/example/liblockmode/liblockmode/core/Grant;"⟩ : MethodName) prog_56_method_17_code 4 (some (.object "com/example/liblockmode/liblockmode/core/Grant")) :: ws) ({ frames := 0, cells := 0, slots := 0, locals := 0 } : Room)) (fun aQ UQ => aQ = #[(.ref t), (.int k)] ∧ Z.Warmed39 UQ.vm ∧ UQ.heap = h0) (fun _ _ _ _ _ => True) (fun _ UQ oQ UR => ∃ vQ LQ, oQ = .returned vQ ∧ Q4 Z t k as d u res h0 n0 vQ UR.heap LQ ∧ FrameEnd UQ oQ UR LQ ({ frames := 0, cells := 0, slots := 0, locals := 0 } : Room).cells ({ frames := 0, cells := 0, slots := 0, locals := 0 } : Room).slots) := by
  refine MetFree.of_bodySF (plainFor_of_name pn_4) hisR ?_
  intro p e s m args below meth c s₁ Bd hml0 hP hK
  obtain ⟨rfl, hZ, hh⟩ := hP
  have hx := Bd.exec
  have hby := Bd.bytes
  have hml : c.maxLocals = 4 := hml0
  have hown : s.vm.findClass "com/example/liblockmode/liblockmode/core/TransactionLocks" = some m.cls := findClass_of_methodNamed Bd.named
  have hnm := (name_of_methodNamed Bd.named Bd.method).1
  have hret := Bd.returns
  have hlk : meth.locks = false := Bd.notSynchronized
  have X0 : Stand p l e ({ frames := 0, cells := 0, slots := 0, locals := 0 } : Room) s m #[(.ref t), (.int k)] below meth c s₁ [] 0 0 := Stand.of_body Bd
  have e0 : s₁.heap = h0 := by rw [← hh, Bd.state]; rfl
  have N0 := Fr.nil n0
  have K : Ctx4 p s m meth c Z a0 := ⟨hx, hZ, hw, hby, hml, hown, hret, hlk, hnm⟩
  show OwnGo p e below s ({ frames := 0, cells := 0, slots := 0, locals := 0 } : Room).cells ({ frames := 0, cells := 0, slots := 0, locals := 0 } : Room).slots (Q4 Z t k as d u res h0 n0) s₁ (entryFrame m #[(.ref t), (.int k)] 4)
  refine own_cast (own_ef_rm4 m t k) ?_
  show OwnGo p e below s _ _ _ s₁ (mkF m 0 #[.val (.ref t), .val (.int k), .unset, .unset] [])
  refine own_st (T' := s₁) (g' := (mkF m 1 #[.val (.ref t), .val (.int k), .unset, .unset] [(.ref t)])) (fun uT uK => ?_) ?_
  · show Steps p.tables e below (s₁.setTop (mkF m 0 #[.val (.ref t), .val (.int k), .unset, .unset] [])) _
    refine XS.aloadN X0.here hx rfl (hb hby d4_0) rfl rfl ?_
    exact uK
  obtain ⟨T1, X1, e1, st1⟩ := getF X0 hx hZ hown (host := "") (Or.inl (hw _ (List.mem_of_getElem? (i := 36) rfl))) Via.refl e0 F_firstGrant (g := (mkF m 1 #[.val (.ref t), .val (.int k), .unset, .unset] [(.ref t)])) rfl rfl (hb hby d4_1)
  refine own_st st1 ?_
  show OwnGo p e below s _ _ _ T1 (mkF m 4 #[.val (.ref t), .val (.int k), .unset, .unset] [u])
  refine own_st (T' := T1) (g' := (mkF m 7 #[.val (.ref t), .val (.int k), .val u, .val (.int (0 : Int32))] [])) (fun uT uK => ?_) ?_
  · show Steps p.tables e below (T1.setTop (mkF m 4 #[.val (.ref t), .val (.int k), .unset, .unset] [u])) _
    refine XS.astoreN X1.here hx rfl (hb hby d4_4) rfl (own_chain_ref hch) (l' := #[.val (.ref t), .val (.int k), .val u, .unset]) (own_stou (own_chain_ref hch)) ?_
    show Steps p.tables e below (T1.setTop (mkF m 5 #[.val (.ref t), .val (.int k), .val u, .unset] [])) _
    refine XS.iconst X1.here hx rfl (hb hby d4_5) ?_
    show Steps p.tables e below (T1.setTop (mkF m 6 #[.val (.ref t), .val (.int k), .val u, .unset] [(.int (0 : Int32))])) _
    refine XS.istoreN X1.here hx rfl (hb hby d4_6) rfl (l' := #[.val (.ref t), .val (.int k), .val u, .val (.int (0 : Int32))]) rfl ?_
    exact uK
  exact own_loop4 t k as d u res K N0 as u d 0 T1 (by rw [hd]; simp) hch X1 e1 hres
def Q0 (Z : State) (p1 : Int32) (p2 : Int32) (p3 : Int32) (h0 : Heap) (n0 : Nat) (v : Option Value) (h : Heap) (L : List Loc) : Prop := v = some (.int 1) ∧ Fr n0 L
set_option maxRecDepth 65536 in
set_option maxHeartbeats 40000000 in
theorem own_t28 {p : Program} {l : Launch} {e : Env} {s : State} {m : MethodId} {args : Array Value} {below : List Frame} {meth : Method} {c : Code} {T : State} {locs : List Loc} {Z : State} {a0 : Array Value} {h : Heap} {n0 : Nat} (p1 p2 p3 n k : Int32) (h0 : Heap) (hn : n = 0 ∨ n = 1 ∨ n = 2 ∨ n = 3 ∨ n = 4) (hk : 0 ≤ k.toInt)
    (K : Ctx0 p s m meth c Z a0) (X : Stand p l e room_1 s m args below meth c T locs 0 0) (eT : T.heap = h) (N : Fr n0 locs) (Z0 : n0 ≤ h.size) :
    OwnGoW p e below s room_1.cells room_1.slots (Q0 Z p1 p2 p3 h0 n0) T (mkF m 28 #[.val (.int p1), .val (.int p2), .val (.int p3), .val (.int n), .val (.int k), .unset, .unset, .unset, .unset, .unset, .unset] []) := by
  obtain ⟨hx, hZ, hw, hby, hml, hown, hret, hlk, hnm⟩ := id K
  obtain ⟨T1, h1, X1, e1, E1, A1, D1, -, st1⟩ := newO X hx hZ hown (hw _ (List.mem_of_getElem? (i := 1) rfl)) (hw _ (List.mem_of_getElem? (i := 2) rfl)) (hw _ (List.mem_of_getElem? (i := 3) rfl)) eT (g := (mkF m 28 #[.val (.int p1), .val (.int p2), .val (.int p3), .val (.int n), .val (.int k), .unset, .unset, .unset, .unset, .unset, .unset] [])) rfl (hb hby at_28) (by decide) (by decide)
  obtain ⟨t, g1⟩ : ∃ z, z = h.size := ⟨_, rfl⟩
  rw [← g1] at A1 D1 st1
  have g_t : n0 ≤ t := Nat.le_trans Z0 (Nat.le_of_eq g1.symm)
  have Z1 : n0 ≤ h1.size := Nat.le_trans Z0 E1.1
  have F1_name : Fld Z h1 t "com/example/liblockmode/liblockmode/core/TransactionLocks" "name" "Ljava/lang/String;" .null := D1 (Or.inr (hw _ (List.mem_of_getElem? (i := 19) rfl))) (ty := (.object "java/lang/String")) (by decide)
  have F1_firstGrant : Fld Z h1 t "com/example/liblockmode/liblockmode/core/TransactionLocks" "firstGrant" "Lcom/example/liblockmode/liblockmode/core/Grant;" .null := D1 (Or.inl (hw _ (List.mem_of_getElem? (i := 37) rfl))) (ty := (.object "com/example/liblockmode/liblockmode/core/Grant")) (by decide)
  have F1_lastGrant : Fld Z h1 t "com/example/liblockmode/liblockmode/core/TransactionLocks" "lastGrant" "Lcom/example/liblockmode/liblockmode/core/Grant;" .null := D1 (Or.inl (hw _ (List.mem_of_getElem? (i := 44) rfl))) (ty := (.object "com/example/liblockmode/liblockmode/core/Grant")) (by decide)
  have F1_grantCount : Fld Z h1 t "com/example/liblockmode/liblockmode/core/TransactionLocks" "grantCount" "I" (.int (0 : Int32)) := D1 (Or.inl (hw _ (List.mem_of_getElem? (i := 46) rfl))) (ty := .int) (by decide)
  have F1_modesByObject : Fld Z h1 t "com/example/liblockmode/liblockmode/core/TransactionLocks" "modesByObject" "Ljava/util/Map;" .null := D1 (Or.inl (hw _ (List.mem_of_getElem? (i := 48) rfl))) (ty := (.object "java/util/Map")) (by decide)
  refine own_stW st1 ?_
  show OwnGoW p e below s _ _ _ T1 (mkF m 31 #[.val (.int p1), .val (.int p2), .val (.int p3), .val (.int n), .val (.int k), .unset, .unset, .unset, .unset, .unset, .unset] [(.ref t)])
  refine own_stW (T' := T1) (g' := (mkF m 32 #[.val (.int p1), .val (.int p2), .val (.int p3), .val (.int n), .val (.int k), .unset, .unset, .unset, .unset, .unset, .unset] [(.ref t), (.ref t)])) (fun uT uK => ?_) ?_
  · show Steps p.tables e below (T1.setTop (mkF m 31 #[.val (.int p1), .val (.int p2), .val (.int p3), .val (.int n), .val (.int k), .unset, .unset, .unset, .unset, .unset, .unset] [(.ref t)])) _
    refine XS.dup X1.here hx rfl (hb hby at_31) rfl rfl ?_
    exact uK
  obtain ⟨sa, T2, h2, k1, X2, e2, E2, hS, Zk2, hZ, hown, st2⟩ := ldcS (s := s) (vm0 := s.vm) X1 hx hZ hown (hw _ (List.mem_of_getElem? (i := 4) rfl)) (own_wS hw) e1 ((State.WarmedH.refl s).since 0) (Nat.zero_le _) (g := (mkF m 32 #[.val (.int p1), .val (.int p2), .val (.int p3), .val (.int n), .val (.int k), .unset, .unset, .unset, .unset, .unset, .unset] [(.ref t), (.ref t)])) rfl (hb hby at_32) (n := 4) (by first | decide | decide +kernel) (by decide) (by decide) (by decide)
  have K : Ctx0 p (s.setVm T2.vm) m meth c Z a0 := ⟨hx, hZ, hw, hby, hml, hown, hret, hlk, hnm⟩
  have Ex2_t := (A1).ext E2
  have Fx2_t_name := (F1_name).ext E2
  have Fx2_t_firstGrant := (F1_firstGrant).ext E2
  have Fx2_t_lastGrant := (F1_lastGrant).ext E2
  have Fx2_t_grantCount := (F1_grantCount).ext E2
  have Fx2_t_modesByObject := (F1_modesByObject).ext E2
  have Z2 : n0 ≤ h2.size := Nat.le_trans Z1 E2.1
  refine own_stW st2 ?_
  show OwnGoW p e below s _ _ _ T2 (mkF m 34 #[.val (.int p1), .val (.int p2), .val (.int p3), .val (.int n), .val (.int k), .unset, .unset, .unset, .unset, .unset, .unset] [(.ref sa), (.ref t), (.ref t)])
  obtain ⟨_, _, ⟨T3, L3, k3, n3⟩, -, X3, ⟨Lc3, hQ3, l3, y3, z3⟩, st3⟩ := X2.specialBack hx (y := (⟨"com/example/liblockmode/liblockmode/core/TransactionLocks", "<init>", "(Ljava/lang/String;)V"⟩ : MethodName)) rfl hown (mvT hZ (hw _ (List.mem_of_getElem? (i := 12) rfl))) (mvT hZ (hw _ (List.mem_of_getElem? (i := 13) rfl))) (mvT hZ (hw _ (List.mem_of_getElem? (i := 14) rfl))) (by decide) (backOf (W := 1) (rm1 l Z a0 hw [] t sa h2 n0 Z2 Ex2_t Fx2_t_name Fx2_t_firstGrant Fx2_t_lastGrant Fx2_t_grantCount Fx2_t_modesByObject g_t) hZ (hw _ (List.mem_of_getElem? (i := 14) rfl)) (hw _ (List.mem_of_getElem? (i := 3) rfl)) (by decide) (by decide)) (g := (mkF m 34 #[.val (.int p1), .val (.int p2), .val (.int p3), .val (.int n), .val (.int k), .unset, .unset, .unset, .unset, .unset, .unset] [(.ref sa), (.ref t), (.ref t)])) rfl (by rw [hml]; rfl) (Steps.refl _) (a := t) (argsL := [(.ref sa)]) (rest := [(.ref t)]) (lenOf own_pd0 rfl) rfl (by show 2 * 0 + _ ≤ _; exact Nat.le_of_eq rfl) (hb hby at_34) (fun _ _ => ⟨rfl, e2, (by decide : 3 + 0 ≤ _), (by decide : 18 + 0 ≤ _)⟩)
  dsimp only [Pt.U, Pt.locs, Pt.cells, Pt.slots] at X3 l3 y3 z3 st3 hQ3
  subst l3 y3 z3
  obtain ⟨rfl, Nq3, Kc3, Ec3, F_firstGrant3, F_lastGrant3, F_grantCount3, F_modesByObject3⟩ := hQ3
  have N3 := Fr.app N Nq3
  refine own_trW st3 ?_
  show OwnGoW p e below s _ _ _ T3 (mkF m 37 #[.val (.int p1), .val (.int p2), .val (.int p3), .val (.int n), .val (.int k), .unset, .unset, .unset, .unset, .unset, .unset] [(.ref t)])
  have Zk3 : k1 ≤ T3.heap.size := Nat.le_trans Zk2 Kc3.1
  have Z3 : n0 ≤ T3.heap.size := Nat.le_trans Z2 Kc3.1
  refine own_stW (T' := T3) (g' := (mkF m 39 #[.val (.int p1), .val (.int p2), .val (.int p3), .val (.int n), .val (.int k), .val (.ref t), .unset, .unset, .unset, .unset, .unset] [])) (fun uT uK => ?_) ?_
  · show Steps p.tables e below (T3.setTop (mkF m 37 #[.val (.int p1), .val (.int p2), .val (.int p3), .val (.int n), .val (.int k), .unset, .unset, .unset, .unset, .unset, .unset] [(.ref t)])) _
    refine XS.astore X3.here hx rfl (hb hby at_37) rfl rfl (l' := #[.val (.int p1), .val (.int p2), .val (.int p3), .val (.int n), .val (.int k), .val (.ref t), .unset, .unset, .unset, .unset, .unset]) rfl ?_
    exact uK
  obtain ⟨T4, h4, X4, e4, E4, A4, D4, -, st4⟩ := newO X3 hx hZ hown (hw _ (List.mem_of_getElem? (i := 20) rfl)) (hw _ (List.mem_of_getElem? (i := 21) rfl)) (hw _ (List.mem_of_getElem? (i := 22) rfl)) rfl (g := (mkF m 39 #[.val (.int p1), .val (.int p2), .val (.int p3), .val (.int n), .val (.int k), .val (.ref t), .unset, .unset, .unset, .unset, .unset] [])) rfl (hb hby at_39) (by decide) (by decide)
  obtain ⟨g0, g4⟩ : ∃ z, z = T3.heap.size := ⟨_, rfl⟩
  rw [← g4] at A4 D4 st4
  have g_g0 : n0 ≤ g0 := Nat.le_trans Z3 (Nat.le_of_eq g4.symm)
  have ne_t_g0 : t ≠ g0 := Nat.ne_of_lt (Nat.lt_of_lt_of_le (Ec3).lt (Nat.le_of_eq g4.symm))
  have Zk4 : k1 ≤ h4.size := Nat.le_trans Zk3 E4.1
  have Ex4_t := (Ec3).ext E4
  have Fx4_t_firstGrant := (F_firstGrant3).ext E4
  have Fx4_t_lastGrant := (F_lastGrant3).ext E4
  have Fx4_t_grantCount := (F_grantCount3).ext E4
  have Fx4_t_modesByObject := (F_modesByObject3).ext E4
  have Z4 : n0 ≤ h4.size := Nat.le_trans Z3 E4.1
  have F4_object : Fld Z h4 g0 "com/example/liblockmode/liblockmode/core/Grant" "object" "Lcom/example/liblockmode/liblockmode/core/LockedObject;" .null := D4 (Or.inr (hw _ (List.mem_of_getElem? (i := 28) rfl))) (ty := (.object "com/example/liblockmode/liblockmode/core/LockedObject")) (by decide)
  have F4_mode : Fld Z h4 g0 "com/example/liblockmode/liblockmode/core/Grant" "mode" "Lcom/example/liblockmode/liblockmode/model/LockMode;" .null := D4 (Or.inr (hw _ (List.mem_of_getElem? (i := 30) rfl))) (ty := (.object "com/example/liblockmode/liblockmode/model/LockMode")) (by decide)
  have F4_nextLogged : Fld Z h4 g0 "com/example/liblockmode/liblockmode/core/Grant" "nextLogged" "Lcom/example/liblockmode/liblockmode/core/Grant;" .null := D4 (Or.inl (hw _ (List.mem_of_getElem? (i := 50) rfl))) (ty := (.object "com/example/liblockmode/liblockmode/core/Grant")) (by decide)
  refine own_stW st4 ?_
  show OwnGoW p e below s _ _ _ T4 (mkF m 42 #[.val (.int p1), .val (.int p2), .val (.int p3), .val (.int n), .val (.int k), .val (.ref t), .unset, .unset, .unset, .unset, .unset] [(.ref g0)])
  refine own_stW (T' := T4) (g' := (mkF m 45 #[.val (.int p1), .val (.int p2), .val (.int p3), .val (.int n), .val (.int k), .val (.ref t), .unset, .unset, .unset, .unset, .unset] [.null, .null, (.ref g0), (.ref g0)])) (fun uT uK => ?_) ?_
  · show Steps p.tables e below (T4.setTop (mkF m 42 #[.val (.int p1), .val (.int p2), .val (.int p3), .val (.int n), .val (.int k), .val (.ref t), .unset, .unset, .unset, .unset, .unset] [(.ref g0)])) _
    refine XS.dup X4.here hx rfl (hb hby at_42) rfl rfl ?_
    show Steps p.tables e below (T4.setTop (mkF m 43 #[.val (.int p1), .val (.int p2), .val (.int p3), .val (.int n), .val (.int k), .val (.ref t), .unset, .unset, .unset, .unset, .unset] [(.ref g0), (.ref g0)])) _
    refine XS.aconstNull X4.here hx rfl (hb hby at_43) ?_
    show Steps p.tables e below (T4.setTop (mkF m 44 #[.val (.int p1), .val (.int p2), .val (.int p3), .val (.int n), .val (.int k), .val (.ref t), .unset, .unset, .unset, .unset, .unset] [.null, (.ref g0), (.ref g0)])) _
    refine XS.aconstNull X4.here hx rfl (hb hby at_44) ?_
    exact uK
  obtain ⟨_, _, ⟨T5, L5, k5, n5⟩, -, X5, ⟨Lc5, hQ5, l5, y5, z5⟩, st5⟩ := X4.specialBack hx (y := (⟨"com/example/liblockmode/liblockmode/core/Grant", "<init>", "(Lcom/example/liblockmode/liblockmode/core/LockedObject;Lcom/example/liblockmode/liblockmode/model/LockMode;)V"⟩ : MethodName)) rfl hown (mvT hZ (hw _ (List.mem_of_getElem? (i := 23) rfl))) (mvT hZ (hw _ (List.mem_of_getElem? (i := 24) rfl))) (mvT hZ (hw _ (List.mem_of_getElem? (i := 25) rfl))) (by decide) (backOf (W := 1) (rm3 l Z a0 hw [] g0 h4 n0 Z4 A4 F4_object F4_mode F4_nextLogged g_g0) hZ (hw _ (List.mem_of_getElem? (i := 25) rfl)) (hw _ (List.mem_of_getElem? (i := 22) rfl)) (by decide) (by decide)) (g := (mkF m 45 #[.val (.int p1), .val (.int p2), .val (.int p3), .val (.int n), .val (.int k), .val (.ref t), .unset, .unset, .unset, .unset, .unset] [.null, .null, (.ref g0), (.ref g0)])) rfl (by rw [hml]; rfl) (Steps.refl _) (a := g0) (argsL := [.null, .null]) (rest := [(.ref g0)]) (lenOf own_pd1 rfl) rfl (by show 2 * 0 + _ ≤ _; exact Nat.le_of_eq rfl) (hb hby at_45) (fun _ _ => ⟨rfl, e4, (by decide : 4 + 0 ≤ _), (by decide : 26 + 0 ≤ _)⟩)
  dsimp only [Pt.U, Pt.locs, Pt.cells, Pt.slots] at X5 l5 y5 z5 st5 hQ5
  subst l5 y5 z5
  obtain ⟨rfl, Nq5, Kc5, Ec5, Fn5⟩ := hQ5
  have N5 := Fr.app N3 Nq5
  refine own_trW st5 ?_
  show OwnGoW p e below s _ _ _ T5 (mkF m 48 #[.val (.int p1), .val (.int p2), .val (.int p3), .val (.int n), .val (.int k), .val (.ref t), .unset, .unset, .unset, .unset, .unset] [(.ref g0)])
  have Ek5_t := (Ex4_t).keep Kc5
  have Fk5_t_firstGrant := (Fx4_t_firstGrant).keep Kc5 (ninS ne_t_g0 nin0)
  have Fk5_t_lastGrant := (Fx4_t_lastGrant).keep Kc5 (ninS ne_t_g0 nin0)
  have Fk5_t_grantCount := (Fx4_t_grantCount).keep Kc5 (ninS ne_t_g0 nin0)
  have Fk5_t_modesByObject := (Fx4_t_modesByObject).keep Kc5 (ninS ne_t_g0 nin0)
  have Zk5 : k1 ≤ T5.heap.size := Nat.le_trans Zk4 Kc5.1
  have Z5 : n0 ≤ T5.heap.size := Nat.le_trans Z4 Kc5.1
  refine own_stW (T' := T5) (g' := (mkF m 50 #[.val (.int p1), .val (.int p2), .val (.int p3), .val (.int n), .val (.int k), .val (.ref t), .val (.ref g0), .unset, .unset, .unset, .unset] [])) (fun uT uK => ?_) ?_
  · show Steps p.tables e below (T5.setTop (mkF m 48 #[.val (.int p1), .val (.int p2), .val (.int p3), .val (.int n), .val (.int k), .val (.ref t), .unset, .unset, .unset, .unset, .unset] [(.ref g0)])) _
    refine XS.astore X5.here hx rfl (hb hby at_48) rfl rfl (l' := #[.val (.int p1), .val (.int p2), .val (.int p3), .val (.int n), .val (.int k), .val (.ref t), .val (.ref g0), .unset, .unset, .unset, .unset]) rfl ?_
    exact uK
  obtain ⟨T6, h6, X6, e6, E6, A6, D6, -, st6⟩ := newO X5 hx hZ hown (hw _ (List.mem_of_getElem? (i := 20) rfl)) (hw _ (List.mem_of_getElem? (i := 21) rfl)) (hw _ (List.mem_of_getElem? (i := 22) rfl)) rfl (g := (mkF m 50 #[.val (.int p1), .val (.int p2), .val (.int p3), .val (.int n), .val (.int k), .val (.ref t), .val (.ref g0), .unset, .unset, .unset, .unset] [])) rfl (hb hby at_50) (by decide) (by decide)
  obtain ⟨g1, g6⟩ : ∃ z, z = T5.heap.size := ⟨_, rfl⟩
  rw [← g6] at A6 D6 st6
  have g_g1 : n0 ≤ g1 := Nat.le_trans Z5 (Nat.le_of_eq g6.symm)
  have ne_t_g1 : t ≠ g1 := Nat.ne_of_lt (Nat.lt_of_lt_of_le (Ek5_t).lt (Nat.le_of_eq g6.symm))
  have ne_g0_g1 : g0 ≠ g1 := Nat.ne_of_lt (Nat.lt_of_lt_of_le (Ec5).lt (Nat.le_of_eq g6.symm))
  have Zk6 : k1 ≤ h6.size := Nat.le_trans Zk5 E6.1
  have Ex6_t := (Ek5_t).ext E6
  have Fx6_t_firstGrant := (Fk5_t_firstGrant).ext E6
  have Fx6_t_lastGrant := (Fk5_t_lastGrant).ext E6
  have Fx6_t_grantCount := (Fk5_t_grantCount).ext E6
  have Fx6_t_modesByObject := (Fk5_t_modesByObject).ext E6
  have Ex6_g0 := (Ec5).ext E6
  have Fx6_g0_nextLogged := (Fn5).ext E6
  have Z6 : n0 ≤ h6.size := Nat.le_trans Z5 E6.1
  have F6_object : Fld Z h6 g1 "com/example/liblockmode/liblockmode/core/Grant" "object" "Lcom/example/liblockmode/liblockmode/core/LockedObject;" .null := D6 (Or.inr (hw _ (List.mem_of_getElem? (i := 28) rfl))) (ty := (.object "com/example/liblockmode/liblockmode/core/LockedObject")) (by decide)
  have F6_mode : Fld Z h6 g1 "com/example/liblockmode/liblockmode/core/Grant" "mode" "Lcom/example/liblockmode/liblockmode/model/LockMode;" .null := D6 (Or.inr (hw _ (List.mem_of_getElem? (i := 30) rfl))) (ty := (.object "com/example/liblockmode/liblockmode/model/LockMode")) (by decide)
  have F6_nextLogged : Fld Z h6 g1 "com/example/liblockmode/liblockmode/core/Grant" "nextLogged" "Lcom/example/liblockmode/liblockmode/core/Grant;" .null := D6 (Or.inl (hw _ (List.mem_of_getElem? (i := 50) rfl))) (ty := (.object "com/example/liblockmode/liblockmode/core/Grant")) (by decide)
  refine own_stW st6 ?_
  show OwnGoW p e below s _ _ _ T6 (mkF m 53 #[.val (.int p1), .val (.int p2), .val (.int p3), .val (.int n), .val (.int k), .val (.ref t), .val (.ref g0), .unset, .unset, .unset, .unset] [(.ref g1)])
  refine own_stW (T' := T6) (g' := (mkF m 56 #[.val (.int p1), .val (.int p2), .val (.int p3), .val (.int n), .val (.int k), .val (.ref t), .val (.ref g0), .unset, .unset, .unset, .unset] [.null, .null, (.ref g1), (.ref g1)])) (fun uT uK => ?_) ?_
  · show Steps p.tables e below (T6.setTop (mkF m 53 #[.val (.int p1), .val (.int p2), .val (.int p3), .val (.int n), .val (.int k), .val (.ref t), .val (.ref g0), .unset, .unset, .unset, .unset] [(.ref g1)])) _
    refine XS.dup X6.here hx rfl (hb hby at_53) rfl rfl ?_
    show Steps p.tables e below (T6.setTop (mkF m 54 #[.val (.int p1), .val (.int p2), .val (.int p3), .val (.int n), .val (.int k), .val (.ref t), .val (.ref g0), .unset, .unset, .unset, .unset] [(.ref g1), (.ref g1)])) _
    refine XS.aconstNull X6.here hx rfl (hb hby at_54) ?_
    show Steps p.tables e below (T6.setTop (mkF m 55 #[.val (.int p1), .val (.int p2), .val (.int p3), .val (.int n), .val (.int k), .val (.ref t), .val (.ref g0), .unset, .unset, .unset, .unset] [.null, (.ref g1), (.ref g1)])) _
    refine XS.aconstNull X6.here hx rfl (hb hby at_55) ?_
    exact uK
  obtain ⟨_, _, ⟨T7, L7, k7, n7⟩, -, X7, ⟨Lc7, hQ7, l7, y7, z7⟩, st7⟩ := X6.specialBack hx (y := (⟨"com/example/liblockmode/liblockmode/core/Grant", "<init>", "(Lcom/example/liblockmode/liblockmode/core/LockedObject;Lcom/example/liblockmode/liblockmode/model/LockMode;)V"⟩ : MethodName)) rfl hown (mvT hZ (hw _ (List.mem_of_getElem? (i := 23) rfl))) (mvT hZ (hw _ (List.mem_of_getElem? (i := 24) rfl))) (mvT hZ (hw _ (List.mem_of_getElem? (i := 25) rfl))) (by decide) (backOf (W := 1) (rm3 l Z a0 hw [] g1 h6 n0 Z6 A6 F6_object F6_mode F6_nextLogged g_g1) hZ (hw _ (List.mem_of_getElem? (i := 25) rfl)) (hw _ (List.mem_of_getElem? (i := 22) rfl)) (by decide) (by decide)) (g := (mkF m 56 #[.val (.int p1), .val (.int p2), .val (.int p3), .val (.int n), .val (.int k), .val (.ref t), .val (.ref g0), .unset, .unset, .unset, .unset] [.null, .null, (.ref g1), (.ref g1)])) rfl (by rw [hml]; rfl) (Steps.refl _) (a := g1) (argsL := [.null, .null]) (rest := [(.ref g1)]) (lenOf own_pd1 rfl) rfl (by show 2 * 0 + _ ≤ _; exact Nat.le_of_eq rfl) (hb hby at_56) (fun _ _ => ⟨rfl, e6, (by decide : 5 + 0 ≤ _), (by decide : 34 + 0 ≤ _)⟩)
  dsimp only [Pt.U, Pt.locs, Pt.cells, Pt.slots] at X7 l7 y7 z7 st7 hQ7
  subst l7 y7 z7
  obtain ⟨rfl, Nq7, Kc7, Ec7, Fn7⟩ := hQ7
  have N7 := Fr.app N5 Nq7
  refine own_trW st7 ?_
  show OwnGoW p e below s _ _ _ T7 (mkF m 59 #[.val (.int p1), .val (.int p2), .val (.int p3), .val (.int n), .val (.int k), .val (.ref t), .val (.ref g0), .unset, .unset, .unset, .unset] [(.ref g1)])
  have Ek7_t := (Ex6_t).keep Kc7
  have Fk7_t_firstGrant := (Fx6_t_firstGrant).keep Kc7 (ninS ne_t_g1 nin0)
  have Fk7_t_lastGrant := (Fx6_t_lastGrant).keep Kc7 (ninS ne_t_g1 nin0)
  have Fk7_t_grantCount := (Fx6_t_grantCount).keep Kc7 (ninS ne_t_g1 nin0)
  have Fk7_t_modesByObject := (Fx6_t_modesByObject).keep Kc7 (ninS ne_t_g1 nin0)
  have Ek7_g0 := (Ex6_g0).keep Kc7
  have Fk7_g0_nextLogged := (Fx6_g0_nextLogged).keep Kc7 (ninS ne_g0_g1 nin0)
  have Zk7 : k1 ≤ T7.heap.size := Nat.le_trans Zk6 Kc7.1
  have Z7 : n0 ≤ T7.heap.size := Nat.le_trans Z6 Kc7.1
  refine own_stW (T' := T7) (g' := (mkF m 61 #[.val (.int p1), .val (.int p2), .val (.int p3), .val (.int n), .val (.int k), .val (.ref t), .val (.ref g0), .val (.ref g1), .unset, .unset, .unset] [])) (fun uT uK => ?_) ?_
  · show Steps p.tables e below (T7.setTop (mkF m 59 #[.val (.int p1), .val (.int p2), .val (.int p3), .val (.int n), .val (.int k), .val (.ref t), .val (.ref g0), .unset, .unset, .unset, .unset] [(.ref g1)])) _
    refine XS.astore X7.here hx rfl (hb hby at_59) rfl rfl (l' := #[.val (.int p1), .val (.int p2), .val (.int p3), .val (.int n), .val (.int k), .val (.ref t), .val (.ref g0), .val (.ref g1), .unset, .unset, .unset]) rfl ?_
    exact uK
  obtain ⟨T8, h8, X8, e8, E8, A8, D8, -, st8⟩ := newO X7 hx hZ hown (hw _ (List.mem_of_getElem? (i := 20) rfl)) (hw _ (List.mem_of_getElem? (i := 21) rfl)) (hw _ (List.mem_of_getElem? (i := 22) rfl)) rfl (g := (mkF m 61 #[.val (.int p1), .val (.int p2), .val (.int p3), .val (.int n), .val (.int k), .val (.ref t), .val (.ref g0), .val (.ref g1), .unset, .unset, .unset] [])) rfl (hb hby at_61) (by decide) (by decide)
  obtain ⟨g2, g8⟩ : ∃ z, z = T7.heap.size := ⟨_, rfl⟩
  rw [← g8] at A8 D8 st8
  have g_g2 : n0 ≤ g2 := Nat.le_trans Z7 (Nat.le_of_eq g8.symm)
  have ne_t_g2 : t ≠ g2 := Nat.ne_of_lt (Nat.lt_of_lt_of_le (Ek7_t).lt (Nat.le_of_eq g8.symm))
  have ne_g0_g2 : g0 ≠ g2 := Nat.ne_of_lt (Nat.lt_of_lt_of_le (Ek7_g0).lt (Nat.le_of_eq g8.symm))
  have ne_g1_g2 : g1 ≠ g2 := Nat.ne_of_lt (Nat.lt_of_lt_of_le (Ec7).lt (Nat.le_of_eq g8.symm))
  have Zk8 : k1 ≤ h8.size := Nat.le_trans Zk7 E8.1
  have Ex8_t := (Ek7_t).ext E8
  have Fx8_t_firstGrant := (Fk7_t_firstGrant).ext E8
  have Fx8_t_lastGrant := (Fk7_t_lastGrant).ext E8
  have Fx8_t_grantCount := (Fk7_t_grantCount).ext E8
  have Fx8_t_modesByObject := (Fk7_t_modesByObject).ext E8
  have Ex8_g0 := (Ek7_g0).ext E8
  have Fx8_g0_nextLogged := (Fk7_g0_nextLogged).ext E8
  have Ex8_g1 := (Ec7).ext E8
  have Fx8_g1_nextLogged := (Fn7).ext E8
  have Z8 : n0 ≤ h8.size := Nat.le_trans Z7 E8.1
  have F8_object : Fld Z h8 g2 "com/example/liblockmode/liblockmode/core/Grant" "object" "Lcom/example/liblockmode/liblockmode/core/LockedObject;" .null := D8 (Or.inr (hw _ (List.mem_of_getElem? (i := 28) rfl))) (ty := (.object "com/example/liblockmode/liblockmode/core/LockedObject")) (by decide)
  have F8_mode : Fld Z h8 g2 "com/example/liblockmode/liblockmode/core/Grant" "mode" "Lcom/example/liblockmode/liblockmode/model/LockMode;" .null := D8 (Or.inr (hw _ (List.mem_of_getElem? (i := 30) rfl))) (ty := (.object "com/example/liblockmode/liblockmode/model/LockMode")) (by decide)
  have F8_nextLogged : Fld Z h8 g2 "com/example/liblockmode/liblockmode/core/Grant" "nextLogged" "Lcom/example/liblockmode/liblockmode/core/Grant;" .null := D8 (Or.inl (hw _ (List.mem_of_getElem? (i := 50) rfl))) (ty := (.object "com/example/liblockmode/liblockmode/core/Grant")) (by decide)
  refine own_stW st8 ?_
  show OwnGoW p e below s _ _ _ T8 (mkF m 64 #[.val (.int p1), .val (.int p2), .val (.int p3), .val (.int n), .val (.int k), .val (.ref t), .val (.ref g0), .val (.ref g1), .unset, .unset, .unset] [(.ref g2)])
  refine own_stW (T' := T8) (g' := (mkF m 67 #[.val (.int p1), .val (.int p2), .val (.int p3), .val (.int n), .val (.int k), .val (.ref t), .val (.ref g0), .val (.ref g1), .unset, .unset, .unset] [.null, .null, (.ref g2), (.ref g2)])) (fun uT uK => ?_) ?_
  · show Steps p.tables e below (T8.setTop (mkF m 64 #[.val (.int p1), .val (.int p2), .val (.int p3), .val (.int n), .val (.int k), .val (.ref t), .val (.ref g0), .val (.ref g1), .unset, .unset, .unset] [(.ref g2)])) _
    refine XS.dup X8.here hx rfl (hb hby at_64) rfl rfl ?_
    show Steps p.tables e below (T8.setTop (mkF m 65 #[.val (.int p1), .val (.int p2), .val (.int p3), .val (.int n), .val (.int k), .val (.ref t), .val (.ref g0), .val (.ref g1), .unset, .unset, .unset] [(.ref g2), (.ref g2)])) _
    refine XS.aconstNull X8.here hx rfl (hb hby at_65) ?_
    show Steps p.tables e below (T8.setTop (mkF m 66 #[.val (.int p1), .val (.int p2), .val (.int p3), .val (.int n), .val (.int k), .val (.ref t), .val (.ref g0), .val (.ref g1), .unset, .unset, .unset] [.null, (.ref g2), (.ref g2)])) _
    refine XS.aconstNull X8.here hx rfl (hb hby at_66) ?_
    exact uK
  obtain ⟨_, _, ⟨T9, L9, k9, n9⟩, -, X9, ⟨Lc9, hQ9, l9, y9, z9⟩, st9⟩ := X8.specialBack hx (y := (⟨"com/example/liblockmode/liblockmode/core/Grant", "<init>", "(Lcom/example/liblockmode/liblockmode/core/LockedObject;Lcom/example/liblockmode/liblockmode/model/LockMode;)V"⟩ : MethodName)) rfl hown (mvT hZ (hw _ (List.mem_of_getElem? (i := 23) rfl))) (mvT hZ (hw _ (List.mem_of_getElem? (i := 24) rfl))) (mvT hZ (hw _ (List.mem_of_getElem? (i := 25) rfl))) (by decide) (backOf (W := 1) (rm3 l Z a0 hw [] g2 h8 n0 Z8 A8 F8_object F8_mode F8_nextLogged g_g2) hZ (hw _ (List.mem_of_getElem? (i := 25) rfl)) (hw _ (List.mem_of_getElem? (i := 22) rfl)) (by decide) (by decide)) (g := (mkF m 67 #[.val (.int p1), .val (.int p2), .val (.int p3), .val (.int n), .val (.int k), .val (.ref t), .val (.ref g0), .val (.ref g1), .unset, .unset, .unset] [.null, .null, (.ref g2), (.ref g2)])) rfl (by rw [hml]; rfl) (Steps.refl _) (a := g2) (argsL := [.null, .null]) (rest := [(.ref g2)]) (lenOf own_pd1 rfl) rfl (by show 2 * 0 + _ ≤ _; exact Nat.le_of_eq rfl) (hb hby at_67) (fun _ _ => ⟨rfl, e8, (by decide : 6 + 0 ≤ _), (by decide : 42 + 0 ≤ _)⟩)
  dsimp only [Pt.U, Pt.locs, Pt.cells, Pt.slots] at X9 l9 y9 z9 st9 hQ9
  subst l9 y9 z9
  obtain ⟨rfl, Nq9, Kc9, Ec9, Fn9⟩ := hQ9
  have N9 := Fr.app N7 Nq9
  refine own_trW st9 ?_
  show OwnGoW p e below s _ _ _ T9 (mkF m 70 #[.val (.int p1), .val (.int p2), .val (.int p3), .val (.int n), .val (.int k), .val (.ref t), .val (.ref g0), .val (.ref g1), .unset, .unset, .unset] [(.ref g2)])
  have Ek9_t := (Ex8_t).keep Kc9
  have Fk9_t_firstGrant := (Fx8_t_firstGrant).keep Kc9 (ninS ne_t_g2 nin0)
  have Fk9_t_lastGrant := (Fx8_t_lastGrant).keep Kc9 (ninS ne_t_g2 nin0)
  have Fk9_t_grantCount := (Fx8_t_grantCount).keep Kc9 (ninS ne_t_g2 nin0)
  have Fk9_t_modesByObject := (Fx8_t_modesByObject).keep Kc9 (ninS ne_t_g2 nin0)
  have Ek9_g0 := (Ex8_g0).keep Kc9
  have Fk9_g0_nextLogged := (Fx8_g0_nextLogged).keep Kc9 (ninS ne_g0_g2 nin0)
  have Ek9_g1 := (Ex8_g1).keep Kc9
  have Fk9_g1_nextLogged := (Fx8_g1_nextLogged).keep Kc9 (ninS ne_g1_g2 nin0)
  have Zk9 : k1 ≤ T9.heap.size := Nat.le_trans Zk8 Kc9.1
  have Z9 : n0 ≤ T9.heap.size := Nat.le_trans Z8 Kc9.1
  refine own_stW (T' := T9) (g' := (mkF m 72 #[.val (.int p1), .val (.int p2), .val (.int p3), .val (.int n), .val (.int k), .val (.ref t), .val (.ref g0), .val (.ref g1), .val (.ref g2), .unset, .unset] [])) (fun uT uK => ?_) ?_
  · show Steps p.tables e below (T9.setTop (mkF m 70 #[.val (.int p1), .val (.int p2), .val (.int p3), .val (.int n), .val (.int k), .val (.ref t), .val (.ref g0), .val (.ref g1), .unset, .unset, .unset] [(.ref g2)])) _
    refine XS.astore X9.here hx rfl (hb hby at_70) rfl rfl (l' := #[.val (.int p1), .val (.int p2), .val (.int p3), .val (.int n), .val (.int k), .val (.ref t), .val (.ref g0), .val (.ref g1), .val (.ref g2), .unset, .unset]) rfl ?_
    exact uK
  obtain ⟨T10, h10, X10, e10, E10, A10, D10, -, st10⟩ := newO X9 hx hZ hown (hw _ (List.mem_of_getElem? (i := 20) rfl)) (hw _ (List.mem_of_getElem? (i := 21) rfl)) (hw _ (List.mem_of_getElem? (i := 22) rfl)) rfl (g := (mkF m 72 #[.val (.int p1), .val (.int p2), .val (.int p3), .val (.int n), .val (.int k), .val (.ref t), .val (.ref g0), .val (.ref g1), .val (.ref g2), .unset, .unset] [])) rfl (hb hby at_72) (by decide) (by decide)
  obtain ⟨g3, g10⟩ : ∃ z, z = T9.heap.size := ⟨_, rfl⟩
  rw [← g10] at A10 D10 st10
  have g_g3 : n0 ≤ g3 := Nat.le_trans Z9 (Nat.le_of_eq g10.symm)
  have ne_t_g3 : t ≠ g3 := Nat.ne_of_lt (Nat.lt_of_lt_of_le (Ek9_t).lt (Nat.le_of_eq g10.symm))
  have ne_g0_g3 : g0 ≠ g3 := Nat.ne_of_lt (Nat.lt_of_lt_of_le (Ek9_g0).lt (Nat.le_of_eq g10.symm))
  have ne_g1_g3 : g1 ≠ g3 := Nat.ne_of_lt (Nat.lt_of_lt_of_le (Ek9_g1).lt (Nat.le_of_eq g10.symm))
  have ne_g2_g3 : g2 ≠ g3 := Nat.ne_of_lt (Nat.lt_of_lt_of_le (Ec9).lt (Nat.le_of_eq g10.symm))
  have Zk10 : k1 ≤ h10.size := Nat.le_trans Zk9 E10.1
  have Ex10_t := (Ek9_t).ext E10
  have Fx10_t_firstGrant := (Fk9_t_firstGrant).ext E10
  have Fx10_t_lastGrant := (Fk9_t_lastGrant).ext E10
  have Fx10_t_grantCount := (Fk9_t_grantCount).ext E10
  have Fx10_t_modesByObject := (Fk9_t_modesByObject).ext E10
  have Ex10_g0 := (Ek9_g0).ext E10
  have Fx10_g0_nextLogged := (Fk9_g0_nextLogged).ext E10
  have Ex10_g1 := (Ek9_g1).ext E10
  have Fx10_g1_nextLogged := (Fk9_g1_nextLogged).ext E10
  have Ex10_g2 := (Ec9).ext E10
  have Fx10_g2_nextLogged := (Fn9).ext E10
  have Z10 : n0 ≤ h10.size := Nat.le_trans Z9 E10.1
  have F10_object : Fld Z h10 g3 "com/example/liblockmode/liblockmode/core/Grant" "object" "Lcom/example/liblockmode/liblockmode/core/LockedObject;" .null := D10 (Or.inr (hw _ (List.mem_of_getElem? (i := 28) rfl))) (ty := (.object "com/example/liblockmode/liblockmode/core/LockedObject")) (by decide)
  have F10_mode : Fld Z h10 g3 "com/example/liblockmode/liblockmode/core/Grant" "mode" "Lcom/example/liblockmode/liblockmode/model/LockMode;" .null := D10 (Or.inr (hw _ (List.mem_of_getElem? (i := 30) rfl))) (ty := (.object "com/example/liblockmode/liblockmode/model/LockMode")) (by decide)
  have F10_nextLogged : Fld Z h10 g3 "com/example/liblockmode/liblockmode/core/Grant" "nextLogged" "Lcom/example/liblockmode/liblockmode/core/Grant;" .null := D10 (Or.inl (hw _ (List.mem_of_getElem? (i := 50) rfl))) (ty := (.object "com/example/liblockmode/liblockmode/core/Grant")) (by decide)
  refine own_stW st10 ?_
  show OwnGoW p e below s _ _ _ T10 (mkF m 75 #[.val (.int p1), .val (.int p2), .val (.int p3), .val (.int n), .val (.int k), .val (.ref t), .val (.ref g0), .val (.ref g1), .val (.ref g2), .unset, .unset] [(.ref g3)])
  refine own_stW (T' := T10) (g' := (mkF m 78 #[.val (.int p1), .val (.int p2), .val (.int p3), .val (.int n), .val (.int k), .val (.ref t), .val (.ref g0), .val (.ref g1), .val (.ref g2), .unset, .unset] [.null, .null, (.ref g3), (.ref g3)])) (fun uT uK => ?_) ?_
  · show Steps p.tables e below (T10.setTop (mkF m 75 #[.val (.int p1), .val (.int p2), .val (.int p3), .val (.int n), .val (.int k), .val (.ref t), .val (.ref g0), .val (.ref g1), .val (.ref g2), .unset, .unset] [(.ref g3)])) _
    refine XS.dup X10.here hx rfl (hb hby at_75) rfl rfl ?_
    show Steps p.tables e below (T10.setTop (mkF m 76 #[.val (.int p1), .val (.int p2), .val (.int p3), .val (.int n), .val (.int k), .val (.ref t), .val (.ref g0), .val (.ref g1), .val (.ref g2), .unset, .unset] [(.ref g3), (.ref g3)])) _
    refine XS.aconstNull X10.here hx rfl (hb hby at_76) ?_
    show Steps p.tables e below (T10.setTop (mkF m 77 #[.val (.int p1), .val (.int p2), .val (.int p3), .val (.int n), .val (.int k), .val (.ref t), .val (.ref g0), .val (.ref g1), .val (.ref g2), .unset, .unset] [.null, (.ref g3), (.ref g3)])) _
    refine XS.aconstNull X10.here hx rfl (hb hby at_77) ?_
    exact uK
  obtain ⟨_, _, ⟨T11, L11, k11, n11⟩, -, X11, ⟨Lc11, hQ11, l11, y11, z11⟩, st11⟩ := X10.specialBack hx (y := (⟨"com/example/liblockmode/liblockmode/core/Grant", "<init>", "(Lcom/example/liblockmode/liblockmode/core/LockedObject;Lcom/example/liblockmode/liblockmode/model/LockMode;)V"⟩ : MethodName)) rfl hown (mvT hZ (hw _ (List.mem_of_getElem? (i := 23) rfl))) (mvT hZ (hw _ (List.mem_of_getElem? (i := 24) rfl))) (mvT hZ (hw _ (List.mem_of_getElem? (i := 25) rfl))) (by decide) (backOf (W := 1) (rm3 l Z a0 hw [] g3 h10 n0 Z10 A10 F10_object F10_mode F10_nextLogged g_g3) hZ (hw _ (List.mem_of_getElem? (i := 25) rfl)) (hw _ (List.mem_of_getElem? (i := 22) rfl)) (by decide) (by decide)) (g := (mkF m 78 #[.val (.int p1), .val (.int p2), .val (.int p3), .val (.int n), .val (.int k), .val (.ref t), .val (.ref g0), .val (.ref g1), .val (.ref g2), .unset, .unset] [.null, .null, (.ref g3), (.ref g3)])) rfl (by rw [hml]; rfl) (Steps.refl _) (a := g3) (argsL := [.null, .null]) (rest := [(.ref g3)]) (lenOf own_pd1 rfl) rfl (by show 2 * 0 + _ ≤ _; exact Nat.le_of_eq rfl) (hb hby at_78) (fun _ _ => ⟨rfl, e10, (by decide : 7 + 0 ≤ _), (by decide : 50 + 0 ≤ _)⟩)
  dsimp only [Pt.U, Pt.locs, Pt.cells, Pt.slots] at X11 l11 y11 z11 st11 hQ11
  subst l11 y11 z11
  obtain ⟨rfl, Nq11, Kc11, Ec11, Fn11⟩ := hQ11
  have N11 := Fr.app N9 Nq11
  refine own_trW st11 ?_
  show OwnGoW p e below s _ _ _ T11 (mkF m 81 #[.val (.int p1), .val (.int p2), .val (.int p3), .val (.int n), .val (.int k), .val (.ref t), .val (.ref g0), .val (.ref g1), .val (.ref g2), .unset, .unset] [(.ref g3)])
  have Ek11_t := (Ex10_t).keep Kc11
  have Fk11_t_firstGrant := (Fx10_t_firstGrant).keep Kc11 (ninS ne_t_g3 nin0)
  have Fk11_t_lastGrant := (Fx10_t_lastGrant).keep Kc11 (ninS ne_t_g3 nin0)
  have Fk11_t_grantCount := (Fx10_t_grantCount).keep Kc11 (ninS ne_t_g3 nin0)
  have Fk11_t_modesByObject := (Fx10_t_modesByObject).keep Kc11 (ninS ne_t_g3 nin0)
  have Ek11_g0 := (Ex10_g0).keep Kc11
  have Fk11_g0_nextLogged := (Fx10_g0_nextLogged).keep Kc11 (ninS ne_g0_g3 nin0)
  have Ek11_g1 := (Ex10_g1).keep Kc11
  have Fk11_g1_nextLogged := (Fx10_g1_nextLogged).keep Kc11 (ninS ne_g1_g3 nin0)
  have Ek11_g2 := (Ex10_g2).keep Kc11
  have Fk11_g2_nextLogged := (Fx10_g2_nextLogged).keep Kc11 (ninS ne_g2_g3 nin0)
  have Zk11 : k1 ≤ T11.heap.size := Nat.le_trans Zk10 Kc11.1
  have Z11 : n0 ≤ T11.heap.size := Nat.le_trans Z10 Kc11.1
  refine own_stW (T' := T11) (g' := (mkF m 83 #[.val (.int p1), .val (.int p2), .val (.int p3), .val (.int n), .val (.int k), .val (.ref t), .val (.ref g0), .val (.ref g1), .val (.ref g2), .val (.ref g3), .unset] [])) (fun uT uK => ?_) ?_
  · show Steps p.tables e below (T11.setTop (mkF m 81 #[.val (.int p1), .val (.int p2), .val (.int p3), .val (.int n), .val (.int k), .val (.ref t), .val (.ref g0), .val (.ref g1), .val (.ref g2), .unset, .unset] [(.ref g3)])) _
    refine XS.astore X11.here hx rfl (hb hby at_81) rfl rfl (l' := #[.val (.int p1), .val (.int p2), .val (.int p3), .val (.int n), .val (.int k), .val (.ref t), .val (.ref g0), .val (.ref g1), .val (.ref g2), .val (.ref g3), .unset]) rfl ?_
    exact uK
  rcases hn with rfl | rfl | rfl | rfl | rfl
  · show OwnGoW p e below s _ _ _ T11 (mkF m 83 #[.val (.int p1), .val (.int p2), .val (.int p3), .val (.int (0 : Int32)), .val (.int k), .val (.ref t), .val (.ref g0), .val (.ref g1), .val (.ref g2), .val (.ref g3), .unset] [])
    refine own_stW (T' := T11) (g' := (mkF m 130 #[.val (.int p1), .val (.int p2), .val (.int p3), .val (.int (0 : Int32)), .val (.int k), .val (.ref t), .val (.ref g0), .val (.ref g1), .val (.ref g2), .val (.ref g3), .unset] [])) (fun uT uK => ?_) ?_
    · show Steps p.tables e below (T11.setTop (mkF m 83 #[.val (.int p1), .val (.int p2), .val (.int p3), .val (.int (0 : Int32)), .val (.int k), .val (.ref t), .val (.ref g0), .val (.ref g1), .val (.ref g2), .val (.ref g3), .unset] [])) _
      refine XS.iloadN X11.here hx rfl (hb hby at_83) rfl ?_
      show Steps p.tables e below (T11.setTop (mkF m 84 #[.val (.int p1), .val (.int p2), .val (.int p3), .val (.int (0 : Int32)), .val (.int k), .val (.ref t), .val (.ref g0), .val (.ref g1), .val (.ref g2), .val (.ref g3), .unset] [(.int (0 : Int32))])) _
      refine XS.ifYes X11.here hx rfl (pc0 := 84) (pc' := 94) rfl (hb hby at_84) rfl (XT.i0_le_t (by decide)) (by decide) (by decide) ?_
      show Steps p.tables e below (T11.setTop (mkF m 94 #[.val (.int p1), .val (.int p2), .val (.int p3), .val (.int (0 : Int32)), .val (.int k), .val (.ref t), .val (.ref g0), .val (.ref g1), .val (.ref g2), .val (.ref g3), .unset] [])) _
      refine XS.iloadN X11.here hx rfl (hb hby at_94) rfl ?_
      show Steps p.tables e below (T11.setTop (mkF m 95 #[.val (.int p1), .val (.int p2), .val (.int p3), .val (.int (0 : Int32)), .val (.int k), .val (.ref t), .val (.ref g0), .val (.ref g1), .val (.ref g2), .val (.ref g3), .unset] [(.int (0 : Int32))])) _
      refine XS.iconst X11.here hx rfl (hb hby at_95) ?_
      show Steps p.tables e below (T11.setTop (mkF m 96 #[.val (.int p1), .val (.int p2), .val (.int p3), .val (.int (0 : Int32)), .val (.int k), .val (.ref t), .val (.ref g0), .val (.ref g1), .val (.ref g2), .val (.ref g3), .unset] [(.int (1 : Int32)), (.int (0 : Int32))])) _
      refine XS.icmpYes X11.here hx rfl (pc0 := 96) (pc' := 106) rfl (hb hby at_96) rfl (XT.ii_le_t (by decide)) (by decide) (by decide) ?_
      show Steps p.tables e below (T11.setTop (mkF m 106 #[.val (.int p1), .val (.int p2), .val (.int p3), .val (.int (0 : Int32)), .val (.int k), .val (.ref t), .val (.ref g0), .val (.ref g1), .val (.ref g2), .val (.ref g3), .unset] [])) _
      refine XS.iloadN X11.here hx rfl (hb hby at_106) rfl ?_
      show Steps p.tables e below (T11.setTop (mkF m 107 #[.val (.int p1), .val (.int p2), .val (.int p3), .val (.int (0 : Int32)), .val (.int k), .val (.ref t), .val (.ref g0), .val (.ref g1), .val (.ref g2), .val (.ref g3), .unset] [(.int (0 : Int32))])) _
      refine XS.iconst X11.here hx rfl (hb hby at_107) ?_
      show Steps p.tables e below (T11.setTop (mkF m 108 #[.val (.int p1), .val (.int p2), .val (.int p3), .val (.int (0 : Int32)), .val (.int k), .val (.ref t), .val (.ref g0), .val (.ref g1), .val (.ref g2), .val (.ref g3), .unset] [(.int (2 : Int32)), (.int (0 : Int32))])) _
      refine XS.icmpYes X11.here hx rfl (pc0 := 108) (pc' := 118) rfl (hb hby at_108) rfl (XT.ii_le_t (by decide)) (by decide) (by decide) ?_
      show Steps p.tables e below (T11.setTop (mkF m 118 #[.val (.int p1), .val (.int p2), .val (.int p3), .val (.int (0 : Int32)), .val (.int k), .val (.ref t), .val (.ref g0), .val (.ref g1), .val (.ref g2), .val (.ref g3), .unset] [])) _
      refine XS.iloadN X11.here hx rfl (hb hby at_118) rfl ?_
      show Steps p.tables e below (T11.setTop (mkF m 119 #[.val (.int p1), .val (.int p2), .val (.int p3), .val (.int (0 : Int32)), .val (.int k), .val (.ref t), .val (.ref g0), .val (.ref g1), .val (.ref g2), .val (.ref g3), .unset] [(.int (0 : Int32))])) _
      refine XS.iconst X11.here hx rfl (hb hby at_119) ?_
      show Steps p.tables e below (T11.setTop (mkF m 120 #[.val (.int p1), .val (.int p2), .val (.int p3), .val (.int (0 : Int32)), .val (.int k), .val (.ref t), .val (.ref g0), .val (.ref g1), .val (.ref g2), .val (.ref g3), .unset] [(.int (3 : Int32)), (.int (0 : Int32))])) _
      refine XS.icmpYes X11.here hx rfl (pc0 := 120) (pc' := 130) rfl (hb hby at_120) rfl (XT.ii_le_t (by decide)) (by decide) (by decide) ?_
      exact uK
    rcases own_split hk with rfl | rfl | rfl | rfl | hge
    · show OwnGoW p e below s _ _ _ T11 (mkF m 130 #[.val (.int p1), .val (.int p2), .val (.int p3), .val (.int (0 : Int32)), .val (.int (0 : Int32)), .val (.ref t), .val (.ref g0), .val (.ref g1), .val (.ref g2), .val (.ref g3), .unset] [])
      refine own_stW (T' := T11) (g' := (mkF m 188 #[.val (.int p1), .val (.int p2), .val (.int p3), .val (.int (0 : Int32)), .val (.int (0 : Int32)), .val (.ref t), .val (.ref g0), .val (.ref g1), .val (.ref g2), .val (.ref g3), .val .null] [(.int (0 : Int32)), (.ref t)])) (fun uT uK => ?_) ?_
      · show Steps p.tables e below (T11.setTop (mkF m 130 #[.val (.int p1), .val (.int p2), .val (.int p3), .val (.int (0 : Int32)), .val (.int (0 : Int32)), .val (.ref t), .val (.ref g0), .val (.ref g1), .val (.ref g2), .val (.ref g3), .unset] [])) _
        refine XS.iload X11.here hx rfl (hb hby at_130) rfl ?_
        show Steps p.tables e below (T11.setTop (mkF m 132 #[.val (.int p1), .val (.int p2), .val (.int p3), .val (.int (0 : Int32)), .val (.int (0 : Int32)), .val (.ref t), .val (.ref g0), .val (.ref g1), .val (.ref g2), .val (.ref g3), .unset] [(.int (0 : Int32))])) _
        refine XS.iloadN X11.here hx rfl (hb hby at_132) rfl ?_
        show Steps p.tables e below (T11.setTop (mkF m 133 #[.val (.int p1), .val (.int p2), .val (.int p3), .val (.int (0 : Int32)), .val (.int (0 : Int32)), .val (.ref t), .val (.ref g0), .val (.ref g1), .val (.ref g2), .val (.ref g3), .unset] [(.int (0 : Int32)), (.int (0 : Int32))])) _
        refine XS.icmpNo X11.here hx rfl (hb hby at_133) rfl (XT.ii_lt_f (by decide)) ?_
        show Steps p.tables e below (T11.setTop (mkF m 136 #[.val (.int p1), .val (.int p2), .val (.int p3), .val (.int (0 : Int32)), .val (.int (0 : Int32)), .val (.ref t), .val (.ref g0), .val (.ref g1), .val (.ref g2), .val (.ref g3), .unset] [])) _
        refine XS.aconstNull X11.here hx rfl (hb hby at_136) ?_
        show Steps p.tables e below (T11.setTop (mkF m 137 #[.val (.int p1), .val (.int p2), .val (.int p3), .val (.int (0 : Int32)), .val (.int (0 : Int32)), .val (.ref t), .val (.ref g0), .val (.ref g1), .val (.ref g2), .val (.ref g3), .unset] [.null])) _
        refine XS.astore X11.here hx rfl (hb hby at_137) rfl rfl (l' := #[.val (.int p1), .val (.int p2), .val (.int p3), .val (.int (0 : Int32)), .val (.int (0 : Int32)), .val (.ref t), .val (.ref g0), .val (.ref g1), .val (.ref g2), .val (.ref g3), .val .null]) rfl ?_
        show Steps p.tables e below (T11.setTop (mkF m 139 #[.val (.int p1), .val (.int p2), .val (.int p3), .val (.int (0 : Int32)), .val (.int (0 : Int32)), .val (.ref t), .val (.ref g0), .val (.ref g1), .val (.ref g2), .val (.ref g3), .val .null] [])) _
        refine XS.goto X11.here hx rfl (pc0 := 139) (pc' := 184) rfl (hb hby at_139) (by decide) (by decide) ?_
        show Steps p.tables e below (T11.setTop (mkF m 184 #[.val (.int p1), .val (.int p2), .val (.int p3), .val (.int (0 : Int32)), .val (.int (0 : Int32)), .val (.ref t), .val (.ref g0), .val (.ref g1), .val (.ref g2), .val (.ref g3), .val .null] [])) _
        refine XS.aload X11.here hx rfl (hb hby at_184) rfl rfl ?_
        show Steps p.tables e below (T11.setTop (mkF m 186 #[.val (.int p1), .val (.int p2), .val (.int p3), .val (.int (0 : Int32)), .val (.int (0 : Int32)), .val (.ref t), .val (.ref g0), .val (.ref g1), .val (.ref g2), .val (.ref g3), .val .null] [(.ref t)])) _
        refine XS.iload X11.here hx rfl (hb hby at_186) rfl ?_
        exact uK
      obtain ⟨cq12, kq12, qa12, qb12, qc12⟩ := isOf hZ rfl (Ek11_t)
      obtain ⟨_, _, ⟨T12, L12, k12, n12⟩, -, X12, ⟨Lc12, hQ12, l12, y12, z12⟩, st12⟩ := X11.virtualBack hx (y := (⟨"com/example/liblockmode/liblockmode/core/TransactionLocks", "grantAfter", "(I)Lcom/example/liblockmode/liblockmode/core/Grant;"⟩ : MethodName)) (z := (⟨"com/example/liblockmode/liblockmode/core/TransactionLocks", "grantAfter", "(I)Lcom/example/liblockmode/liblockmode/core/Grant;"⟩ : MethodName)) hown (mvT hZ (hw _ (List.mem_of_getElem? (i := 31) rfl))) (mvT hZ (hw _ (List.mem_of_getElem? (i := 32) rfl))) (notFace_of_selects (args := #[]) (mvT hZ (hw _ (List.mem_of_getElem? (i := 34) rfl)))) (mvT hZ (hw _ (List.mem_of_getElem? (i := 34) rfl))) (mvT hZ (hw _ (List.mem_of_getElem? (i := 33) rfl))) (by decide) (backOf (W := 0) (rm4 l Z a0 hw [] t (0 : Int32) [] (0) .null .null T11.heap n0 Z11 Fk11_t_firstGrant rfl rfl rfl) hZ (hw _ (List.mem_of_getElem? (i := 35) rfl)) (hw _ (List.mem_of_getElem? (i := 3) rfl)) (by decide) (by decide)) qa12 qc12 (g := (mkF m 188 #[.val (.int p1), .val (.int p2), .val (.int p3), .val (.int (0 : Int32)), .val (.int (0 : Int32)), .val (.ref t), .val (.ref g0), .val (.ref g1), .val (.ref g2), .val (.ref g3), .val .null] [(.int (0 : Int32)), (.ref t)])) rfl (by rw [hml]; rfl) (Steps.refl _) (argsL := [(.int (0 : Int32))]) (rest := []) (lenOf own_pd2 rfl) rfl (by show 2 * 0 + _ ≤ _; exact Nat.le_of_eq rfl) (hb hby at_188) (fun _ _ => ⟨rfl, rfl, (by decide : 7 + 0 ≤ _), (by decide : 50 + 0 ≤ _)⟩)
      dsimp only [Pt.U, Pt.locs, Pt.cells, Pt.slots] at X12 l12 y12 z12 st12 hQ12
      subst l12 y12 z12
      obtain ⟨rfl, Nq12, e12⟩ := hQ12
      have N12 := Fr.app N11 Nq12
      refine own_trW st12 ?_
      show OwnGoW p e below s _ _ _ T12 (mkF m 191 #[.val (.int p1), .val (.int p2), .val (.int p3), .val (.int (0 : Int32)), .val (.int (0 : Int32)), .val (.ref t), .val (.ref g0), .val (.ref g1), .val (.ref g2), .val (.ref g3), .val .null] [.null])
      refine own_stW (T' := T12) (g' := (mkF m 201 #[.val (.int p1), .val (.int p2), .val (.int p3), .val (.int (0 : Int32)), .val (.int (0 : Int32)), .val (.ref t), .val (.ref g0), .val (.ref g1), .val (.ref g2), .val (.ref g3), .val .null] [(.int (1 : Int32))])) (fun uT uK => ?_) ?_
      · show Steps p.tables e below (T12.setTop (mkF m 191 #[.val (.int p1), .val (.int p2), .val (.int p3), .val (.int (0 : Int32)), .val (.int (0 : Int32)), .val (.ref t), .val (.ref g0), .val (.ref g1), .val (.ref g2), .val (.ref g3), .val .null] [.null])) _
        refine XS.aload X12.here hx rfl (hb hby at_191) rfl rfl ?_
        show Steps p.tables e below (T12.setTop (mkF m 193 #[.val (.int p1), .val (.int p2), .val (.int p3), .val (.int (0 : Int32)), .val (.int (0 : Int32)), .val (.ref t), .val (.ref g0), .val (.ref g1), .val (.ref g2), .val (.ref g3), .val .null] [.null, .null])) _
        refine Jvm.RoadKit.acmp (g := (mkF m 193 #[.val (.int p1), .val (.int p2), .val (.int p3), .val (.int (0 : Int32)), .val (.int (0 : Int32)), .val (.ref t), .val (.ref g0), .val (.ref g1), .val (.ref g2), .val (.ref g3), .val .null] [.null, .null])) X12 hx rfl rfl rfl (pc0 := 193) (pc' := 196) (same := true) rfl (hb hby at_193) rfl (decide_eq_true (rfl)) (by decide) (by decide) ?_
        show Steps p.tables e below (T12.setTop (mkF m 196 #[.val (.int p1), .val (.int p2), .val (.int p3), .val (.int (0 : Int32)), .val (.int (0 : Int32)), .val (.ref t), .val (.ref g0), .val (.ref g1), .val (.ref g2), .val (.ref g3), .val .null] [])) _
        refine XS.iconst X12.here hx rfl (hb hby at_196) ?_
        show Steps p.tables e below (T12.setTop (mkF m 197 #[.val (.int p1), .val (.int p2), .val (.int p3), .val (.int (0 : Int32)), .val (.int (0 : Int32)), .val (.ref t), .val (.ref g0), .val (.ref g1), .val (.ref g2), .val (.ref g3), .val .null] [(.int (1 : Int32))])) _
        refine XS.goto X12.here hx rfl (pc0 := 197) (pc' := 201) rfl (hb hby at_197) (by decide) (by decide) ?_
        exact uK
      exact own_retW (v := some (.int (1 : Int32))) X12 hS (by rw [e12]; exact Zk11) hlk (fun h => by rw [hret] at h; cases h) (fun fs hr => retOut X12 hx hret rfl (Or.inl ⟨rfl, by simp, _, rfl⟩) (hb hby at_201) hr) ⟨rfl, N12⟩ (by decide) (by decide)
    · show OwnGoW p e below s _ _ _ T11 (mkF m 130 #[.val (.int p1), .val (.int p2), .val (.int p3), .val (.int (0 : Int32)), .val (.int (1 : Int32)), .val (.ref t), .val (.ref g0), .val (.ref g1), .val (.ref g2), .val (.ref g3), .unset] [])
      refine own_stW (T' := T11) (g' := (mkF m 188 #[.val (.int p1), .val (.int p2), .val (.int p3), .val (.int (0 : Int32)), .val (.int (1 : Int32)), .val (.ref t), .val (.ref g0), .val (.ref g1), .val (.ref g2), .val (.ref g3), .val .null] [(.int (1 : Int32)), (.ref t)])) (fun uT uK => ?_) ?_
      · show Steps p.tables e below (T11.setTop (mkF m 130 #[.val (.int p1), .val (.int p2), .val (.int p3), .val (.int (0 : Int32)), .val (.int (1 : Int32)), .val (.ref t), .val (.ref g0), .val (.ref g1), .val (.ref g2), .val (.ref g3), .unset] [])) _
        refine XS.iload X11.here hx rfl (hb hby at_130) rfl ?_
        show Steps p.tables e below (T11.setTop (mkF m 132 #[.val (.int p1), .val (.int p2), .val (.int p3), .val (.int (0 : Int32)), .val (.int (1 : Int32)), .val (.ref t), .val (.ref g0), .val (.ref g1), .val (.ref g2), .val (.ref g3), .unset] [(.int (1 : Int32))])) _
        refine XS.iloadN X11.here hx rfl (hb hby at_132) rfl ?_
        show Steps p.tables e below (T11.setTop (mkF m 133 #[.val (.int p1), .val (.int p2), .val (.int p3), .val (.int (0 : Int32)), .val (.int (1 : Int32)), .val (.ref t), .val (.ref g0), .val (.ref g1), .val (.ref g2), .val (.ref g3), .unset] [(.int (0 : Int32)), (.int (1 : Int32))])) _
        refine XS.icmpNo X11.here hx rfl (hb hby at_133) rfl (XT.ii_lt_f (by decide)) ?_
        show Steps p.tables e below (T11.setTop (mkF m 136 #[.val (.int p1), .val (.int p2), .val (.int p3), .val (.int (0 : Int32)), .val (.int (1 : Int32)), .val (.ref t), .val (.ref g0), .val (.ref g1), .val (.ref g2), .val (.ref g3), .unset] [])) _
        refine XS.aconstNull X11.here hx rfl (hb hby at_136) ?_
        show Steps p.tables e below (T11.setTop (mkF m 137 #[.val (.int p1), .val (.int p2), .val (.int p3), .val (.int (0 : Int32)), .val (.int (1 : Int32)), .val (.ref t), .val (.ref g0), .val (.ref g1), .val (.ref g2), .val (.ref g3), .unset] [.null])) _
        refine XS.astore X11.here hx rfl (hb hby at_137) rfl rfl (l' := #[.val (.int p1), .val (.int p2), .val (.int p3), .val (.int (0 : Int32)), .val (.int (1 : Int32)), .val (.ref t), .val (.ref g0), .val (.ref g1), .val (.ref g2), .val (.ref g3), .val .null]) rfl ?_
        show Steps p.tables e below (T11.setTop (mkF m 139 #[.val (.int p1), .val (.int p2), .val (.int p3), .val (.int (0 : Int32)), .val (.int (1 : Int32)), .val (.ref t), .val (.ref g0), .val (.ref g1), .val (.ref g2), .val (.ref g3), .val .null] [])) _
        refine XS.goto X11.here hx rfl (pc0 := 139) (pc' := 184) rfl (hb hby at_139) (by decide) (by decide) ?_
        show Steps p.tables e below (T11.setTop (mkF m 184 #[.val (.int p1), .val (.int p2), .val (.int p3), .val (.int (0 : Int32)), .val (.int (1 : Int32)), .val (.ref t), .val (.ref g0), .val (.ref g1), .val (.ref g2), .val (.ref g3), .val .null] [])) _
        refine XS.aload X11.here hx rfl (hb hby at_184) rfl rfl ?_
        show Steps p.tables e below (T11.setTop (mkF m 186 #[.val (.int p1), .val (.int p2), .val (.int p3), .val (.int (0 : Int32)), .val (.int (1 : Int32)), .val (.ref t), .val (.ref g0), .val (.ref g1), .val (.ref g2), .val (.ref g3), .val .null] [(.ref t)])) _
        refine XS.iload X11.here hx rfl (hb hby at_186) rfl ?_
        exact uK
      obtain ⟨cq13, kq13, qa13, qb13, qc13⟩ := isOf hZ rfl (Ek11_t)
      obtain ⟨_, _, ⟨T13, L13, k13, n13⟩, -, X13, ⟨Lc13, hQ13, l13, y13, z13⟩, st13⟩ := X11.virtualBack hx (y := (⟨"com/example/liblockmode/liblockmode/core/TransactionLocks", "grantAfter", "(I)Lcom/example/liblockmode/liblockmode/core/Grant;"⟩ : MethodName)) (z := (⟨"com/example/liblockmode/liblockmode/core/TransactionLocks", "grantAfter", "(I)Lcom/example/liblockmode/liblockmode/core/Grant;"⟩ : MethodName)) hown (mvT hZ (hw _ (List.mem_of_getElem? (i := 31) rfl))) (mvT hZ (hw _ (List.mem_of_getElem? (i := 32) rfl))) (notFace_of_selects (args := #[]) (mvT hZ (hw _ (List.mem_of_getElem? (i := 34) rfl)))) (mvT hZ (hw _ (List.mem_of_getElem? (i := 34) rfl))) (mvT hZ (hw _ (List.mem_of_getElem? (i := 33) rfl))) (by decide) (backOf (W := 0) (rm4 l Z a0 hw [] t (1 : Int32) [] (1) .null .null T11.heap n0 Z11 Fk11_t_firstGrant rfl rfl rfl) hZ (hw _ (List.mem_of_getElem? (i := 35) rfl)) (hw _ (List.mem_of_getElem? (i := 3) rfl)) (by decide) (by decide)) qa13 qc13 (g := (mkF m 188 #[.val (.int p1), .val (.int p2), .val (.int p3), .val (.int (0 : Int32)), .val (.int (1 : Int32)), .val (.ref t), .val (.ref g0), .val (.ref g1), .val (.ref g2), .val (.ref g3), .val .null] [(.int (1 : Int32)), (.ref t)])) rfl (by rw [hml]; rfl) (Steps.refl _) (argsL := [(.int (1 : Int32))]) (rest := []) (lenOf own_pd2 rfl) rfl (by show 2 * 0 + _ ≤ _; exact Nat.le_of_eq rfl) (hb hby at_188) (fun _ _ => ⟨rfl, rfl, (by decide : 7 + 0 ≤ _), (by decide : 50 + 0 ≤ _)⟩)
      dsimp only [Pt.U, Pt.locs, Pt.cells, Pt.slots] at X13 l13 y13 z13 st13 hQ13
      subst l13 y13 z13
      obtain ⟨rfl, Nq13, e13⟩ := hQ13
      have N13 := Fr.app N11 Nq13
      refine own_trW st13 ?_
      show OwnGoW p e below s _ _ _ T13 (mkF m 191 #[.val (.int p1), .val (.int p2), .val (.int p3), .val (.int (0 : Int32)), .val (.int (1 : Int32)), .val (.ref t), .val (.ref g0), .val (.ref g1), .val (.ref g2), .val (.ref g3), .val .null] [.null])
      refine own_stW (T' := T13) (g' := (mkF m 201 #[.val (.int p1), .val (.int p2), .val (.int p3), .val (.int (0 : Int32)), .val (.int (1 : Int32)), .val (.ref t), .val (.ref g0), .val (.ref g1), .val (.ref g2), .val (.ref g3), .val .null] [(.int (1 : Int32))])) (fun uT uK => ?_) ?_
      · show Steps p.tables e below (T13.setTop (mkF m 191 #[.val (.int p1), .val (.int p2), .val (.int p3), .val (.int (0 : Int32)), .val (.int (1 : Int32)), .val (.ref t), .val (.ref g0), .val (.ref g1), .val (.ref g2), .val (.ref g3), .val .null] [.null])) _
        refine XS.aload X13.here hx rfl (hb hby at_191) rfl rfl ?_
        show Steps p.tables e below (T13.setTop (mkF m 193 #[.val (.int p1), .val (.int p2), .val (.int p3), .val (.int (0 : Int32)), .val (.int (1 : Int32)), .val (.ref t), .val (.ref g0), .val (.ref g1), .val (.ref g2), .val (.ref g3), .val .null] [.null, .null])) _
        refine Jvm.RoadKit.acmp (g := (mkF m 193 #[.val (.int p1), .val (.int p2), .val (.int p3), .val (.int (0 : Int32)), .val (.int (1 : Int32)), .val (.ref t), .val (.ref g0), .val (.ref g1), .val (.ref g2), .val (.ref g3), .val .null] [.null, .null])) X13 hx rfl rfl rfl (pc0 := 193) (pc' := 196) (same := true) rfl (hb hby at_193) rfl (decide_eq_true (rfl)) (by decide) (by decide) ?_
        show Steps p.tables e below (T13.setTop (mkF m 196 #[.val (.int p1), .val (.int p2), .val (.int p3), .val (.int (0 : Int32)), .val (.int (1 : Int32)), .val (.ref t), .val (.ref g0), .val (.ref g1), .val (.ref g2), .val (.ref g3), .val .null] [])) _
        refine XS.iconst X13.here hx rfl (hb hby at_196) ?_
        show Steps p.tables e below (T13.setTop (mkF m 197 #[.val (.int p1), .val (.int p2), .val (.int p3), .val (.int (0 : Int32)), .val (.int (1 : Int32)), .val (.ref t), .val (.ref g0), .val (.ref g1), .val (.ref g2), .val (.ref g3), .val .null] [(.int (1 : Int32))])) _
        refine XS.goto X13.here hx rfl (pc0 := 197) (pc' := 201) rfl (hb hby at_197) (by decide) (by decide) ?_
        exact uK
      exact own_retW (v := some (.int (1 : Int32))) X13 hS (by rw [e13]; exact Zk11) hlk (fun h => by rw [hret] at h; cases h) (fun fs hr => retOut X13 hx hret rfl (Or.inl ⟨rfl, by simp, _, rfl⟩) (hb hby at_201) hr) ⟨rfl, N13⟩ (by decide) (by decide)
    · show OwnGoW p e below s _ _ _ T11 (mkF m 130 #[.val (.int p1), .val (.int p2), .val (.int p3), .val (.int (0 : Int32)), .val (.int (2 : Int32)), .val (.ref t), .val (.ref g0), .val (.ref g1), .val (.ref g2), .val (.ref g3), .unset] [])
      refine own_stW (T' := T11) (g' := (mkF m 188 #[.val (.int p1), .val (.int p2), .val (.int p3), .val (.int (0 : Int32)), .val (.int (2 : Int32)), .val (.ref t), .val (.ref g0), .val (.ref g1), .val (.ref g2), .val (.ref g3), .val .null] [(.int (2 : Int32)), (.ref t)])) (fun uT uK => ?_) ?_
      · show Steps p.tables e below (T11.setTop (mkF m 130 #[.val (.int p1), .val (.int p2), .val (.int p3), .val (.int (0 : Int32)), .val (.int (2 : Int32)), .val (.ref t), .val (.ref g0), .val (.ref g1), .val (.ref g2), .val (.ref g3), .unset] [])) _
        refine XS.iload X11.here hx rfl (hb hby at_130) rfl ?_
        show Steps p.tables e below (T11.setTop (mkF m 132 #[.val (.int p1), .val (.int p2), .val (.int p3), .val (.int (0 : Int32)), .val (.int (2 : Int32)), .val (.ref t), .val (.ref g0), .val (.ref g1), .val (.ref g2), .val (.ref g3), .unset] [(.int (2 : Int32))])) _
        refine XS.iloadN X11.here hx rfl (hb hby at_132) rfl ?_
        show Steps p.tables e below (T11.setTop (mkF m 133 #[.val (.int p1), .val (.int p2), .val (.int p3), .val (.int (0 : Int32)), .val (.int (2 : Int32)), .val (.ref t), .val (.ref g0), .val (.ref g1), .val (.ref g2), .val (.ref g3), .unset] [(.int (0 : Int32)), (.int (2 : Int32))])) _
        refine XS.icmpNo X11.here hx rfl (hb hby at_133) rfl (XT.ii_lt_f (by decide)) ?_
        show Steps p.tables e below (T11.setTop (mkF m 136 #[.val (.int p1), .val (.int p2), .val (.int p3), .val (.int (0 : Int32)), .val (.int (2 : Int32)), .val (.ref t), .val (.ref g0), .val (.ref g1), .val (.ref g2), .val (.ref g3), .unset] [])) _
        refine XS.aconstNull X11.here hx rfl (hb hby at_136) ?_
        show Steps p.tables e below (T11.setTop (mkF m 137 #[.val (.int p1), .val (.int p2), .val (.int p3), .val (.int (0 : Int32)), .val (.int (2 : Int32)), .val (.ref t), .val (.ref g0), .val (.ref g1), .val (.ref g2), .val (.ref g3), .unset] [.null])) _
        refine XS.astore X11.here hx rfl (hb hby at_137) rfl rfl (l' := #[.val (.int p1), .val (.int p2), .val (.int p3), .val (.int (0 : Int32)), .val (.int (2 : Int32)), .val (.ref t), .val (.ref g0), .val (.ref g1), .val (.ref g2), .val (.ref g3), .val .null]) rfl ?_
        show Steps p.tables e below (T11.setTop (mkF m 139 #[.val (.int p1), .val (.int p2), .val (.int p3), .val (.int (0 : Int32)), .val (.int (2 : Int32)), .val (.ref t), .val (.ref g0), .val (.ref g1), .val (.ref g2), .val (.ref g3), .val .null] [])) _
        refine XS.goto X11.here hx rfl (pc0 := 139) (pc' := 184) rfl (hb hby at_139) (by decide) (by decide) ?_
        show Steps p.tables e below (T11.setTop (mkF m 184 #[.val (.int p1), .val (.int p2), .val (.int p3), .val (.int (0 : Int32)), .val (.int (2 : Int32)), .val (.ref t), .val (.ref g0), .val (.ref g1), .val (.ref g2), .val (.ref g3), .val .null] [])) _
        refine XS.aload X11.here hx rfl (hb hby at_184) rfl rfl ?_
        show Steps p.tables e below (T11.setTop (mkF m 186 #[.val (.int p1), .val (.int p2), .val (.int p3), .val (.int (0 : Int32)), .val (.int (2 : Int32)), .val (.ref t), .val (.ref g0), .val (.ref g1), .val (.ref g2), .val (.ref g3), .val .null] [(.ref t)])) _
        refine XS.iload X11.here hx rfl (hb hby at_186) rfl ?_
        exact uK
      obtain ⟨cq14, kq14, qa14, qb14, qc14⟩ := isOf hZ rfl (Ek11_t)
      obtain ⟨_, _, ⟨T14, L14, k14, n14⟩, -, X14, ⟨Lc14, hQ14, l14, y14, z14⟩, st14⟩ := X11.virtualBack hx (y := (⟨"com/example/liblockmode/liblockmode/core/TransactionLocks", "grantAfter", "(I)Lcom/example/liblockmode/liblockmode/core/Grant;"⟩ : MethodName)) (z := (⟨"com/example/liblockmode/liblockmode/core/TransactionLocks", "grantAfter", "(I)Lcom/example/liblockmode/liblockmode/core/Grant;"⟩ : MethodName)) hown (mvT hZ (hw _ (List.mem_of_getElem? (i := 31) rfl))) (mvT hZ (hw _ (List.mem_of_getElem? (i := 32) rfl))) (notFace_of_selects (args := #[]) (mvT hZ (hw _ (List.mem_of_getElem? (i := 34) rfl)))) (mvT hZ (hw _ (List.mem_of_getElem? (i := 34) rfl))) (mvT hZ (hw _ (List.mem_of_getElem? (i := 33) rfl))) (by decide) (backOf (W := 0) (rm4 l Z a0 hw [] t (2 : Int32) [] (2) .null .null T11.heap n0 Z11 Fk11_t_firstGrant rfl rfl rfl) hZ (hw _ (List.mem_of_getElem? (i := 35) rfl)) (hw _ (List.mem_of_getElem? (i := 3) rfl)) (by decide) (by decide)) qa14 qc14 (g := (mkF m 188 #[.val (.int p1), .val (.int p2), .val (.int p3), .val (.int (0 : Int32)), .val (.int (2 : Int32)), .val (.ref t), .val (.ref g0), .val (.ref g1), .val (.ref g2), .val (.ref g3), .val .null] [(.int (2 : Int32)), (.ref t)])) rfl (by rw [hml]; rfl) (Steps.refl _) (argsL := [(.int (2 : Int32))]) (rest := []) (lenOf own_pd2 rfl) rfl (by show 2 * 0 + _ ≤ _; exact Nat.le_of_eq rfl) (hb hby at_188) (fun _ _ => ⟨rfl, rfl, (by decide : 7 + 0 ≤ _), (by decide : 50 + 0 ≤ _)⟩)
      dsimp only [Pt.U, Pt.locs, Pt.cells, Pt.slots] at X14 l14 y14 z14 st14 hQ14
      subst l14 y14 z14
      obtain ⟨rfl, Nq14, e14⟩ := hQ14
      have N14 := Fr.app N11 Nq14
      refine own_trW st14 ?_
      show OwnGoW p e below s _ _ _ T14 (mkF m 191 #[.val (.int p1), .val (.int p2), .val (.int p3), .val (.int (0 : Int32)), .val (.int (2 : Int32)), .val (.ref t), .val (.ref g0), .val (.ref g1), .val (.ref g2), .val (.ref g3), .val .null] [.null])
      refine own_stW (T' := T14) (g' := (mkF m 201 #[.val (.int p1), .val (.int p2), .val (.int p3), .val (.int (0 : Int32)), .val (.int (2 : Int32)), .val (.ref t), .val (.ref g0), .val (.ref g1), .val (.ref g2), .val (.ref g3), .val .null] [(.int (1 : Int32))])) (fun uT uK => ?_) ?_
      · show Steps p.tables e below (T14.setTop (mkF m 191 #[.val (.int p1), .val (.int p2), .val (.int p3), .val (.int (0 : Int32)), .val (.int (2 : Int32)), .val (.ref t), .val (.ref g0), .val (.ref g1), .val (.ref g2), .val (.ref g3), .val .null] [.null])) _
        refine XS.aload X14.here hx rfl (hb hby at_191) rfl rfl ?_
        show Steps p.tables e below (T14.setTop (mkF m 193 #[.val (.int p1), .val (.int p2), .val (.int p3), .val (.int (0 : Int32)), .val (.int (2 : Int32)), .val (.ref t), .val (.ref g0), .val (.ref g1), .val (.ref g2), .val (.ref g3), .val .null] [.null, .null])) _
        refine Jvm.RoadKit.acmp (g := (mkF m 193 #[.val (.int p1), .val (.int p2), .val (.int p3), .val (.int (0 : Int32)), .val (.int (2 : Int32)), .val (.ref t), .val (.ref g0), .val (.ref g1), .val (.ref g2), .val (.ref g3), .val .null] [.null, .null])) X14 hx rfl rfl rfl (pc0 := 193) (pc' := 196) (same := true) rfl (hb hby at_193) rfl (decide_eq_true (rfl)) (by decide) (by decide) ?_
        show Steps p.tables e below (T14.setTop (mkF m 196 #[.val (.int p1), .val (.int p2), .val (.int p3), .val (.int (0 : Int32)), .val (.int (2 : Int32)), .val (.ref t), .val (.ref g0), .val (.ref g1), .val (.ref g2), .val (.ref g3), .val .null] [])) _
        refine XS.iconst X14.here hx rfl (hb hby at_196) ?_
        show Steps p.tables e below (T14.setTop (mkF m 197 #[.val (.int p1), .val (.int p2), .val (.int p3), .val (.int (0 : Int32)), .val (.int (2 : Int32)), .val (.ref t), .val (.ref g0), .val (.ref g1), .val (.ref g2), .val (.ref g3), .val .null] [(.int (1 : Int32))])) _
        refine XS.goto X14.here hx rfl (pc0 := 197) (pc' := 201) rfl (hb hby at_197) (by decide) (by decide) ?_
        exact uK
      exact own_retW (v := some (.int (1 : Int32))) X14 hS (by rw [e14]; exact Zk11) hlk (fun h => by rw [hret] at h; cases h) (fun fs hr => retOut X14 hx hret rfl (Or.inl ⟨rfl, by simp, _, rfl⟩) (hb hby at_201) hr) ⟨rfl, N14⟩ (by decide) (by decide)
    · show OwnGoW p e below s _ _ _ T11 (mkF m 130 #[.val (.int p1), .val (.int p2), .val (.int p3), .val (.int (0 : Int32)), .val (.int (3 : Int32)), .val (.ref t), .val (.ref g0), .val (.ref g1), .val (.ref g2), .val (.ref g3), .unset] [])
      refine own_stW (T' := T11) (g' := (mkF m 188 #[.val (.int p1), .val (.int p2), .val (.int p3), .val (.int (0 : Int32)), .val (.int (3 : Int32)), .val (.ref t), .val (.ref g0), .val (.ref g1), .val (.ref g2), .val (.ref g3), .val .null] [(.int (3 : Int32)), (.ref t)])) (fun uT uK => ?_) ?_
      · show Steps p.tables e below (T11.setTop (mkF m 130 #[.val (.int p1), .val (.int p2), .val (.int p3), .val (.int (0 : Int32)), .val (.int (3 : Int32)), .val (.ref t), .val (.ref g0), .val (.ref g1), .val (.ref g2), .val (.ref g3), .unset] [])) _
        refine XS.iload X11.here hx rfl (hb hby at_130) rfl ?_
        show Steps p.tables e below (T11.setTop (mkF m 132 #[.val (.int p1), .val (.int p2), .val (.int p3), .val (.int (0 : Int32)), .val (.int (3 : Int32)), .val (.ref t), .val (.ref g0), .val (.ref g1), .val (.ref g2), .val (.ref g3), .unset] [(.int (3 : Int32))])) _
        refine XS.iloadN X11.here hx rfl (hb hby at_132) rfl ?_
        show Steps p.tables e below (T11.setTop (mkF m 133 #[.val (.int p1), .val (.int p2), .val (.int p3), .val (.int (0 : Int32)), .val (.int (3 : Int32)), .val (.ref t), .val (.ref g0), .val (.ref g1), .val (.ref g2), .val (.ref g3), .unset] [(.int (0 : Int32)), (.int (3 : Int32))])) _
        refine XS.icmpNo X11.here hx rfl (hb hby at_133) rfl (XT.ii_lt_f (by decide)) ?_
        show Steps p.tables e below (T11.setTop (mkF m 136 #[.val (.int p1), .val (.int p2), .val (.int p3), .val (.int (0 : Int32)), .val (.int (3 : Int32)), .val (.ref t), .val (.ref g0), .val (.ref g1), .val (.ref g2), .val (.ref g3), .unset] [])) _
        refine XS.aconstNull X11.here hx rfl (hb hby at_136) ?_
        show Steps p.tables e below (T11.setTop (mkF m 137 #[.val (.int p1), .val (.int p2), .val (.int p3), .val (.int (0 : Int32)), .val (.int (3 : Int32)), .val (.ref t), .val (.ref g0), .val (.ref g1), .val (.ref g2), .val (.ref g3), .unset] [.null])) _
        refine XS.astore X11.here hx rfl (hb hby at_137) rfl rfl (l' := #[.val (.int p1), .val (.int p2), .val (.int p3), .val (.int (0 : Int32)), .val (.int (3 : Int32)), .val (.ref t), .val (.ref g0), .val (.ref g1), .val (.ref g2), .val (.ref g3), .val .null]) rfl ?_
        show Steps p.tables e below (T11.setTop (mkF m 139 #[.val (.int p1), .val (.int p2), .val (.int p3), .val (.int (0 : Int32)), .val (.int (3 : Int32)), .val (.ref t), .val (.ref g0), .val (.ref g1), .val (.ref g2), .val (.ref g3), .val .null] [])) _
        refine XS.goto X11.here hx rfl (pc0 := 139) (pc' := 184) rfl (hb hby at_139) (by decide) (by decide) ?_
        show Steps p.tables e below (T11.setTop (mkF m 184 #[.val (.int p1), .val (.int p2), .val (.int p3), .val (.int (0 : Int32)), .val (.int (3 : Int32)), .val (.ref t), .val (.ref g0), .val (.ref g1), .val (.ref g2), .val (.ref g3), .val .null] [])) _
        refine XS.aload X11.here hx rfl (hb hby at_184) rfl rfl ?_
        show Steps p.tables e below (T11.setTop (mkF m 186 #[.val (.int p1), .val (.int p2), .val (.int p3), .val (.int (0 : Int32)), .val (.int (3 : Int32)), .val (.ref t), .val (.ref g0), .val (.ref g1), .val (.ref g2), .val (.ref g3), .val .null] [(.ref t)])) _
        refine XS.iload X11.here hx rfl (hb hby at_186) rfl ?_
        exact uK
      obtain ⟨cq15, kq15, qa15, qb15, qc15⟩ := isOf hZ rfl (Ek11_t)
      obtain ⟨_, _, ⟨T15, L15, k15, n15⟩, -, X15, ⟨Lc15, hQ15, l15, y15, z15⟩, st15⟩ := X11.virtualBack hx (y := (⟨"com/example/liblockmode/liblockmode/core/TransactionLocks", "grantAfter", "(I)Lcom/example/liblockmode/liblockmode/core/Grant;"⟩ : MethodName)) (z := (⟨"com/example/liblockmode/liblockmode/core/TransactionLocks", "grantAfter", "(I)Lcom/example/liblockmode/liblockmode/core/Grant;"⟩ : MethodName)) hown (mvT hZ (hw _ (List.mem_of_getElem? (i := 31) rfl))) (mvT hZ (hw _ (List.mem_of_getElem? (i := 32) rfl))) (notFace_of_selects (args := #[]) (mvT hZ (hw _ (List.mem_of_getElem? (i := 34) rfl)))) (mvT hZ (hw _ (List.mem_of_getElem? (i := 34) rfl))) (mvT hZ (hw _ (List.mem_of_getElem? (i := 33) rfl))) (by decide) (backOf (W := 0) (rm4 l Z a0 hw [] t (3 : Int32) [] (3) .null .null T11.heap n0 Z11 Fk11_t_firstGrant rfl rfl rfl) hZ (hw _ (List.mem_of_getElem? (i := 35) rfl)) (hw _ (List.mem_of_getElem? (i := 3) rfl)) (by decide) (by decide)) qa15 qc15 (g := (mkF m 188 #[.val (.int p1), .val (.int p2), .val (.int p3), .val (.int (0 : Int32)), .val (.int (3 : Int32)), .val (.ref t), .val (.ref g0), .val (.ref g1), .val (.ref g2), .val (.ref g3), .val .null] [(.int (3 : Int32)), (.ref t)])) rfl (by rw [hml]; rfl) (Steps.refl _) (argsL := [(.int (3 : Int32))]) (rest := []) (lenOf own_pd2 rfl) rfl (by show 2 * 0 + _ ≤ _; exact Nat.le_of_eq rfl) (hb hby at_188) (fun _ _ => ⟨rfl, rfl, (by decide : 7 + 0 ≤ _), (by decide : 50 + 0 ≤ _)⟩)
      dsimp only [Pt.U, Pt.locs, Pt.cells, Pt.slots] at X15 l15 y15 z15 st15 hQ15
      subst l15 y15 z15
      obtain ⟨rfl, Nq15, e15⟩ := hQ15
      have N15 := Fr.app N11 Nq15
      refine own_trW st15 ?_
      show OwnGoW p e below s _ _ _ T15 (mkF m 191 #[.val (.int p1), .val (.int p2), .val (.int p3), .val (.int (0 : Int32)), .val (.int (3 : Int32)), .val (.ref t), .val (.ref g0), .val (.ref g1), .val (.ref g2), .val (.ref g3), .val .null] [.null])
      refine own_stW (T' := T15) (g' := (mkF m 201 #[.val (.int p1), .val (.int p2), .val (.int p3), .val (.int (0 : Int32)), .val (.int (3 : Int32)), .val (.ref t), .val (.ref g0), .val (.ref g1), .val (.ref g2), .val (.ref g3), .val .null] [(.int (1 : Int32))])) (fun uT uK => ?_) ?_
      · show Steps p.tables e below (T15.setTop (mkF m 191 #[.val (.int p1), .val (.int p2), .val (.int p3), .val (.int (0 : Int32)), .val (.int (3 : Int32)), .val (.ref t), .val (.ref g0), .val (.ref g1), .val (.ref g2), .val (.ref g3), .val .null] [.null])) _
        refine XS.aload X15.here hx rfl (hb hby at_191) rfl rfl ?_
        show Steps p.tables e below (T15.setTop (mkF m 193 #[.val (.int p1), .val (.int p2), .val (.int p3), .val (.int (0 : Int32)), .val (.int (3 : Int32)), .val (.ref t), .val (.ref g0), .val (.ref g1), .val (.ref g2), .val (.ref g3), .val .null] [.null, .null])) _
        refine Jvm.RoadKit.acmp (g := (mkF m 193 #[.val (.int p1), .val (.int p2), .val (.int p3), .val (.int (0 : Int32)), .val (.int (3 : Int32)), .val (.ref t), .val (.ref g0), .val (.ref g1), .val (.ref g2), .val (.ref g3), .val .null] [.null, .null])) X15 hx rfl rfl rfl (pc0 := 193) (pc' := 196) (same := true) rfl (hb hby at_193) rfl (decide_eq_true (rfl)) (by decide) (by decide) ?_
        show Steps p.tables e below (T15.setTop (mkF m 196 #[.val (.int p1), .val (.int p2), .val (.int p3), .val (.int (0 : Int32)), .val (.int (3 : Int32)), .val (.ref t), .val (.ref g0), .val (.ref g1), .val (.ref g2), .val (.ref g3), .val .null] [])) _
        refine XS.iconst X15.here hx rfl (hb hby at_196) ?_
        show Steps p.tables e below (T15.setTop (mkF m 197 #[.val (.int p1), .val (.int p2), .val (.int p3), .val (.int (0 : Int32)), .val (.int (3 : Int32)), .val (.ref t), .val (.ref g0), .val (.ref g1), .val (.ref g2), .val (.ref g3), .val .null] [(.int (1 : Int32))])) _
        refine XS.goto X15.here hx rfl (pc0 := 197) (pc' := 201) rfl (hb hby at_197) (by decide) (by decide) ?_
        exact uK
      exact own_retW (v := some (.int (1 : Int32))) X15 hS (by rw [e15]; exact Zk11) hlk (fun h => by rw [hret] at h; cases h) (fun fs hr => retOut X15 hx hret rfl (Or.inl ⟨rfl, by simp, _, rfl⟩) (hb hby at_201) hr) ⟨rfl, N15⟩ (by decide) (by decide)
    · show OwnGoW p e below s _ _ _ T11 (mkF m 130 #[.val (.int p1), .val (.int p2), .val (.int p3), .val (.int (0 : Int32)), .val (.int k), .val (.ref t), .val (.ref g0), .val (.ref g1), .val (.ref g2), .val (.ref g3), .unset] [])
      refine own_stW (T' := T11) (g' := (mkF m 188 #[.val (.int p1), .val (.int p2), .val (.int p3), .val (.int (0 : Int32)), .val (.int k), .val (.ref t), .val (.ref g0), .val (.ref g1), .val (.ref g2), .val (.ref g3), .val .null] [(.int k), (.ref t)])) (fun uT uK => ?_) ?_
      · show Steps p.tables e below (T11.setTop (mkF m 130 #[.val (.int p1), .val (.int p2), .val (.int p3), .val (.int (0 : Int32)), .val (.int k), .val (.ref t), .val (.ref g0), .val (.ref g1), .val (.ref g2), .val (.ref g3), .unset] [])) _
        refine XS.iload X11.here hx rfl (hb hby at_130) rfl ?_
        show Steps p.tables e below (T11.setTop (mkF m 132 #[.val (.int p1), .val (.int p2), .val (.int p3), .val (.int (0 : Int32)), .val (.int k), .val (.ref t), .val (.ref g0), .val (.ref g1), .val (.ref g2), .val (.ref g3), .unset] [(.int k)])) _
        refine XS.iloadN X11.here hx rfl (hb hby at_132) rfl ?_
        show Steps p.tables e below (T11.setTop (mkF m 133 #[.val (.int p1), .val (.int p2), .val (.int p3), .val (.int (0 : Int32)), .val (.int k), .val (.ref t), .val (.ref g0), .val (.ref g1), .val (.ref g2), .val (.ref g3), .unset] [(.int (0 : Int32)), (.int k)])) _
        refine XS.icmpNo X11.here hx rfl (hb hby at_133) rfl (XT.ii_lt_f (own_ge hge (by decide))) ?_
        show Steps p.tables e below (T11.setTop (mkF m 136 #[.val (.int p1), .val (.int p2), .val (.int p3), .val (.int (0 : Int32)), .val (.int k), .val (.ref t), .val (.ref g0), .val (.ref g1), .val (.ref g2), .val (.ref g3), .unset] [])) _
        refine XS.aconstNull X11.here hx rfl (hb hby at_136) ?_
        show Steps p.tables e below (T11.setTop (mkF m 137 #[.val (.int p1), .val (.int p2), .val (.int p3), .val (.int (0 : Int32)), .val (.int k), .val (.ref t), .val (.ref g0), .val (.ref g1), .val (.ref g2), .val (.ref g3), .unset] [.null])) _
        refine XS.astore X11.here hx rfl (hb hby at_137) rfl rfl (l' := #[.val (.int p1), .val (.int p2), .val (.int p3), .val (.int (0 : Int32)), .val (.int k), .val (.ref t), .val (.ref g0), .val (.ref g1), .val (.ref g2), .val (.ref g3), .val .null]) rfl ?_
        show Steps p.tables e below (T11.setTop (mkF m 139 #[.val (.int p1), .val (.int p2), .val (.int p3), .val (.int (0 : Int32)), .val (.int k), .val (.ref t), .val (.ref g0), .val (.ref g1), .val (.ref g2), .val (.ref g3), .val .null] [])) _
        refine XS.goto X11.here hx rfl (pc0 := 139) (pc' := 184) rfl (hb hby at_139) (by decide) (by decide) ?_
        show Steps p.tables e below (T11.setTop (mkF m 184 #[.val (.int p1), .val (.int p2), .val (.int p3), .val (.int (0 : Int32)), .val (.int k), .val (.ref t), .val (.ref g0), .val (.ref g1), .val (.ref g2), .val (.ref g3), .val .null] [])) _
        refine XS.aload X11.here hx rfl (hb hby at_184) rfl rfl ?_
        show Steps p.tables e below (T11.setTop (mkF m 186 #[.val (.int p1), .val (.int p2), .val (.int p3), .val (.int (0 : Int32)), .val (.int k), .val (.ref t), .val (.ref g0), .val (.ref g1), .val (.ref g2), .val (.ref g3), .val .null] [(.ref t)])) _
        refine XS.iload X11.here hx rfl (hb hby at_186) rfl ?_
        exact uK
      obtain ⟨cq16, kq16, qa16, qb16, qc16⟩ := isOf hZ rfl (Ek11_t)
      obtain ⟨_, _, ⟨T16, L16, k16, n16⟩, -, X16, ⟨Lc16, hQ16, l16, y16, z16⟩, st16⟩ := X11.virtualBack hx (y := (⟨"com/example/liblockmode/liblockmode/core/TransactionLocks", "grantAfter", "(I)Lcom/example/liblockmode/liblockmode/core/Grant;"⟩ : MethodName)) (z := (⟨"com/example/liblockmode/liblockmode/core/TransactionLocks", "grantAfter", "(I)Lcom/example/liblockmode/liblockmode/core/Grant;"⟩ : MethodName)) hown (mvT hZ (hw _ (List.mem_of_getElem? (i := 31) rfl))) (mvT hZ (hw _ (List.mem_of_getElem? (i := 32) rfl))) (notFace_of_selects (args := #[]) (mvT hZ (hw _ (List.mem_of_getElem? (i := 34) rfl)))) (mvT hZ (hw _ (List.mem_of_getElem? (i := 34) rfl))) (mvT hZ (hw _ (List.mem_of_getElem? (i := 33) rfl))) (by decide) (backOf (W := 0) (rm4 l Z a0 hw [] t k [] (k.toInt.toNat) .null .null T11.heap n0 Z11 Fk11_t_firstGrant rfl (by omega) (own_at_far _ _ (by show 0 ≤ _; omega))) hZ (hw _ (List.mem_of_getElem? (i := 35) rfl)) (hw _ (List.mem_of_getElem? (i := 3) rfl)) (by decide) (by decide)) qa16 qc16 (g := (mkF m 188 #[.val (.int p1), .val (.int p2), .val (.int p3), .val (.int (0 : Int32)), .val (.int k), .val (.ref t), .val (.ref g0), .val (.ref g1), .val (.ref g2), .val (.ref g3), .val .null] [(.int k), (.ref t)])) rfl (by rw [hml]; rfl) (Steps.refl _) (argsL := [(.int k)]) (rest := []) (lenOf own_pd2 rfl) rfl (by show 2 * 0 + _ ≤ _; exact Nat.le_of_eq rfl) (hb hby at_188) (fun _ _ => ⟨rfl, rfl, (by decide : 7 + 0 ≤ _), (by decide : 50 + 0 ≤ _)⟩)
      dsimp only [Pt.U, Pt.locs, Pt.cells, Pt.slots] at X16 l16 y16 z16 st16 hQ16
      subst l16 y16 z16
      obtain ⟨rfl, Nq16, e16⟩ := hQ16
      have N16 := Fr.app N11 Nq16
      refine own_trW st16 ?_
      show OwnGoW p e below s _ _ _ T16 (mkF m 191 #[.val (.int p1), .val (.int p2), .val (.int p3), .val (.int (0 : Int32)), .val (.int k), .val (.ref t), .val (.ref g0), .val (.ref g1), .val (.ref g2), .val (.ref g3), .val .null] [.null])
      refine own_stW (T' := T16) (g' := (mkF m 201 #[.val (.int p1), .val (.int p2), .val (.int p3), .val (.int (0 : Int32)), .val (.int k), .val (.ref t), .val (.ref g0), .val (.ref g1), .val (.ref g2), .val (.ref g3), .val .null] [(.int (1 : Int32))])) (fun uT uK => ?_) ?_
      · show Steps p.tables e below (T16.setTop (mkF m 191 #[.val (.int p1), .val (.int p2), .val (.int p3), .val (.int (0 : Int32)), .val (.int k), .val (.ref t), .val (.ref g0), .val (.ref g1), .val (.ref g2), .val (.ref g3), .val .null] [.null])) _
        refine XS.aload X16.here hx rfl (hb hby at_191) rfl rfl ?_
        show Steps p.tables e below (T16.setTop (mkF m 193 #[.val (.int p1), .val (.int p2), .val (.int p3), .val (.int (0 : Int32)), .val (.int k), .val (.ref t), .val (.ref g0), .val (.ref g1), .val (.ref g2), .val (.ref g3), .val .null] [.null, .null])) _
        refine Jvm.RoadKit.acmp (g := (mkF m 193 #[.val (.int p1), .val (.int p2), .val (.int p3), .val (.int (0 : Int32)), .val (.int k), .val (.ref t), .val (.ref g0), .val (.ref g1), .val (.ref g2), .val (.ref g3), .val .null] [.null, .null])) X16 hx rfl rfl rfl (pc0 := 193) (pc' := 196) (same := true) rfl (hb hby at_193) rfl (decide_eq_true (rfl)) (by decide) (by decide) ?_
        show Steps p.tables e below (T16.setTop (mkF m 196 #[.val (.int p1), .val (.int p2), .val (.int p3), .val (.int (0 : Int32)), .val (.int k), .val (.ref t), .val (.ref g0), .val (.ref g1), .val (.ref g2), .val (.ref g3), .val .null] [])) _
        refine XS.iconst X16.here hx rfl (hb hby at_196) ?_
        show Steps p.tables e below (T16.setTop (mkF m 197 #[.val (.int p1), .val (.int p2), .val (.int p3), .val (.int (0 : Int32)), .val (.int k), .val (.ref t), .val (.ref g0), .val (.ref g1), .val (.ref g2), .val (.ref g3), .val .null] [(.int (1 : Int32))])) _
        refine XS.goto X16.here hx rfl (pc0 := 197) (pc' := 201) rfl (hb hby at_197) (by decide) (by decide) ?_
        exact uK
      exact own_retW (v := some (.int (1 : Int32))) X16 hS (by rw [e16]; exact Zk11) hlk (fun h => by rw [hret] at h; cases h) (fun fs hr => retOut X16 hx hret rfl (Or.inl ⟨rfl, by simp, _, rfl⟩) (hb hby at_201) hr) ⟨rfl, N16⟩ (by decide) (by decide)
  · show OwnGoW p e below s _ _ _ T11 (mkF m 83 #[.val (.int p1), .val (.int p2), .val (.int p3), .val (.int (1 : Int32)), .val (.int k), .val (.ref t), .val (.ref g0), .val (.ref g1), .val (.ref g2), .val (.ref g3), .unset] [])
    refine own_stW (T' := T11) (g' := (mkF m 91 #[.val (.int p1), .val (.int p2), .val (.int p3), .val (.int (1 : Int32)), .val (.int k), .val (.ref t), .val (.ref g0), .val (.ref g1), .val (.ref g2), .val (.ref g3), .unset] [(.ref g0), (.ref t)])) (fun uT uK => ?_) ?_
    · show Steps p.tables e below (T11.setTop (mkF m 83 #[.val (.int p1), .val (.int p2), .val (.int p3), .val (.int (1 : Int32)), .val (.int k), .val (.ref t), .val (.ref g0), .val (.ref g1), .val (.ref g2), .val (.ref g3), .unset] [])) _
      refine XS.iloadN X11.here hx rfl (hb hby at_83) rfl ?_
      show Steps p.tables e below (T11.setTop (mkF m 84 #[.val (.int p1), .val (.int p2), .val (.int p3), .val (.int (1 : Int32)), .val (.int k), .val (.ref t), .val (.ref g0), .val (.ref g1), .val (.ref g2), .val (.ref g3), .unset] [(.int (1 : Int32))])) _
      refine XS.ifNo X11.here hx rfl (hb hby at_84) rfl (XT.i0_le_f (by decide)) ?_
      show Steps p.tables e below (T11.setTop (mkF m 87 #[.val (.int p1), .val (.int p2), .val (.int p3), .val (.int (1 : Int32)), .val (.int k), .val (.ref t), .val (.ref g0), .val (.ref g1), .val (.ref g2), .val (.ref g3), .unset] [])) _
      refine XS.aload X11.here hx rfl (hb hby at_87) rfl rfl ?_
      show Steps p.tables e below (T11.setTop (mkF m 89 #[.val (.int p1), .val (.int p2), .val (.int p3), .val (.int (1 : Int32)), .val (.int k), .val (.ref t), .val (.ref g0), .val (.ref g1), .val (.ref g2), .val (.ref g3), .unset] [(.ref t)])) _
      refine XS.aload X11.here hx rfl (hb hby at_89) rfl rfl ?_
      exact uK
    obtain ⟨cq17, kq17, qa17, qb17, qc17⟩ := isOf hZ rfl (Ek11_t)
    obtain ⟨_, _, ⟨T17, L17, k17, n17⟩, -, X17, ⟨Lc17, hQ17, l17, y17, z17⟩, st17⟩ := X11.virtualBack hx (y := (⟨"com/example/liblockmode/liblockmode/core/TransactionLocks", "log", "(Lcom/example/liblockmode/liblockmode/core/Grant;)V"⟩ : MethodName)) (z := (⟨"com/example/liblockmode/liblockmode/core/TransactionLocks", "log", "(Lcom/example/liblockmode/liblockmode/core/Grant;)V"⟩ : MethodName)) hown (mvT hZ (hw _ (List.mem_of_getElem? (i := 38) rfl))) (mvT hZ (hw _ (List.mem_of_getElem? (i := 39) rfl))) (notFace_of_selects (args := #[]) (mvT hZ (hw _ (List.mem_of_getElem? (i := 41) rfl)))) (mvT hZ (hw _ (List.mem_of_getElem? (i := 41) rfl))) (mvT hZ (hw _ (List.mem_of_getElem? (i := 40) rfl))) (by decide) (backOf (W := 0) (rm5a l Z a0 hw [] t g0 (0 : Int32) T11.heap n0 Z11 Ek11_t Fk11_t_firstGrant Fk11_t_lastGrant Fk11_t_grantCount Fk11_t_modesByObject g_t (by decide)) hZ (hw _ (List.mem_of_getElem? (i := 42) rfl)) (hw _ (List.mem_of_getElem? (i := 3) rfl)) (by decide) (by decide)) qa17 qc17 (g := (mkF m 91 #[.val (.int p1), .val (.int p2), .val (.int p3), .val (.int (1 : Int32)), .val (.int k), .val (.ref t), .val (.ref g0), .val (.ref g1), .val (.ref g2), .val (.ref g3), .unset] [(.ref g0), (.ref t)])) rfl (by rw [hml]; rfl) (Steps.refl _) (argsL := [(.ref g0)]) (rest := []) (lenOf own_pd3 rfl) rfl (by show 2 * 0 + _ ≤ _; exact Nat.le_of_eq rfl) (hb hby at_91) (fun _ _ => ⟨rfl, rfl, (by decide : 7 + 0 ≤ _), (by decide : 50 + 0 ≤ _)⟩)
    dsimp only [Pt.U, Pt.locs, Pt.cells, Pt.slots] at X17 l17 y17 z17 st17 hQ17
    subst l17 y17 z17
    obtain ⟨rfl, Nq17, Kc17, Ec17, F_firstGrant17, F_lastGrant17, F_grantCount17, F_modesByObject17⟩ := hQ17
    have N17 := Fr.app N11 Nq17
    refine own_trW st17 ?_
    show OwnGoW p e below s _ _ _ T17 (mkF m 94 #[.val (.int p1), .val (.int p2), .val (.int p3), .val (.int (1 : Int32)), .val (.int k), .val (.ref t), .val (.ref g0), .val (.ref g1), .val (.ref g2), .val (.ref g3), .unset] [])
    have Ek17_g0 := (Ek11_g0).keep Kc17
    have Fk17_g0_nextLogged := (Fk11_g0_nextLogged).keep Kc17 (ninS (Ne.symm ne_t_g0) nin0)
    have Ek17_g1 := (Ek11_g1).keep Kc17
    have Fk17_g1_nextLogged := (Fk11_g1_nextLogged).keep Kc17 (ninS (Ne.symm ne_t_g1) nin0)
    have Ek17_g2 := (Ek11_g2).keep Kc17
    have Fk17_g2_nextLogged := (Fk11_g2_nextLogged).keep Kc17 (ninS (Ne.symm ne_t_g2) nin0)
    have Ek17_g3 := (Ec11).keep Kc17
    have Fk17_g3_nextLogged := (Fn11).keep Kc17 (ninS (Ne.symm ne_t_g3) nin0)
    have Zk17 : k1 ≤ T17.heap.size := Nat.le_trans Zk11 Kc17.1
    have Z17 : n0 ≤ T17.heap.size := Nat.le_trans Z11 Kc17.1
    refine own_stW (T' := T17) (g' := (mkF m 130 #[.val (.int p1), .val (.int p2), .val (.int p3), .val (.int (1 : Int32)), .val (.int k), .val (.ref t), .val (.ref g0), .val (.ref g1), .val (.ref g2), .val (.ref g3), .unset] [])) (fun uT uK => ?_) ?_
    · show Steps p.tables e below (T17.setTop (mkF m 94 #[.val (.int p1), .val (.int p2), .val (.int p3), .val (.int (1 : Int32)), .val (.int k), .val (.ref t), .val (.ref g0), .val (.ref g1), .val (.ref g2), .val (.ref g3), .unset] [])) _
      refine XS.iloadN X17.here hx rfl (hb hby at_94) rfl ?_
      show Steps p.tables e below (T17.setTop (mkF m 95 #[.val (.int p1), .val (.int p2), .val (.int p3), .val (.int (1 : Int32)), .val (.int k), .val (.ref t), .val (.ref g0), .val (.ref g1), .val (.ref g2), .val (.ref g3), .unset] [(.int (1 : Int32))])) _
      refine XS.iconst X17.here hx rfl (hb hby at_95) ?_
      show Steps p.tables e below (T17.setTop (mkF m 96 #[.val (.int p1), .val (.int p2), .val (.int p3), .val (.int (1 : Int32)), .val (.int k), .val (.ref t), .val (.ref g0), .val (.ref g1), .val (.ref g2), .val (.ref g3), .unset] [(.int (1 : Int32)), (.int (1 : Int32))])) _
      refine XS.icmpYes X17.here hx rfl (pc0 := 96) (pc' := 106) rfl (hb hby at_96) rfl (XT.ii_le_t (by decide)) (by decide) (by decide) ?_
      show Steps p.tables e below (T17.setTop (mkF m 106 #[.val (.int p1), .val (.int p2), .val (.int p3), .val (.int (1 : Int32)), .val (.int k), .val (.ref t), .val (.ref g0), .val (.ref g1), .val (.ref g2), .val (.ref g3), .unset] [])) _
      refine XS.iloadN X17.here hx rfl (hb hby at_106) rfl ?_
      show Steps p.tables e below (T17.setTop (mkF m 107 #[.val (.int p1), .val (.int p2), .val (.int p3), .val (.int (1 : Int32)), .val (.int k), .val (.ref t), .val (.ref g0), .val (.ref g1), .val (.ref g2), .val (.ref g3), .unset] [(.int (1 : Int32))])) _
      refine XS.iconst X17.here hx rfl (hb hby at_107) ?_
      show Steps p.tables e below (T17.setTop (mkF m 108 #[.val (.int p1), .val (.int p2), .val (.int p3), .val (.int (1 : Int32)), .val (.int k), .val (.ref t), .val (.ref g0), .val (.ref g1), .val (.ref g2), .val (.ref g3), .unset] [(.int (2 : Int32)), (.int (1 : Int32))])) _
      refine XS.icmpYes X17.here hx rfl (pc0 := 108) (pc' := 118) rfl (hb hby at_108) rfl (XT.ii_le_t (by decide)) (by decide) (by decide) ?_
      show Steps p.tables e below (T17.setTop (mkF m 118 #[.val (.int p1), .val (.int p2), .val (.int p3), .val (.int (1 : Int32)), .val (.int k), .val (.ref t), .val (.ref g0), .val (.ref g1), .val (.ref g2), .val (.ref g3), .unset] [])) _
      refine XS.iloadN X17.here hx rfl (hb hby at_118) rfl ?_
      show Steps p.tables e below (T17.setTop (mkF m 119 #[.val (.int p1), .val (.int p2), .val (.int p3), .val (.int (1 : Int32)), .val (.int k), .val (.ref t), .val (.ref g0), .val (.ref g1), .val (.ref g2), .val (.ref g3), .unset] [(.int (1 : Int32))])) _
      refine XS.iconst X17.here hx rfl (hb hby at_119) ?_
      show Steps p.tables e below (T17.setTop (mkF m 120 #[.val (.int p1), .val (.int p2), .val (.int p3), .val (.int (1 : Int32)), .val (.int k), .val (.ref t), .val (.ref g0), .val (.ref g1), .val (.ref g2), .val (.ref g3), .unset] [(.int (3 : Int32)), (.int (1 : Int32))])) _
      refine XS.icmpYes X17.here hx rfl (pc0 := 120) (pc' := 130) rfl (hb hby at_120) rfl (XT.ii_le_t (by decide)) (by decide) (by decide) ?_
      exact uK
    rcases own_split hk with rfl | rfl | rfl | rfl | hge
    · show OwnGoW p e below s _ _ _ T17 (mkF m 130 #[.val (.int p1), .val (.int p2), .val (.int p3), .val (.int (1 : Int32)), .val (.int (0 : Int32)), .val (.ref t), .val (.ref g0), .val (.ref g1), .val (.ref g2), .val (.ref g3), .unset] [])
      refine own_stW (T' := T17) (g' := (mkF m 188 #[.val (.int p1), .val (.int p2), .val (.int p3), .val (.int (1 : Int32)), .val (.int (0 : Int32)), .val (.ref t), .val (.ref g0), .val (.ref g1), .val (.ref g2), .val (.ref g3), .val (.ref g0)] [(.int (0 : Int32)), (.ref t)])) (fun uT uK => ?_) ?_
      · show Steps p.tables e below (T17.setTop (mkF m 130 #[.val (.int p1), .val (.int p2), .val (.int p3), .val (.int (1 : Int32)), .val (.int (0 : Int32)), .val (.ref t), .val (.ref g0), .val (.ref g1), .val (.ref g2), .val (.ref g3), .unset] [])) _
        refine XS.iload X17.here hx rfl (hb hby at_130) rfl ?_
        show Steps p.tables e below (T17.setTop (mkF m 132 #[.val (.int p1), .val (.int p2), .val (.int p3), .val (.int (1 : Int32)), .val (.int (0 : Int32)), .val (.ref t), .val (.ref g0), .val (.ref g1), .val (.ref g2), .val (.ref g3), .unset] [(.int (0 : Int32))])) _
        refine XS.iloadN X17.here hx rfl (hb hby at_132) rfl ?_
        show Steps p.tables e below (T17.setTop (mkF m 133 #[.val (.int p1), .val (.int p2), .val (.int p3), .val (.int (1 : Int32)), .val (.int (0 : Int32)), .val (.ref t), .val (.ref g0), .val (.ref g1), .val (.ref g2), .val (.ref g3), .unset] [(.int (1 : Int32)), (.int (0 : Int32))])) _
        refine XS.icmpYes X17.here hx rfl (pc0 := 133) (pc' := 142) rfl (hb hby at_133) rfl (XT.ii_lt_t (by decide)) (by decide) (by decide) ?_
        show Steps p.tables e below (T17.setTop (mkF m 142 #[.val (.int p1), .val (.int p2), .val (.int p3), .val (.int (1 : Int32)), .val (.int (0 : Int32)), .val (.ref t), .val (.ref g0), .val (.ref g1), .val (.ref g2), .val (.ref g3), .unset] [])) _
        refine XS.iload X17.here hx rfl (hb hby at_142) rfl ?_
        show Steps p.tables e below (T17.setTop (mkF m 144 #[.val (.int p1), .val (.int p2), .val (.int p3), .val (.int (1 : Int32)), .val (.int (0 : Int32)), .val (.ref t), .val (.ref g0), .val (.ref g1), .val (.ref g2), .val (.ref g3), .unset] [(.int (0 : Int32))])) _
        refine XS.ifNo X17.here hx rfl (hb hby at_144) rfl (XT.i0_ne_f (by decide)) ?_
        show Steps p.tables e below (T17.setTop (mkF m 147 #[.val (.int p1), .val (.int p2), .val (.int p3), .val (.int (1 : Int32)), .val (.int (0 : Int32)), .val (.ref t), .val (.ref g0), .val (.ref g1), .val (.ref g2), .val (.ref g3), .unset] [])) _
        refine XS.aload X17.here hx rfl (hb hby at_147) rfl rfl ?_
        show Steps p.tables e below (T17.setTop (mkF m 149 #[.val (.int p1), .val (.int p2), .val (.int p3), .val (.int (1 : Int32)), .val (.int (0 : Int32)), .val (.ref t), .val (.ref g0), .val (.ref g1), .val (.ref g2), .val (.ref g3), .unset] [(.ref g0)])) _
        refine XS.astore X17.here hx rfl (hb hby at_149) rfl rfl (l' := #[.val (.int p1), .val (.int p2), .val (.int p3), .val (.int (1 : Int32)), .val (.int (0 : Int32)), .val (.ref t), .val (.ref g0), .val (.ref g1), .val (.ref g2), .val (.ref g3), .val (.ref g0)]) rfl ?_
        show Steps p.tables e below (T17.setTop (mkF m 151 #[.val (.int p1), .val (.int p2), .val (.int p3), .val (.int (1 : Int32)), .val (.int (0 : Int32)), .val (.ref t), .val (.ref g0), .val (.ref g1), .val (.ref g2), .val (.ref g3), .val (.ref g0)] [])) _
        refine XS.goto X17.here hx rfl (pc0 := 151) (pc' := 184) rfl (hb hby at_151) (by decide) (by decide) ?_
        show Steps p.tables e below (T17.setTop (mkF m 184 #[.val (.int p1), .val (.int p2), .val (.int p3), .val (.int (1 : Int32)), .val (.int (0 : Int32)), .val (.ref t), .val (.ref g0), .val (.ref g1), .val (.ref g2), .val (.ref g3), .val (.ref g0)] [])) _
        refine XS.aload X17.here hx rfl (hb hby at_184) rfl rfl ?_
        show Steps p.tables e below (T17.setTop (mkF m 186 #[.val (.int p1), .val (.int p2), .val (.int p3), .val (.int (1 : Int32)), .val (.int (0 : Int32)), .val (.ref t), .val (.ref g0), .val (.ref g1), .val (.ref g2), .val (.ref g3), .val (.ref g0)] [(.ref t)])) _
        refine XS.iload X17.here hx rfl (hb hby at_186) rfl ?_
        exact uK
      obtain ⟨cq18, kq18, qa18, qb18, qc18⟩ := isOf hZ rfl (Ec17)
      obtain ⟨_, _, ⟨T18, L18, k18, n18⟩, -, X18, ⟨Lc18, hQ18, l18, y18, z18⟩, st18⟩ := X17.virtualBack hx (y := (⟨"com/example/liblockmode/liblockmode/core/TransactionLocks", "grantAfter", "(I)Lcom/example/liblockmode/liblockmode/core/Grant;"⟩ : MethodName)) (z := (⟨"com/example/liblockmode/liblockmode/core/TransactionLocks", "grantAfter", "(I)Lcom/example/liblockmode/liblockmode/core/Grant;"⟩ : MethodName)) hown (mvT hZ (hw _ (List.mem_of_getElem? (i := 31) rfl))) (mvT hZ (hw _ (List.mem_of_getElem? (i := 32) rfl))) (notFace_of_selects (args := #[]) (mvT hZ (hw _ (List.mem_of_getElem? (i := 34) rfl)))) (mvT hZ (hw _ (List.mem_of_getElem? (i := 34) rfl))) (mvT hZ (hw _ (List.mem_of_getElem? (i := 33) rfl))) (by decide) (backOf (W := 0) (rm4 l Z a0 hw [] t (0 : Int32) [g0] (0) (.ref g0) (.ref g0) T17.heap n0 Z17 F_firstGrant17 ⟨rfl, _, Fk17_g0_nextLogged, rfl⟩ rfl rfl) hZ (hw _ (List.mem_of_getElem? (i := 35) rfl)) (hw _ (List.mem_of_getElem? (i := 3) rfl)) (by decide) (by decide)) qa18 qc18 (g := (mkF m 188 #[.val (.int p1), .val (.int p2), .val (.int p3), .val (.int (1 : Int32)), .val (.int (0 : Int32)), .val (.ref t), .val (.ref g0), .val (.ref g1), .val (.ref g2), .val (.ref g3), .val (.ref g0)] [(.int (0 : Int32)), (.ref t)])) rfl (by rw [hml]; rfl) (Steps.refl _) (argsL := [(.int (0 : Int32))]) (rest := []) (lenOf own_pd2 rfl) rfl (by show 2 * 0 + _ ≤ _; exact Nat.le_of_eq rfl) (hb hby at_188) (fun _ _ => ⟨rfl, rfl, (by decide : 7 + 0 ≤ _), (by decide : 50 + 0 ≤ _)⟩)
      dsimp only [Pt.U, Pt.locs, Pt.cells, Pt.slots] at X18 l18 y18 z18 st18 hQ18
      subst l18 y18 z18
      obtain ⟨rfl, Nq18, e18⟩ := hQ18
      have N18 := Fr.app N17 Nq18
      refine own_trW st18 ?_
      show OwnGoW p e below s _ _ _ T18 (mkF m 191 #[.val (.int p1), .val (.int p2), .val (.int p3), .val (.int (1 : Int32)), .val (.int (0 : Int32)), .val (.ref t), .val (.ref g0), .val (.ref g1), .val (.ref g2), .val (.ref g3), .val (.ref g0)] [(.ref g0)])
      refine own_stW (T' := T18) (g' := (mkF m 201 #[.val (.int p1), .val (.int p2), .val (.int p3), .val (.int (1 : Int32)), .val (.int (0 : Int32)), .val (.ref t), .val (.ref g0), .val (.ref g1), .val (.ref g2), .val (.ref g3), .val (.ref g0)] [(.int (1 : Int32))])) (fun uT uK => ?_) ?_
      · show Steps p.tables e below (T18.setTop (mkF m 191 #[.val (.int p1), .val (.int p2), .val (.int p3), .val (.int (1 : Int32)), .val (.int (0 : Int32)), .val (.ref t), .val (.ref g0), .val (.ref g1), .val (.ref g2), .val (.ref g3), .val (.ref g0)] [(.ref g0)])) _
        refine XS.aload X18.here hx rfl (hb hby at_191) rfl rfl ?_
        show Steps p.tables e below (T18.setTop (mkF m 193 #[.val (.int p1), .val (.int p2), .val (.int p3), .val (.int (1 : Int32)), .val (.int (0 : Int32)), .val (.ref t), .val (.ref g0), .val (.ref g1), .val (.ref g2), .val (.ref g3), .val (.ref g0)] [(.ref g0), (.ref g0)])) _
        refine Jvm.RoadKit.acmp (g := (mkF m 193 #[.val (.int p1), .val (.int p2), .val (.int p3), .val (.int (1 : Int32)), .val (.int (0 : Int32)), .val (.ref t), .val (.ref g0), .val (.ref g1), .val (.ref g2), .val (.ref g3), .val (.ref g0)] [(.ref g0), (.ref g0)])) X18 hx rfl rfl rfl (pc0 := 193) (pc' := 196) (same := true) rfl (hb hby at_193) rfl (decide_eq_true (rfl)) (by decide) (by decide) ?_
        show Steps p.tables e below (T18.setTop (mkF m 196 #[.val (.int p1), .val (.int p2), .val (.int p3), .val (.int (1 : Int32)), .val (.int (0 : Int32)), .val (.ref t), .val (.ref g0), .val (.ref g1), .val (.ref g2), .val (.ref g3), .val (.ref g0)] [])) _
        refine XS.iconst X18.here hx rfl (hb hby at_196) ?_
        show Steps p.tables e below (T18.setTop (mkF m 197 #[.val (.int p1), .val (.int p2), .val (.int p3), .val (.int (1 : Int32)), .val (.int (0 : Int32)), .val (.ref t), .val (.ref g0), .val (.ref g1), .val (.ref g2), .val (.ref g3), .val (.ref g0)] [(.int (1 : Int32))])) _
        refine XS.goto X18.here hx rfl (pc0 := 197) (pc' := 201) rfl (hb hby at_197) (by decide) (by decide) ?_
        exact uK
      exact own_retW (v := some (.int (1 : Int32))) X18 hS (by rw [e18]; exact Zk17) hlk (fun h => by rw [hret] at h; cases h) (fun fs hr => retOut X18 hx hret rfl (Or.inl ⟨rfl, by simp, _, rfl⟩) (hb hby at_201) hr) ⟨rfl, N18⟩ (by decide) (by decide)
    · show OwnGoW p e below s _ _ _ T17 (mkF m 130 #[.val (.int p1), .val (.int p2), .val (.int p3), .val (.int (1 : Int32)), .val (.int (1 : Int32)), .val (.ref t), .val (.ref g0), .val (.ref g1), .val (.ref g2), .val (.ref g3), .unset] [])
      refine own_stW (T' := T17) (g' := (mkF m 188 #[.val (.int p1), .val (.int p2), .val (.int p3), .val (.int (1 : Int32)), .val (.int (1 : Int32)), .val (.ref t), .val (.ref g0), .val (.ref g1), .val (.ref g2), .val (.ref g3), .val .null] [(.int (1 : Int32)), (.ref t)])) (fun uT uK => ?_) ?_
      · show Steps p.tables e below (T17.setTop (mkF m 130 #[.val (.int p1), .val (.int p2), .val (.int p3), .val (.int (1 : Int32)), .val (.int (1 : Int32)), .val (.ref t), .val (.ref g0), .val (.ref g1), .val (.ref g2), .val (.ref g3), .unset] [])) _
        refine XS.iload X17.here hx rfl (hb hby at_130) rfl ?_
        show Steps p.tables e below (T17.setTop (mkF m 132 #[.val (.int p1), .val (.int p2), .val (.int p3), .val (.int (1 : Int32)), .val (.int (1 : Int32)), .val (.ref t), .val (.ref g0), .val (.ref g1), .val (.ref g2), .val (.ref g3), .unset] [(.int (1 : Int32))])) _
        refine XS.iloadN X17.here hx rfl (hb hby at_132) rfl ?_
        show Steps p.tables e below (T17.setTop (mkF m 133 #[.val (.int p1), .val (.int p2), .val (.int p3), .val (.int (1 : Int32)), .val (.int (1 : Int32)), .val (.ref t), .val (.ref g0), .val (.ref g1), .val (.ref g2), .val (.ref g3), .unset] [(.int (1 : Int32)), (.int (1 : Int32))])) _
        refine XS.icmpNo X17.here hx rfl (hb hby at_133) rfl (XT.ii_lt_f (by decide)) ?_
        show Steps p.tables e below (T17.setTop (mkF m 136 #[.val (.int p1), .val (.int p2), .val (.int p3), .val (.int (1 : Int32)), .val (.int (1 : Int32)), .val (.ref t), .val (.ref g0), .val (.ref g1), .val (.ref g2), .val (.ref g3), .unset] [])) _
        refine XS.aconstNull X17.here hx rfl (hb hby at_136) ?_
        show Steps p.tables e below (T17.setTop (mkF m 137 #[.val (.int p1), .val (.int p2), .val (.int p3), .val (.int (1 : Int32)), .val (.int (1 : Int32)), .val (.ref t), .val (.ref g0), .val (.ref g1), .val (.ref g2), .val (.ref g3), .unset] [.null])) _
        refine XS.astore X17.here hx rfl (hb hby at_137) rfl rfl (l' := #[.val (.int p1), .val (.int p2), .val (.int p3), .val (.int (1 : Int32)), .val (.int (1 : Int32)), .val (.ref t), .val (.ref g0), .val (.ref g1), .val (.ref g2), .val (.ref g3), .val .null]) rfl ?_
        show Steps p.tables e below (T17.setTop (mkF m 139 #[.val (.int p1), .val (.int p2), .val (.int p3), .val (.int (1 : Int32)), .val (.int (1 : Int32)), .val (.ref t), .val (.ref g0), .val (.ref g1), .val (.ref g2), .val (.ref g3), .val .null] [])) _
        refine XS.goto X17.here hx rfl (pc0 := 139) (pc' := 184) rfl (hb hby at_139) (by decide) (by decide) ?_
        show Steps p.tables e below (T17.setTop (mkF m 184 #[.val (.int p1), .val (.int p2), .val (.int p3), .val (.int (1 : Int32)), .val (.int (1 : Int32)), .val (.ref t), .val (.ref g0), .val (.ref g1), .val (.ref g2), .val (.ref g3), .val .null] [])) _
        refine XS.aload X17.here hx rfl (hb hby at_184) rfl rfl ?_
        show Steps p.tables e below (T17.setTop (mkF m 186 #[.val (.int p1), .val (.int p2), .val (.int p3), .val (.int (1 : Int32)), .val (.int (1 : Int32)), .val (.ref t), .val (.ref g0), .val (.ref g1), .val (.ref g2), .val (.ref g3), .val .null] [(.ref t)])) _
        refine XS.iload X17.here hx rfl (hb hby at_186) rfl ?_
        exact uK
      obtain ⟨cq19, kq19, qa19, qb19, qc19⟩ := isOf hZ rfl (Ec17)
      obtain ⟨_, _, ⟨T19, L19, k19, n19⟩, -, X19, ⟨Lc19, hQ19, l19, y19, z19⟩, st19⟩ := X17.virtualBack hx (y := (⟨"com/example/liblockmode/liblockmode/core/TransactionLocks", "grantAfter", "(I)Lcom/example/liblockmode/liblockmode/core/Grant;"⟩ : MethodName)) (z := (⟨"com/example/liblockmode/liblockmode/core/TransactionLocks", "grantAfter", "(I)Lcom/example/liblockmode/liblockmode/core/Grant;"⟩ : MethodName)) hown (mvT hZ (hw _ (List.mem_of_getElem? (i := 31) rfl))) (mvT hZ (hw _ (List.mem_of_getElem? (i := 32) rfl))) (notFace_of_selects (args := #[]) (mvT hZ (hw _ (List.mem_of_getElem? (i := 34) rfl)))) (mvT hZ (hw _ (List.mem_of_getElem? (i := 34) rfl))) (mvT hZ (hw _ (List.mem_of_getElem? (i := 33) rfl))) (by decide) (backOf (W := 0) (rm4 l Z a0 hw [] t (1 : Int32) [g0] (1) (.ref g0) .null T17.heap n0 Z17 F_firstGrant17 ⟨rfl, _, Fk17_g0_nextLogged, rfl⟩ rfl rfl) hZ (hw _ (List.mem_of_getElem? (i := 35) rfl)) (hw _ (List.mem_of_getElem? (i := 3) rfl)) (by decide) (by decide)) qa19 qc19 (g := (mkF m 188 #[.val (.int p1), .val (.int p2), .val (.int p3), .val (.int (1 : Int32)), .val (.int (1 : Int32)), .val (.ref t), .val (.ref g0), .val (.ref g1), .val (.ref g2), .val (.ref g3), .val .null] [(.int (1 : Int32)), (.ref t)])) rfl (by rw [hml]; rfl) (Steps.refl _) (argsL := [(.int (1 : Int32))]) (rest := []) (lenOf own_pd2 rfl) rfl (by show 2 * 0 + _ ≤ _; exact Nat.le_of_eq rfl) (hb hby at_188) (fun _ _ => ⟨rfl, rfl, (by decide : 7 + 0 ≤ _), (by decide : 50 + 0 ≤ _)⟩)
      dsimp only [Pt.U, Pt.locs, Pt.cells, Pt.slots] at X19 l19 y19 z19 st19 hQ19
      subst l19 y19 z19
      obtain ⟨rfl, Nq19, e19⟩ := hQ19
      have N19 := Fr.app N17 Nq19
      refine own_trW st19 ?_
      show OwnGoW p e below s _ _ _ T19 (mkF m 191 #[.val (.int p1), .val (.int p2), .val (.int p3), .val (.int (1 : Int32)), .val (.int (1 : Int32)), .val (.ref t), .val (.ref g0), .val (.ref g1), .val (.ref g2), .val (.ref g3), .val .null] [.null])
      refine own_stW (T' := T19) (g' := (mkF m 201 #[.val (.int p1), .val (.int p2), .val (.int p3), .val (.int (1 : Int32)), .val (.int (1 : Int32)), .val (.ref t), .val (.ref g0), .val (.ref g1), .val (.ref g2), .val (.ref g3), .val .null] [(.int (1 : Int32))])) (fun uT uK => ?_) ?_
      · show Steps p.tables e below (T19.setTop (mkF m 191 #[.val (.int p1), .val (.int p2), .val (.int p3), .val (.int (1 : Int32)), .val (.int (1 : Int32)), .val (.ref t), .val (.ref g0), .val (.ref g1), .val (.ref g2), .val (.ref g3), .val .null] [.null])) _
        refine XS.aload X19.here hx rfl (hb hby at_191) rfl rfl ?_
        show Steps p.tables e below (T19.setTop (mkF m 193 #[.val (.int p1), .val (.int p2), .val (.int p3), .val (.int (1 : Int32)), .val (.int (1 : Int32)), .val (.ref t), .val (.ref g0), .val (.ref g1), .val (.ref g2), .val (.ref g3), .val .null] [.null, .null])) _
        refine Jvm.RoadKit.acmp (g := (mkF m 193 #[.val (.int p1), .val (.int p2), .val (.int p3), .val (.int (1 : Int32)), .val (.int (1 : Int32)), .val (.ref t), .val (.ref g0), .val (.ref g1), .val (.ref g2), .val (.ref g3), .val .null] [.null, .null])) X19 hx rfl rfl rfl (pc0 := 193) (pc' := 196) (same := true) rfl (hb hby at_193) rfl (decide_eq_true (rfl)) (by decide) (by decide) ?_
        show Steps p.tables e below (T19.setTop (mkF m 196 #[.val (.int p1), .val (.int p2), .val (.int p3), .val (.int (1 : Int32)), .val (.int (1 : Int32)), .val (.ref t), .val (.ref g0), .val (.ref g1), .val (.ref g2), .val (.ref g3), .val .null] [])) _
        refine XS.iconst X19.here hx rfl (hb hby at_196) ?_
        show Steps p.tables e below (T19.setTop (mkF m 197 #[.val (.int p1), .val (.int p2), .val (.int p3), .val (.int (1 : Int32)), .val (.int (1 : Int32)), .val (.ref t), .val (.ref g0), .val (.ref g1), .val (.ref g2), .val (.ref g3), .val .null] [(.int (1 : Int32))])) _
        refine XS.goto X19.here hx rfl (pc0 := 197) (pc' := 201) rfl (hb hby at_197) (by decide) (by decide) ?_
        exact uK
      exact own_retW (v := some (.int (1 : Int32))) X19 hS (by rw [e19]; exact Zk17) hlk (fun h => by rw [hret] at h; cases h) (fun fs hr => retOut X19 hx hret rfl (Or.inl ⟨rfl, by simp, _, rfl⟩) (hb hby at_201) hr) ⟨rfl, N19⟩ (by decide) (by decide)
    · show OwnGoW p e below s _ _ _ T17 (mkF m 130 #[.val (.int p1), .val (.int p2), .val (.int p3), .val (.int (1 : Int32)), .val (.int (2 : Int32)), .val (.ref t), .val (.ref g0), .val (.ref g1), .val (.ref g2), .val (.ref g3), .unset] [])
      refine own_stW (T' := T17) (g' := (mkF m 188 #[.val (.int p1), .val (.int p2), .val (.int p3), .val (.int (1 : Int32)), .val (.int (2 : Int32)), .val (.ref t), .val (.ref g0), .val (.ref g1), .val (.ref g2), .val (.ref g3), .val .null] [(.int (2 : Int32)), (.ref t)])) (fun uT uK => ?_) ?_
      · show Steps p.tables e below (T17.setTop (mkF m 130 #[.val (.int p1), .val (.int p2), .val (.int p3), .val (.int (1 : Int32)), .val (.int (2 : Int32)), .val (.ref t), .val (.ref g0), .val (.ref g1), .val (.ref g2), .val (.ref g3), .unset] [])) _
        refine XS.iload X17.here hx rfl (hb hby at_130) rfl ?_
        show Steps p.tables e below (T17.setTop (mkF m 132 #[.val (.int p1), .val (.int p2), .val (.int p3), .val (.int (1 : Int32)), .val (.int (2 : Int32)), .val (.ref t), .val (.ref g0), .val (.ref g1), .val (.ref g2), .val (.ref g3), .unset] [(.int (2 : Int32))])) _
        refine XS.iloadN X17.here hx rfl (hb hby at_132) rfl ?_
        show Steps p.tables e below (T17.setTop (mkF m 133 #[.val (.int p1), .val (.int p2), .val (.int p3), .val (.int (1 : Int32)), .val (.int (2 : Int32)), .val (.ref t), .val (.ref g0), .val (.ref g1), .val (.ref g2), .val (.ref g3), .unset] [(.int (1 : Int32)), (.int (2 : Int32))])) _
        refine XS.icmpNo X17.here hx rfl (hb hby at_133) rfl (XT.ii_lt_f (by decide)) ?_
        show Steps p.tables e below (T17.setTop (mkF m 136 #[.val (.int p1), .val (.int p2), .val (.int p3), .val (.int (1 : Int32)), .val (.int (2 : Int32)), .val (.ref t), .val (.ref g0), .val (.ref g1), .val (.ref g2), .val (.ref g3), .unset] [])) _
        refine XS.aconstNull X17.here hx rfl (hb hby at_136) ?_
        show Steps p.tables e below (T17.setTop (mkF m 137 #[.val (.int p1), .val (.int p2), .val (.int p3), .val (.int (1 : Int32)), .val (.int (2 : Int32)), .val (.ref t), .val (.ref g0), .val (.ref g1), .val (.ref g2), .val (.ref g3), .unset] [.null])) _
        refine XS.astore X17.here hx rfl (hb hby at_137) rfl rfl (l' := #[.val (.int p1), .val (.int p2), .val (.int p3), .val (.int (1 : Int32)), .val (.int (2 : Int32)), .val (.ref t), .val (.ref g0), .val (.ref g1), .val (.ref g2), .val (.ref g3), .val .null]) rfl ?_
        show Steps p.tables e below (T17.setTop (mkF m 139 #[.val (.int p1), .val (.int p2), .val (.int p3), .val (.int (1 : Int32)), .val (.int (2 : Int32)), .val (.ref t), .val (.ref g0), .val (.ref g1), .val (.ref g2), .val (.ref g3), .val .null] [])) _
        refine XS.goto X17.here hx rfl (pc0 := 139) (pc' := 184) rfl (hb hby at_139) (by decide) (by decide) ?_
        show Steps p.tables e below (T17.setTop (mkF m 184 #[.val (.int p1), .val (.int p2), .val (.int p3), .val (.int (1 : Int32)), .val (.int (2 : Int32)), .val (.ref t), .val (.ref g0), .val (.ref g1), .val (.ref g2), .val (.ref g3), .val .null] [])) _
        refine XS.aload X17.here hx rfl (hb hby at_184) rfl rfl ?_
        show Steps p.tables e below (T17.setTop (mkF m 186 #[.val (.int p1), .val (.int p2), .val (.int p3), .val (.int (1 : Int32)), .val (.int (2 : Int32)), .val (.ref t), .val (.ref g0), .val (.ref g1), .val (.ref g2), .val (.ref g3), .val .null] [(.ref t)])) _
        refine XS.iload X17.here hx rfl (hb hby at_186) rfl ?_
        exact uK
      obtain ⟨cq20, kq20, qa20, qb20, qc20⟩ := isOf hZ rfl (Ec17)
      obtain ⟨_, _, ⟨T20, L20, k20, n20⟩, -, X20, ⟨Lc20, hQ20, l20, y20, z20⟩, st20⟩ := X17.virtualBack hx (y := (⟨"com/example/liblockmode/liblockmode/core/TransactionLocks", "grantAfter", "(I)Lcom/example/liblockmode/liblockmode/core/Grant;"⟩ : MethodName)) (z := (⟨"com/example/liblockmode/liblockmode/core/TransactionLocks", "grantAfter", "(I)Lcom/example/liblockmode/liblockmode/core/Grant;"⟩ : MethodName)) hown (mvT hZ (hw _ (List.mem_of_getElem? (i := 31) rfl))) (mvT hZ (hw _ (List.mem_of_getElem? (i := 32) rfl))) (notFace_of_selects (args := #[]) (mvT hZ (hw _ (List.mem_of_getElem? (i := 34) rfl)))) (mvT hZ (hw _ (List.mem_of_getElem? (i := 34) rfl))) (mvT hZ (hw _ (List.mem_of_getElem? (i := 33) rfl))) (by decide) (backOf (W := 0) (rm4 l Z a0 hw [] t (2 : Int32) [g0] (2) (.ref g0) .null T17.heap n0 Z17 F_firstGrant17 ⟨rfl, _, Fk17_g0_nextLogged, rfl⟩ rfl rfl) hZ (hw _ (List.mem_of_getElem? (i := 35) rfl)) (hw _ (List.mem_of_getElem? (i := 3) rfl)) (by decide) (by decide)) qa20 qc20 (g := (mkF m 188 #[.val (.int p1), .val (.int p2), .val (.int p3), .val (.int (1 : Int32)), .val (.int (2 : Int32)), .val (.ref t), .val (.ref g0), .val (.ref g1), .val (.ref g2), .val (.ref g3), .val .null] [(.int (2 : Int32)), (.ref t)])) rfl (by rw [hml]; rfl) (Steps.refl _) (argsL := [(.int (2 : Int32))]) (rest := []) (lenOf own_pd2 rfl) rfl (by show 2 * 0 + _ ≤ _; exact Nat.le_of_eq rfl) (hb hby at_188) (fun _ _ => ⟨rfl, rfl, (by decide : 7 + 0 ≤ _), (by decide : 50 + 0 ≤ _)⟩)
      dsimp only [Pt.U, Pt.locs, Pt.cells, Pt.slots] at X20 l20 y20 z20 st20 hQ20
      subst l20 y20 z20
      obtain ⟨rfl, Nq20, e20⟩ := hQ20
      have N20 := Fr.app N17 Nq20
      refine own_trW st20 ?_
      show OwnGoW p e below s _ _ _ T20 (mkF m 191 #[.val (.int p1), .val (.int p2), .val (.int p3), .val (.int (1 : Int32)), .val (.int (2 : Int32)), .val (.ref t), .val (.ref g0), .val (.ref g1), .val (.ref g2), .val (.ref g3), .val .null] [.null])
      refine own_stW (T' := T20) (g' := (mkF m 201 #[.val (.int p1), .val (.int p2), .val (.int p3), .val (.int (1 : Int32)), .val (.int (2 : Int32)), .val (.ref t), .val (.ref g0), .val (.ref g1), .val (.ref g2), .val (.ref g3), .val .null] [(.int (1 : Int32))])) (fun uT uK => ?_) ?_
      · show Steps p.tables e below (T20.setTop (mkF m 191 #[.val (.int p1), .val (.int p2), .val (.int p3), .val (.int (1 : Int32)), .val (.int (2 : Int32)), .val (.ref t), .val (.ref g0), .val (.ref g1), .val (.ref g2), .val (.ref g3), .val .null] [.null])) _
        refine XS.aload X20.here hx rfl (hb hby at_191) rfl rfl ?_
        show Steps p.tables e below (T20.setTop (mkF m 193 #[.val (.int p1), .val (.int p2), .val (.int p3), .val (.int (1 : Int32)), .val (.int (2 : Int32)), .val (.ref t), .val (.ref g0), .val (.ref g1), .val (.ref g2), .val (.ref g3), .val .null] [.null, .null])) _
        refine Jvm.RoadKit.acmp (g := (mkF m 193 #[.val (.int p1), .val (.int p2), .val (.int p3), .val (.int (1 : Int32)), .val (.int (2 : Int32)), .val (.ref t), .val (.ref g0), .val (.ref g1), .val (.ref g2), .val (.ref g3), .val .null] [.null, .null])) X20 hx rfl rfl rfl (pc0 := 193) (pc' := 196) (same := true) rfl (hb hby at_193) rfl (decide_eq_true (rfl)) (by decide) (by decide) ?_
        show Steps p.tables e below (T20.setTop (mkF m 196 #[.val (.int p1), .val (.int p2), .val (.int p3), .val (.int (1 : Int32)), .val (.int (2 : Int32)), .val (.ref t), .val (.ref g0), .val (.ref g1), .val (.ref g2), .val (.ref g3), .val .null] [])) _
        refine XS.iconst X20.here hx rfl (hb hby at_196) ?_
        show Steps p.tables e below (T20.setTop (mkF m 197 #[.val (.int p1), .val (.int p2), .val (.int p3), .val (.int (1 : Int32)), .val (.int (2 : Int32)), .val (.ref t), .val (.ref g0), .val (.ref g1), .val (.ref g2), .val (.ref g3), .val .null] [(.int (1 : Int32))])) _
        refine XS.goto X20.here hx rfl (pc0 := 197) (pc' := 201) rfl (hb hby at_197) (by decide) (by decide) ?_
        exact uK
      exact own_retW (v := some (.int (1 : Int32))) X20 hS (by rw [e20]; exact Zk17) hlk (fun h => by rw [hret] at h; cases h) (fun fs hr => retOut X20 hx hret rfl (Or.inl ⟨rfl, by simp, _, rfl⟩) (hb hby at_201) hr) ⟨rfl, N20⟩ (by decide) (by decide)
    · show OwnGoW p e below s _ _ _ T17 (mkF m 130 #[.val (.int p1), .val (.int p2), .val (.int p3), .val (.int (1 : Int32)), .val (.int (3 : Int32)), .val (.ref t), .val (.ref g0), .val (.ref g1), .val (.ref g2), .val (.ref g3), .unset] [])
      refine own_stW (T' := T17) (g' := (mkF m 188 #[.val (.int p1), .val (.int p2), .val (.int p3), .val (.int (1 : Int32)), .val (.int (3 : Int32)), .val (.ref t), .val (.ref g0), .val (.ref g1), .val (.ref g2), .val (.ref g3), .val .null] [(.int (3 : Int32)), (.ref t)])) (fun uT uK => ?_) ?_
      · show Steps p.tables e below (T17.setTop (mkF m 130 #[.val (.int p1), .val (.int p2), .val (.int p3), .val (.int (1 : Int32)), .val (.int (3 : Int32)), .val (.ref t), .val (.ref g0), .val (.ref g1), .val (.ref g2), .val (.ref g3), .unset] [])) _
        refine XS.iload X17.here hx rfl (hb hby at_130) rfl ?_
        show Steps p.tables e below (T17.setTop (mkF m 132 #[.val (.int p1), .val (.int p2), .val (.int p3), .val (.int (1 : Int32)), .val (.int (3 : Int32)), .val (.ref t), .val (.ref g0), .val (.ref g1), .val (.ref g2), .val (.ref g3), .unset] [(.int (3 : Int32))])) _
        refine XS.iloadN X17.here hx rfl (hb hby at_132) rfl ?_
        show Steps p.tables e below (T17.setTop (mkF m 133 #[.val (.int p1), .val (.int p2), .val (.int p3), .val (.int (1 : Int32)), .val (.int (3 : Int32)), .val (.ref t), .val (.ref g0), .val (.ref g1), .val (.ref g2), .val (.ref g3), .unset] [(.int (1 : Int32)), (.int (3 : Int32))])) _
        refine XS.icmpNo X17.here hx rfl (hb hby at_133) rfl (XT.ii_lt_f (by decide)) ?_
        show Steps p.tables e below (T17.setTop (mkF m 136 #[.val (.int p1), .val (.int p2), .val (.int p3), .val (.int (1 : Int32)), .val (.int (3 : Int32)), .val (.ref t), .val (.ref g0), .val (.ref g1), .val (.ref g2), .val (.ref g3), .unset] [])) _
        refine XS.aconstNull X17.here hx rfl (hb hby at_136) ?_
        show Steps p.tables e below (T17.setTop (mkF m 137 #[.val (.int p1), .val (.int p2), .val (.int p3), .val (.int (1 : Int32)), .val (.int (3 : Int32)), .val (.ref t), .val (.ref g0), .val (.ref g1), .val (.ref g2), .val (.ref g3), .unset] [.null])) _
        refine XS.astore X17.here hx rfl (hb hby at_137) rfl rfl (l' := #[.val (.int p1), .val (.int p2), .val (.int p3), .val (.int (1 : Int32)), .val (.int (3 : Int32)), .val (.ref t), .val (.ref g0), .val (.ref g1), .val (.ref g2), .val (.ref g3), .val .null]) rfl ?_
        show Steps p.tables e below (T17.setTop (mkF m 139 #[.val (.int p1), .val (.int p2), .val (.int p3), .val (.int (1 : Int32)), .val (.int (3 : Int32)), .val (.ref t), .val (.ref g0), .val (.ref g1), .val (.ref g2), .val (.ref g3), .val .null] [])) _
        refine XS.goto X17.here hx rfl (pc0 := 139) (pc' := 184) rfl (hb hby at_139) (by decide) (by decide) ?_
        show Steps p.tables e below (T17.setTop (mkF m 184 #[.val (.int p1), .val (.int p2), .val (.int p3), .val (.int (1 : Int32)), .val (.int (3 : Int32)), .val (.ref t), .val (.ref g0), .val (.ref g1), .val (.ref g2), .val (.ref g3), .val .null] [])) _
        refine XS.aload X17.here hx rfl (hb hby at_184) rfl rfl ?_
        show Steps p.tables e below (T17.setTop (mkF m 186 #[.val (.int p1), .val (.int p2), .val (.int p3), .val (.int (1 : Int32)), .val (.int (3 : Int32)), .val (.ref t), .val (.ref g0), .val (.ref g1), .val (.ref g2), .val (.ref g3), .val .null] [(.ref t)])) _
        refine XS.iload X17.here hx rfl (hb hby at_186) rfl ?_
        exact uK
      obtain ⟨cq21, kq21, qa21, qb21, qc21⟩ := isOf hZ rfl (Ec17)
      obtain ⟨_, _, ⟨T21, L21, k21, n21⟩, -, X21, ⟨Lc21, hQ21, l21, y21, z21⟩, st21⟩ := X17.virtualBack hx (y := (⟨"com/example/liblockmode/liblockmode/core/TransactionLocks", "grantAfter", "(I)Lcom/example/liblockmode/liblockmode/core/Grant;"⟩ : MethodName)) (z := (⟨"com/example/liblockmode/liblockmode/core/TransactionLocks", "grantAfter", "(I)Lcom/example/liblockmode/liblockmode/core/Grant;"⟩ : MethodName)) hown (mvT hZ (hw _ (List.mem_of_getElem? (i := 31) rfl))) (mvT hZ (hw _ (List.mem_of_getElem? (i := 32) rfl))) (notFace_of_selects (args := #[]) (mvT hZ (hw _ (List.mem_of_getElem? (i := 34) rfl)))) (mvT hZ (hw _ (List.mem_of_getElem? (i := 34) rfl))) (mvT hZ (hw _ (List.mem_of_getElem? (i := 33) rfl))) (by decide) (backOf (W := 0) (rm4 l Z a0 hw [] t (3 : Int32) [g0] (3) (.ref g0) .null T17.heap n0 Z17 F_firstGrant17 ⟨rfl, _, Fk17_g0_nextLogged, rfl⟩ rfl rfl) hZ (hw _ (List.mem_of_getElem? (i := 35) rfl)) (hw _ (List.mem_of_getElem? (i := 3) rfl)) (by decide) (by decide)) qa21 qc21 (g := (mkF m 188 #[.val (.int p1), .val (.int p2), .val (.int p3), .val (.int (1 : Int32)), .val (.int (3 : Int32)), .val (.ref t), .val (.ref g0), .val (.ref g1), .val (.ref g2), .val (.ref g3), .val .null] [(.int (3 : Int32)), (.ref t)])) rfl (by rw [hml]; rfl) (Steps.refl _) (argsL := [(.int (3 : Int32))]) (rest := []) (lenOf own_pd2 rfl) rfl (by show 2 * 0 + _ ≤ _; exact Nat.le_of_eq rfl) (hb hby at_188) (fun _ _ => ⟨rfl, rfl, (by decide : 7 + 0 ≤ _), (by decide : 50 + 0 ≤ _)⟩)
      dsimp only [Pt.U, Pt.locs, Pt.cells, Pt.slots] at X21 l21 y21 z21 st21 hQ21
      subst l21 y21 z21
      obtain ⟨rfl, Nq21, e21⟩ := hQ21
      have N21 := Fr.app N17 Nq21
      refine own_trW st21 ?_
      show OwnGoW p e below s _ _ _ T21 (mkF m 191 #[.val (.int p1), .val (.int p2), .val (.int p3), .val (.int (1 : Int32)), .val (.int (3 : Int32)), .val (.ref t), .val (.ref g0), .val (.ref g1), .val (.ref g2), .val (.ref g3), .val .null] [.null])
      refine own_stW (T' := T21) (g' := (mkF m 201 #[.val (.int p1), .val (.int p2), .val (.int p3), .val (.int (1 : Int32)), .val (.int (3 : Int32)), .val (.ref t), .val (.ref g0), .val (.ref g1), .val (.ref g2), .val (.ref g3), .val .null] [(.int (1 : Int32))])) (fun uT uK => ?_) ?_
      · show Steps p.tables e below (T21.setTop (mkF m 191 #[.val (.int p1), .val (.int p2), .val (.int p3), .val (.int (1 : Int32)), .val (.int (3 : Int32)), .val (.ref t), .val (.ref g0), .val (.ref g1), .val (.ref g2), .val (.ref g3), .val .null] [.null])) _
        refine XS.aload X21.here hx rfl (hb hby at_191) rfl rfl ?_
        show Steps p.tables e below (T21.setTop (mkF m 193 #[.val (.int p1), .val (.int p2), .val (.int p3), .val (.int (1 : Int32)), .val (.int (3 : Int32)), .val (.ref t), .val (.ref g0), .val (.ref g1), .val (.ref g2), .val (.ref g3), .val .null] [.null, .null])) _
        refine Jvm.RoadKit.acmp (g := (mkF m 193 #[.val (.int p1), .val (.int p2), .val (.int p3), .val (.int (1 : Int32)), .val (.int (3 : Int32)), .val (.ref t), .val (.ref g0), .val (.ref g1), .val (.ref g2), .val (.ref g3), .val .null] [.null, .null])) X21 hx rfl rfl rfl (pc0 := 193) (pc' := 196) (same := true) rfl (hb hby at_193) rfl (decide_eq_true (rfl)) (by decide) (by decide) ?_
        show Steps p.tables e below (T21.setTop (mkF m 196 #[.val (.int p1), .val (.int p2), .val (.int p3), .val (.int (1 : Int32)), .val (.int (3 : Int32)), .val (.ref t), .val (.ref g0), .val (.ref g1), .val (.ref g2), .val (.ref g3), .val .null] [])) _
        refine XS.iconst X21.here hx rfl (hb hby at_196) ?_
        show Steps p.tables e below (T21.setTop (mkF m 197 #[.val (.int p1), .val (.int p2), .val (.int p3), .val (.int (1 : Int32)), .val (.int (3 : Int32)), .val (.ref t), .val (.ref g0), .val (.ref g1), .val (.ref g2), .val (.ref g3), .val .null] [(.int (1 : Int32))])) _
        refine XS.goto X21.here hx rfl (pc0 := 197) (pc' := 201) rfl (hb hby at_197) (by decide) (by decide) ?_
        exact uK
      exact own_retW (v := some (.int (1 : Int32))) X21 hS (by rw [e21]; exact Zk17) hlk (fun h => by rw [hret] at h; cases h) (fun fs hr => retOut X21 hx hret rfl (Or.inl ⟨rfl, by simp, _, rfl⟩) (hb hby at_201) hr) ⟨rfl, N21⟩ (by decide) (by decide)
    · show OwnGoW p e below s _ _ _ T17 (mkF m 130 #[.val (.int p1), .val (.int p2), .val (.int p3), .val (.int (1 : Int32)), .val (.int k), .val (.ref t), .val (.ref g0), .val (.ref g1), .val (.ref g2), .val (.ref g3), .unset] [])
      refine own_stW (T' := T17) (g' := (mkF m 188 #[.val (.int p1), .val (.int p2), .val (.int p3), .val (.int (1 : Int32)), .val (.int k), .val (.ref t), .val (.ref g0), .val (.ref g1), .val (.ref g2), .val (.ref g3), .val .null] [(.int k), (.ref t)])) (fun uT uK => ?_) ?_
      · show Steps p.tables e below (T17.setTop (mkF m 130 #[.val (.int p1), .val (.int p2), .val (.int p3), .val (.int (1 : Int32)), .val (.int k), .val (.ref t), .val (.ref g0), .val (.ref g1), .val (.ref g2), .val (.ref g3), .unset] [])) _
        refine XS.iload X17.here hx rfl (hb hby at_130) rfl ?_
        show Steps p.tables e below (T17.setTop (mkF m 132 #[.val (.int p1), .val (.int p2), .val (.int p3), .val (.int (1 : Int32)), .val (.int k), .val (.ref t), .val (.ref g0), .val (.ref g1), .val (.ref g2), .val (.ref g3), .unset] [(.int k)])) _
        refine XS.iloadN X17.here hx rfl (hb hby at_132) rfl ?_
        show Steps p.tables e below (T17.setTop (mkF m 133 #[.val (.int p1), .val (.int p2), .val (.int p3), .val (.int (1 : Int32)), .val (.int k), .val (.ref t), .val (.ref g0), .val (.ref g1), .val (.ref g2), .val (.ref g3), .unset] [(.int (1 : Int32)), (.int k)])) _
        refine XS.icmpNo X17.here hx rfl (hb hby at_133) rfl (XT.ii_lt_f (own_ge hge (by decide))) ?_
        show Steps p.tables e below (T17.setTop (mkF m 136 #[.val (.int p1), .val (.int p2), .val (.int p3), .val (.int (1 : Int32)), .val (.int k), .val (.ref t), .val (.ref g0), .val (.ref g1), .val (.ref g2), .val (.ref g3), .unset] [])) _
        refine XS.aconstNull X17.here hx rfl (hb hby at_136) ?_
        show Steps p.tables e below (T17.setTop (mkF m 137 #[.val (.int p1), .val (.int p2), .val (.int p3), .val (.int (1 : Int32)), .val (.int k), .val (.ref t), .val (.ref g0), .val (.ref g1), .val (.ref g2), .val (.ref g3), .unset] [.null])) _
        refine XS.astore X17.here hx rfl (hb hby at_137) rfl rfl (l' := #[.val (.int p1), .val (.int p2), .val (.int p3), .val (.int (1 : Int32)), .val (.int k), .val (.ref t), .val (.ref g0), .val (.ref g1), .val (.ref g2), .val (.ref g3), .val .null]) rfl ?_
        show Steps p.tables e below (T17.setTop (mkF m 139 #[.val (.int p1), .val (.int p2), .val (.int p3), .val (.int (1 : Int32)), .val (.int k), .val (.ref t), .val (.ref g0), .val (.ref g1), .val (.ref g2), .val (.ref g3), .val .null] [])) _
        refine XS.goto X17.here hx rfl (pc0 := 139) (pc' := 184) rfl (hb hby at_139) (by decide) (by decide) ?_
        show Steps p.tables e below (T17.setTop (mkF m 184 #[.val (.int p1), .val (.int p2), .val (.int p3), .val (.int (1 : Int32)), .val (.int k), .val (.ref t), .val (.ref g0), .val (.ref g1), .val (.ref g2), .val (.ref g3), .val .null] [])) _
        refine XS.aload X17.here hx rfl (hb hby at_184) rfl rfl ?_
        show Steps p.tables e below (T17.setTop (mkF m 186 #[.val (.int p1), .val (.int p2), .val (.int p3), .val (.int (1 : Int32)), .val (.int k), .val (.ref t), .val (.ref g0), .val (.ref g1), .val (.ref g2), .val (.ref g3), .val .null] [(.ref t)])) _
        refine XS.iload X17.here hx rfl (hb hby at_186) rfl ?_
        exact uK
      obtain ⟨cq22, kq22, qa22, qb22, qc22⟩ := isOf hZ rfl (Ec17)
      obtain ⟨_, _, ⟨T22, L22, k22, n22⟩, -, X22, ⟨Lc22, hQ22, l22, y22, z22⟩, st22⟩ := X17.virtualBack hx (y := (⟨"com/example/liblockmode/liblockmode/core/TransactionLocks", "grantAfter", "(I)Lcom/example/liblockmode/liblockmode/core/Grant;"⟩ : MethodName)) (z := (⟨"com/example/liblockmode/liblockmode/core/TransactionLocks", "grantAfter", "(I)Lcom/example/liblockmode/liblockmode/core/Grant;"⟩ : MethodName)) hown (mvT hZ (hw _ (List.mem_of_getElem? (i := 31) rfl))) (mvT hZ (hw _ (List.mem_of_getElem? (i := 32) rfl))) (notFace_of_selects (args := #[]) (mvT hZ (hw _ (List.mem_of_getElem? (i := 34) rfl)))) (mvT hZ (hw _ (List.mem_of_getElem? (i := 34) rfl))) (mvT hZ (hw _ (List.mem_of_getElem? (i := 33) rfl))) (by decide) (backOf (W := 0) (rm4 l Z a0 hw [] t k [g0] (k.toInt.toNat) (.ref g0) .null T17.heap n0 Z17 F_firstGrant17 ⟨rfl, _, Fk17_g0_nextLogged, rfl⟩ (by omega) (own_at_far _ _ (by show 1 ≤ _; omega))) hZ (hw _ (List.mem_of_getElem? (i := 35) rfl)) (hw _ (List.mem_of_getElem? (i := 3) rfl)) (by decide) (by decide)) qa22 qc22 (g := (mkF m 188 #[.val (.int p1), .val (.int p2), .val (.int p3), .val (.int (1 : Int32)), .val (.int k), .val (.ref t), .val (.ref g0), .val (.ref g1), .val (.ref g2), .val (.ref g3), .val .null] [(.int k), (.ref t)])) rfl (by rw [hml]; rfl) (Steps.refl _) (argsL := [(.int k)]) (rest := []) (lenOf own_pd2 rfl) rfl (by show 2 * 0 + _ ≤ _; exact Nat.le_of_eq rfl) (hb hby at_188) (fun _ _ => ⟨rfl, rfl, (by decide : 7 + 0 ≤ _), (by decide : 50 + 0 ≤ _)⟩)
      dsimp only [Pt.U, Pt.locs, Pt.cells, Pt.slots] at X22 l22 y22 z22 st22 hQ22
      subst l22 y22 z22
      obtain ⟨rfl, Nq22, e22⟩ := hQ22
      have N22 := Fr.app N17 Nq22
      refine own_trW st22 ?_
      show OwnGoW p e below s _ _ _ T22 (mkF m 191 #[.val (.int p1), .val (.int p2), .val (.int p3), .val (.int (1 : Int32)), .val (.int k), .val (.ref t), .val (.ref g0), .val (.ref g1), .val (.ref g2), .val (.ref g3), .val .null] [.null])
      refine own_stW (T' := T22) (g' := (mkF m 201 #[.val (.int p1), .val (.int p2), .val (.int p3), .val (.int (1 : Int32)), .val (.int k), .val (.ref t), .val (.ref g0), .val (.ref g1), .val (.ref g2), .val (.ref g3), .val .null] [(.int (1 : Int32))])) (fun uT uK => ?_) ?_
      · show Steps p.tables e below (T22.setTop (mkF m 191 #[.val (.int p1), .val (.int p2), .val (.int p3), .val (.int (1 : Int32)), .val (.int k), .val (.ref t), .val (.ref g0), .val (.ref g1), .val (.ref g2), .val (.ref g3), .val .null] [.null])) _
        refine XS.aload X22.here hx rfl (hb hby at_191) rfl rfl ?_
        show Steps p.tables e below (T22.setTop (mkF m 193 #[.val (.int p1), .val (.int p2), .val (.int p3), .val (.int (1 : Int32)), .val (.int k), .val (.ref t), .val (.ref g0), .val (.ref g1), .val (.ref g2), .val (.ref g3), .val .null] [.null, .null])) _
        refine Jvm.RoadKit.acmp (g := (mkF m 193 #[.val (.int p1), .val (.int p2), .val (.int p3), .val (.int (1 : Int32)), .val (.int k), .val (.ref t), .val (.ref g0), .val (.ref g1), .val (.ref g2), .val (.ref g3), .val .null] [.null, .null])) X22 hx rfl rfl rfl (pc0 := 193) (pc' := 196) (same := true) rfl (hb hby at_193) rfl (decide_eq_true (rfl)) (by decide) (by decide) ?_
        show Steps p.tables e below (T22.setTop (mkF m 196 #[.val (.int p1), .val (.int p2), .val (.int p3), .val (.int (1 : Int32)), .val (.int k), .val (.ref t), .val (.ref g0), .val (.ref g1), .val (.ref g2), .val (.ref g3), .val .null] [])) _
        refine XS.iconst X22.here hx rfl (hb hby at_196) ?_
        show Steps p.tables e below (T22.setTop (mkF m 197 #[.val (.int p1), .val (.int p2), .val (.int p3), .val (.int (1 : Int32)), .val (.int k), .val (.ref t), .val (.ref g0), .val (.ref g1), .val (.ref g2), .val (.ref g3), .val .null] [(.int (1 : Int32))])) _
        refine XS.goto X22.here hx rfl (pc0 := 197) (pc' := 201) rfl (hb hby at_197) (by decide) (by decide) ?_
        exact uK
      exact own_retW (v := some (.int (1 : Int32))) X22 hS (by rw [e22]; exact Zk17) hlk (fun h => by rw [hret] at h; cases h) (fun fs hr => retOut X22 hx hret rfl (Or.inl ⟨rfl, by simp, _, rfl⟩) (hb hby at_201) hr) ⟨rfl, N22⟩ (by decide) (by decide)
  · show OwnGoW p e below s _ _ _ T11 (mkF m 83 #[.val (.int p1), .val (.int p2), .val (.int p3), .val (.int (2 : Int32)), .val (.int k), .val (.ref t), .val (.ref g0), .val (.ref g1), .val (.ref g2), .val (.ref g3), .unset] [])
    refine own_stW (T' := T11) (g' := (mkF m 91 #[.val (.int p1), .val (.int p2), .val (.int p3), .val (.int (2 : Int32)), .val (.int k), .val (.ref t), .val (.ref g0), .val (.ref g1), .val (.ref g2), .val (.ref g3), .unset] [(.ref g0), (.ref t)])) (fun uT uK => ?_) ?_
    · show Steps p.tables e below (T11.setTop (mkF m 83 #[.val (.int p1), .val (.int p2), .val (.int p3), .val (.int (2 : Int32)), .val (.int k), .val (.ref t), .val (.ref g0), .val (.ref g1), .val (.ref g2), .val (.ref g3), .unset] [])) _
      refine XS.iloadN X11.here hx rfl (hb hby at_83) rfl ?_
      show Steps p.tables e below (T11.setTop (mkF m 84 #[.val (.int p1), .val (.int p2), .val (.int p3), .val (.int (2 : Int32)), .val (.int k), .val (.ref t), .val (.ref g0), .val (.ref g1), .val (.ref g2), .val (.ref g3), .unset] [(.int (2 : Int32))])) _
      refine XS.ifNo X11.here hx rfl (hb hby at_84) rfl (XT.i0_le_f (by decide)) ?_
      show Steps p.tables e below (T11.setTop (mkF m 87 #[.val (.int p1), .val (.int p2), .val (.int p3), .val (.int (2 : Int32)), .val (.int k), .val (.ref t), .val (.ref g0), .val (.ref g1), .val (.ref g2), .val (.ref g3), .unset] [])) _
      refine XS.aload X11.here hx rfl (hb hby at_87) rfl rfl ?_
      show Steps p.tables e below (T11.setTop (mkF m 89 #[.val (.int p1), .val (.int p2), .val (.int p3), .val (.int (2 : Int32)), .val (.int k), .val (.ref t), .val (.ref g0), .val (.ref g1), .val (.ref g2), .val (.ref g3), .unset] [(.ref t)])) _
      refine XS.aload X11.here hx rfl (hb hby at_89) rfl rfl ?_
      exact uK
    obtain ⟨cq23, kq23, qa23, qb23, qc23⟩ := isOf hZ rfl (Ek11_t)
    obtain ⟨_, _, ⟨T23, L23, k23, n23⟩, -, X23, ⟨Lc23, hQ23, l23, y23, z23⟩, st23⟩ := X11.virtualBack hx (y := (⟨"com/example/liblockmode/liblockmode/core/TransactionLocks", "log", "(Lcom/example/liblockmode/liblockmode/core/Grant;)V"⟩ : MethodName)) (z := (⟨"com/example/liblockmode/liblockmode/core/TransactionLocks", "log", "(Lcom/example/liblockmode/liblockmode/core/Grant;)V"⟩ : MethodName)) hown (mvT hZ (hw _ (List.mem_of_getElem? (i := 38) rfl))) (mvT hZ (hw _ (List.mem_of_getElem? (i := 39) rfl))) (notFace_of_selects (args := #[]) (mvT hZ (hw _ (List.mem_of_getElem? (i := 41) rfl)))) (mvT hZ (hw _ (List.mem_of_getElem? (i := 41) rfl))) (mvT hZ (hw _ (List.mem_of_getElem? (i := 40) rfl))) (by decide) (backOf (W := 0) (rm5a l Z a0 hw [] t g0 (0 : Int32) T11.heap n0 Z11 Ek11_t Fk11_t_firstGrant Fk11_t_lastGrant Fk11_t_grantCount Fk11_t_modesByObject g_t (by decide)) hZ (hw _ (List.mem_of_getElem? (i := 42) rfl)) (hw _ (List.mem_of_getElem? (i := 3) rfl)) (by decide) (by decide)) qa23 qc23 (g := (mkF m 91 #[.val (.int p1), .val (.int p2), .val (.int p3), .val (.int (2 : Int32)), .val (.int k), .val (.ref t), .val (.ref g0), .val (.ref g1), .val (.ref g2), .val (.ref g3), .unset] [(.ref g0), (.ref t)])) rfl (by rw [hml]; rfl) (Steps.refl _) (argsL := [(.ref g0)]) (rest := []) (lenOf own_pd3 rfl) rfl (by show 2 * 0 + _ ≤ _; exact Nat.le_of_eq rfl) (hb hby at_91) (fun _ _ => ⟨rfl, rfl, (by decide : 7 + 0 ≤ _), (by decide : 50 + 0 ≤ _)⟩)
    dsimp only [Pt.U, Pt.locs, Pt.cells, Pt.slots] at X23 l23 y23 z23 st23 hQ23
    subst l23 y23 z23
    obtain ⟨rfl, Nq23, Kc23, Ec23, F_firstGrant23, F_lastGrant23, F_grantCount23, F_modesByObject23⟩ := hQ23
    have N23 := Fr.app N11 Nq23
    refine own_trW st23 ?_
    show OwnGoW p e below s _ _ _ T23 (mkF m 94 #[.val (.int p1), .val (.int p2), .val (.int p3), .val (.int (2 : Int32)), .val (.int k), .val (.ref t), .val (.ref g0), .val (.ref g1), .val (.ref g2), .val (.ref g3), .unset] [])
    have Ek23_g0 := (Ek11_g0).keep Kc23
    have Fk23_g0_nextLogged := (Fk11_g0_nextLogged).keep Kc23 (ninS (Ne.symm ne_t_g0) nin0)
    have Ek23_g1 := (Ek11_g1).keep Kc23
    have Fk23_g1_nextLogged := (Fk11_g1_nextLogged).keep Kc23 (ninS (Ne.symm ne_t_g1) nin0)
    have Ek23_g2 := (Ek11_g2).keep Kc23
    have Fk23_g2_nextLogged := (Fk11_g2_nextLogged).keep Kc23 (ninS (Ne.symm ne_t_g2) nin0)
    have Ek23_g3 := (Ec11).keep Kc23
    have Fk23_g3_nextLogged := (Fn11).keep Kc23 (ninS (Ne.symm ne_t_g3) nin0)
    have Zk23 : k1 ≤ T23.heap.size := Nat.le_trans Zk11 Kc23.1
    have Z23 : n0 ≤ T23.heap.size := Nat.le_trans Z11 Kc23.1
    refine own_stW (T' := T23) (g' := (mkF m 103 #[.val (.int p1), .val (.int p2), .val (.int p3), .val (.int (2 : Int32)), .val (.int k), .val (.ref t), .val (.ref g0), .val (.ref g1), .val (.ref g2), .val (.ref g3), .unset] [(.ref g1), (.ref t)])) (fun uT uK => ?_) ?_
    · show Steps p.tables e below (T23.setTop (mkF m 94 #[.val (.int p1), .val (.int p2), .val (.int p3), .val (.int (2 : Int32)), .val (.int k), .val (.ref t), .val (.ref g0), .val (.ref g1), .val (.ref g2), .val (.ref g3), .unset] [])) _
      refine XS.iloadN X23.here hx rfl (hb hby at_94) rfl ?_
      show Steps p.tables e below (T23.setTop (mkF m 95 #[.val (.int p1), .val (.int p2), .val (.int p3), .val (.int (2 : Int32)), .val (.int k), .val (.ref t), .val (.ref g0), .val (.ref g1), .val (.ref g2), .val (.ref g3), .unset] [(.int (2 : Int32))])) _
      refine XS.iconst X23.here hx rfl (hb hby at_95) ?_
      show Steps p.tables e below (T23.setTop (mkF m 96 #[.val (.int p1), .val (.int p2), .val (.int p3), .val (.int (2 : Int32)), .val (.int k), .val (.ref t), .val (.ref g0), .val (.ref g1), .val (.ref g2), .val (.ref g3), .unset] [(.int (1 : Int32)), (.int (2 : Int32))])) _
      refine XS.icmpNo X23.here hx rfl (hb hby at_96) rfl (XT.ii_le_f (by decide)) ?_
      show Steps p.tables e below (T23.setTop (mkF m 99 #[.val (.int p1), .val (.int p2), .val (.int p3), .val (.int (2 : Int32)), .val (.int k), .val (.ref t), .val (.ref g0), .val (.ref g1), .val (.ref g2), .val (.ref g3), .unset] [])) _
      refine XS.aload X23.here hx rfl (hb hby at_99) rfl rfl ?_
      show Steps p.tables e below (T23.setTop (mkF m 101 #[.val (.int p1), .val (.int p2), .val (.int p3), .val (.int (2 : Int32)), .val (.int k), .val (.ref t), .val (.ref g0), .val (.ref g1), .val (.ref g2), .val (.ref g3), .unset] [(.ref t)])) _
      refine XS.aload X23.here hx rfl (hb hby at_101) rfl rfl ?_
      exact uK
    obtain ⟨cq24, kq24, qa24, qb24, qc24⟩ := isOf hZ rfl (Ec23)
    obtain ⟨_, _, ⟨T24, L24, k24, n24⟩, -, X24, ⟨Lc24, hQ24, l24, y24, z24⟩, st24⟩ := X23.virtualBack hx (y := (⟨"com/example/liblockmode/liblockmode/core/TransactionLocks", "log", "(Lcom/example/liblockmode/liblockmode/core/Grant;)V"⟩ : MethodName)) (z := (⟨"com/example/liblockmode/liblockmode/core/TransactionLocks", "log", "(Lcom/example/liblockmode/liblockmode/core/Grant;)V"⟩ : MethodName)) hown (mvT hZ (hw _ (List.mem_of_getElem? (i := 38) rfl))) (mvT hZ (hw _ (List.mem_of_getElem? (i := 39) rfl))) (notFace_of_selects (args := #[]) (mvT hZ (hw _ (List.mem_of_getElem? (i := 41) rfl)))) (mvT hZ (hw _ (List.mem_of_getElem? (i := 41) rfl))) (mvT hZ (hw _ (List.mem_of_getElem? (i := 40) rfl))) (by decide) (backOf (W := 0) (rm5b l Z a0 hw [] t g1 g0 g0 ((0 : Int32) + 1) T23.heap n0 Z23 Ec23 F_firstGrant23 F_lastGrant23 F_grantCount23 F_modesByObject23 Ek23_g0 Fk23_g0_nextLogged ne_t_g0 g_t g_g0 (by decide)) hZ (hw _ (List.mem_of_getElem? (i := 42) rfl)) (hw _ (List.mem_of_getElem? (i := 3) rfl)) (by decide) (by decide)) qa24 qc24 (g := (mkF m 103 #[.val (.int p1), .val (.int p2), .val (.int p3), .val (.int (2 : Int32)), .val (.int k), .val (.ref t), .val (.ref g0), .val (.ref g1), .val (.ref g2), .val (.ref g3), .unset] [(.ref g1), (.ref t)])) rfl (by rw [hml]; rfl) (Steps.refl _) (argsL := [(.ref g1)]) (rest := []) (lenOf own_pd3 rfl) rfl (by show 2 * 0 + _ ≤ _; exact Nat.le_of_eq rfl) (hb hby at_103) (fun _ _ => ⟨rfl, rfl, (by decide : 7 + 0 ≤ _), (by decide : 50 + 0 ≤ _)⟩)
    dsimp only [Pt.U, Pt.locs, Pt.cells, Pt.slots] at X24 l24 y24 z24 st24 hQ24
    subst l24 y24 z24
    obtain ⟨rfl, Nq24, Kc24, Ec24, F_firstGrant24, F_lastGrant24, F_grantCount24, F_modesByObject24, Eb24, Fnb24⟩ := hQ24
    have N24 := Fr.app N23 Nq24
    refine own_trW st24 ?_
    show OwnGoW p e below s _ _ _ T24 (mkF m 106 #[.val (.int p1), .val (.int p2), .val (.int p3), .val (.int (2 : Int32)), .val (.int k), .val (.ref t), .val (.ref g0), .val (.ref g1), .val (.ref g2), .val (.ref g3), .unset] [])
    have Ek24_g1 := (Ek23_g1).keep Kc24
    have Fk24_g1_nextLogged := (Fk23_g1_nextLogged).keep Kc24 (ninS (Ne.symm ne_t_g1) (ninS (Ne.symm ne_g0_g1) nin0))
    have Ek24_g2 := (Ek23_g2).keep Kc24
    have Fk24_g2_nextLogged := (Fk23_g2_nextLogged).keep Kc24 (ninS (Ne.symm ne_t_g2) (ninS (Ne.symm ne_g0_g2) nin0))
    have Ek24_g3 := (Ek23_g3).keep Kc24
    have Fk24_g3_nextLogged := (Fk23_g3_nextLogged).keep Kc24 (ninS (Ne.symm ne_t_g3) (ninS (Ne.symm ne_g0_g3) nin0))
    have Zk24 : k1 ≤ T24.heap.size := Nat.le_trans Zk23 Kc24.1
    have Z24 : n0 ≤ T24.heap.size := Nat.le_trans Z23 Kc24.1
    refine own_stW (T' := T24) (g' := (mkF m 130 #[.val (.int p1), .val (.int p2), .val (.int p3), .val (.int (2 : Int32)), .val (.int k), .val (.ref t), .val (.ref g0), .val (.ref g1), .val (.ref g2), .val (.ref g3), .unset] [])) (fun uT uK => ?_) ?_
    · show Steps p.tables e below (T24.setTop (mkF m 106 #[.val (.int p1), .val (.int p2), .val (.int p3), .val (.int (2 : Int32)), .val (.int k), .val (.ref t), .val (.ref g0), .val (.ref g1), .val (.ref g2), .val (.ref g3), .unset] [])) _
      refine XS.iloadN X24.here hx rfl (hb hby at_106) rfl ?_
      show Steps p.tables e below (T24.setTop (mkF m 107 #[.val (.int p1), .val (.int p2), .val (.int p3), .val (.int (2 : Int32)), .val (.int k), .val (.ref t), .val (.ref g0), .val (.ref g1), .val (.ref g2), .val (.ref g3), .unset] [(.int (2 : Int32))])) _
      refine XS.iconst X24.here hx rfl (hb hby at_107) ?_
      show Steps p.tables e below (T24.setTop (mkF m 108 #[.val (.int p1), .val (.int p2), .val (.int p3), .val (.int (2 : Int32)), .val (.int k), .val (.ref t), .val (.ref g0), .val (.ref g1), .val (.ref g2), .val (.ref g3), .unset] [(.int (2 : Int32)), (.int (2 : Int32))])) _
      refine XS.icmpYes X24.here hx rfl (pc0 := 108) (pc' := 118) rfl (hb hby at_108) rfl (XT.ii_le_t (by decide)) (by decide) (by decide) ?_
      show Steps p.tables e below (T24.setTop (mkF m 118 #[.val (.int p1), .val (.int p2), .val (.int p3), .val (.int (2 : Int32)), .val (.int k), .val (.ref t), .val (.ref g0), .val (.ref g1), .val (.ref g2), .val (.ref g3), .unset] [])) _
      refine XS.iloadN X24.here hx rfl (hb hby at_118) rfl ?_
      show Steps p.tables e below (T24.setTop (mkF m 119 #[.val (.int p1), .val (.int p2), .val (.int p3), .val (.int (2 : Int32)), .val (.int k), .val (.ref t), .val (.ref g0), .val (.ref g1), .val (.ref g2), .val (.ref g3), .unset] [(.int (2 : Int32))])) _
      refine XS.iconst X24.here hx rfl (hb hby at_119) ?_
      show Steps p.tables e below (T24.setTop (mkF m 120 #[.val (.int p1), .val (.int p2), .val (.int p3), .val (.int (2 : Int32)), .val (.int k), .val (.ref t), .val (.ref g0), .val (.ref g1), .val (.ref g2), .val (.ref g3), .unset] [(.int (3 : Int32)), (.int (2 : Int32))])) _
      refine XS.icmpYes X24.here hx rfl (pc0 := 120) (pc' := 130) rfl (hb hby at_120) rfl (XT.ii_le_t (by decide)) (by decide) (by decide) ?_
      exact uK
    rcases own_split hk with rfl | rfl | rfl | rfl | hge
    · show OwnGoW p e below s _ _ _ T24 (mkF m 130 #[.val (.int p1), .val (.int p2), .val (.int p3), .val (.int (2 : Int32)), .val (.int (0 : Int32)), .val (.ref t), .val (.ref g0), .val (.ref g1), .val (.ref g2), .val (.ref g3), .unset] [])
      refine own_stW (T' := T24) (g' := (mkF m 188 #[.val (.int p1), .val (.int p2), .val (.int p3), .val (.int (2 : Int32)), .val (.int (0 : Int32)), .val (.ref t), .val (.ref g0), .val (.ref g1), .val (.ref g2), .val (.ref g3), .val (.ref g0)] [(.int (0 : Int32)), (.ref t)])) (fun uT uK => ?_) ?_
      · show Steps p.tables e below (T24.setTop (mkF m 130 #[.val (.int p1), .val (.int p2), .val (.int p3), .val (.int (2 : Int32)), .val (.int (0 : Int32)), .val (.ref t), .val (.ref g0), .val (.ref g1), .val (.ref g2), .val (.ref g3), .unset] [])) _
        refine XS.iload X24.here hx rfl (hb hby at_130) rfl ?_
        show Steps p.tables e below (T24.setTop (mkF m 132 #[.val (.int p1), .val (.int p2), .val (.int p3), .val (.int (2 : Int32)), .val (.int (0 : Int32)), .val (.ref t), .val (.ref g0), .val (.ref g1), .val (.ref g2), .val (.ref g3), .unset] [(.int (0 : Int32))])) _
        refine XS.iloadN X24.here hx rfl (hb hby at_132) rfl ?_
        show Steps p.tables e below (T24.setTop (mkF m 133 #[.val (.int p1), .val (.int p2), .val (.int p3), .val (.int (2 : Int32)), .val (.int (0 : Int32)), .val (.ref t), .val (.ref g0), .val (.ref g1), .val (.ref g2), .val (.ref g3), .unset] [(.int (2 : Int32)), (.int (0 : Int32))])) _
        refine XS.icmpYes X24.here hx rfl (pc0 := 133) (pc' := 142) rfl (hb hby at_133) rfl (XT.ii_lt_t (by decide)) (by decide) (by decide) ?_
        show Steps p.tables e below (T24.setTop (mkF m 142 #[.val (.int p1), .val (.int p2), .val (.int p3), .val (.int (2 : Int32)), .val (.int (0 : Int32)), .val (.ref t), .val (.ref g0), .val (.ref g1), .val (.ref g2), .val (.ref g3), .unset] [])) _
        refine XS.iload X24.here hx rfl (hb hby at_142) rfl ?_
        show Steps p.tables e below (T24.setTop (mkF m 144 #[.val (.int p1), .val (.int p2), .val (.int p3), .val (.int (2 : Int32)), .val (.int (0 : Int32)), .val (.ref t), .val (.ref g0), .val (.ref g1), .val (.ref g2), .val (.ref g3), .unset] [(.int (0 : Int32))])) _
        refine XS.ifNo X24.here hx rfl (hb hby at_144) rfl (XT.i0_ne_f (by decide)) ?_
        show Steps p.tables e below (T24.setTop (mkF m 147 #[.val (.int p1), .val (.int p2), .val (.int p3), .val (.int (2 : Int32)), .val (.int (0 : Int32)), .val (.ref t), .val (.ref g0), .val (.ref g1), .val (.ref g2), .val (.ref g3), .unset] [])) _
        refine XS.aload X24.here hx rfl (hb hby at_147) rfl rfl ?_
        show Steps p.tables e below (T24.setTop (mkF m 149 #[.val (.int p1), .val (.int p2), .val (.int p3), .val (.int (2 : Int32)), .val (.int (0 : Int32)), .val (.ref t), .val (.ref g0), .val (.ref g1), .val (.ref g2), .val (.ref g3), .unset] [(.ref g0)])) _
        refine XS.astore X24.here hx rfl (hb hby at_149) rfl rfl (l' := #[.val (.int p1), .val (.int p2), .val (.int p3), .val (.int (2 : Int32)), .val (.int (0 : Int32)), .val (.ref t), .val (.ref g0), .val (.ref g1), .val (.ref g2), .val (.ref g3), .val (.ref g0)]) rfl ?_
        show Steps p.tables e below (T24.setTop (mkF m 151 #[.val (.int p1), .val (.int p2), .val (.int p3), .val (.int (2 : Int32)), .val (.int (0 : Int32)), .val (.ref t), .val (.ref g0), .val (.ref g1), .val (.ref g2), .val (.ref g3), .val (.ref g0)] [])) _
        refine XS.goto X24.here hx rfl (pc0 := 151) (pc' := 184) rfl (hb hby at_151) (by decide) (by decide) ?_
        show Steps p.tables e below (T24.setTop (mkF m 184 #[.val (.int p1), .val (.int p2), .val (.int p3), .val (.int (2 : Int32)), .val (.int (0 : Int32)), .val (.ref t), .val (.ref g0), .val (.ref g1), .val (.ref g2), .val (.ref g3), .val (.ref g0)] [])) _
        refine XS.aload X24.here hx rfl (hb hby at_184) rfl rfl ?_
        show Steps p.tables e below (T24.setTop (mkF m 186 #[.val (.int p1), .val (.int p2), .val (.int p3), .val (.int (2 : Int32)), .val (.int (0 : Int32)), .val (.ref t), .val (.ref g0), .val (.ref g1), .val (.ref g2), .val (.ref g3), .val (.ref g0)] [(.ref t)])) _
        refine XS.iload X24.here hx rfl (hb hby at_186) rfl ?_
        exact uK
      obtain ⟨cq25, kq25, qa25, qb25, qc25⟩ := isOf hZ rfl (Ec24)
      obtain ⟨_, _, ⟨T25, L25, k25, n25⟩, -, X25, ⟨Lc25, hQ25, l25, y25, z25⟩, st25⟩ := X24.virtualBack hx (y := (⟨"com/example/liblockmode/liblockmode/core/TransactionLocks", "grantAfter", "(I)Lcom/example/liblockmode/liblockmode/core/Grant;"⟩ : MethodName)) (z := (⟨"com/example/liblockmode/liblockmode/core/TransactionLocks", "grantAfter", "(I)Lcom/example/liblockmode/liblockmode/core/Grant;"⟩ : MethodName)) hown (mvT hZ (hw _ (List.mem_of_getElem? (i := 31) rfl))) (mvT hZ (hw _ (List.mem_of_getElem? (i := 32) rfl))) (notFace_of_selects (args := #[]) (mvT hZ (hw _ (List.mem_of_getElem? (i := 34) rfl)))) (mvT hZ (hw _ (List.mem_of_getElem? (i := 34) rfl))) (mvT hZ (hw _ (List.mem_of_getElem? (i := 33) rfl))) (by decide) (backOf (W := 0) (rm4 l Z a0 hw [] t (0 : Int32) [g0, g1] (0) (.ref g0) (.ref g0) T24.heap n0 Z24 F_firstGrant24 ⟨rfl, _, Fnb24, ⟨rfl, _, Fk24_g1_nextLogged, rfl⟩⟩ rfl rfl) hZ (hw _ (List.mem_of_getElem? (i := 35) rfl)) (hw _ (List.mem_of_getElem? (i := 3) rfl)) (by decide) (by decide)) qa25 qc25 (g := (mkF m 188 #[.val (.int p1), .val (.int p2), .val (.int p3), .val (.int (2 : Int32)), .val (.int (0 : Int32)), .val (.ref t), .val (.ref g0), .val (.ref g1), .val (.ref g2), .val (.ref g3), .val (.ref g0)] [(.int (0 : Int32)), (.ref t)])) rfl (by rw [hml]; rfl) (Steps.refl _) (argsL := [(.int (0 : Int32))]) (rest := []) (lenOf own_pd2 rfl) rfl (by show 2 * 0 + _ ≤ _; exact Nat.le_of_eq rfl) (hb hby at_188) (fun _ _ => ⟨rfl, rfl, (by decide : 7 + 0 ≤ _), (by decide : 50 + 0 ≤ _)⟩)
      dsimp only [Pt.U, Pt.locs, Pt.cells, Pt.slots] at X25 l25 y25 z25 st25 hQ25
      subst l25 y25 z25
      obtain ⟨rfl, Nq25, e25⟩ := hQ25
      have N25 := Fr.app N24 Nq25
      refine own_trW st25 ?_
      show OwnGoW p e below s _ _ _ T25 (mkF m 191 #[.val (.int p1), .val (.int p2), .val (.int p3), .val (.int (2 : Int32)), .val (.int (0 : Int32)), .val (.ref t), .val (.ref g0), .val (.ref g1), .val (.ref g2), .val (.ref g3), .val (.ref g0)] [(.ref g0)])
      refine own_stW (T' := T25) (g' := (mkF m 201 #[.val (.int p1), .val (.int p2), .val (.int p3), .val (.int (2 : Int32)), .val (.int (0 : Int32)), .val (.ref t), .val (.ref g0), .val (.ref g1), .val (.ref g2), .val (.ref g3), .val (.ref g0)] [(.int (1 : Int32))])) (fun uT uK => ?_) ?_
      · show Steps p.tables e below (T25.setTop (mkF m 191 #[.val (.int p1), .val (.int p2), .val (.int p3), .val (.int (2 : Int32)), .val (.int (0 : Int32)), .val (.ref t), .val (.ref g0), .val (.ref g1), .val (.ref g2), .val (.ref g3), .val (.ref g0)] [(.ref g0)])) _
        refine XS.aload X25.here hx rfl (hb hby at_191) rfl rfl ?_
        show Steps p.tables e below (T25.setTop (mkF m 193 #[.val (.int p1), .val (.int p2), .val (.int p3), .val (.int (2 : Int32)), .val (.int (0 : Int32)), .val (.ref t), .val (.ref g0), .val (.ref g1), .val (.ref g2), .val (.ref g3), .val (.ref g0)] [(.ref g0), (.ref g0)])) _
        refine Jvm.RoadKit.acmp (g := (mkF m 193 #[.val (.int p1), .val (.int p2), .val (.int p3), .val (.int (2 : Int32)), .val (.int (0 : Int32)), .val (.ref t), .val (.ref g0), .val (.ref g1), .val (.ref g2), .val (.ref g3), .val (.ref g0)] [(.ref g0), (.ref g0)])) X25 hx rfl rfl rfl (pc0 := 193) (pc' := 196) (same := true) rfl (hb hby at_193) rfl (decide_eq_true (rfl)) (by decide) (by decide) ?_
        show Steps p.tables e below (T25.setTop (mkF m 196 #[.val (.int p1), .val (.int p2), .val (.int p3), .val (.int (2 : Int32)), .val (.int (0 : Int32)), .val (.ref t), .val (.ref g0), .val (.ref g1), .val (.ref g2), .val (.ref g3), .val (.ref g0)] [])) _
        refine XS.iconst X25.here hx rfl (hb hby at_196) ?_
        show Steps p.tables e below (T25.setTop (mkF m 197 #[.val (.int p1), .val (.int p2), .val (.int p3), .val (.int (2 : Int32)), .val (.int (0 : Int32)), .val (.ref t), .val (.ref g0), .val (.ref g1), .val (.ref g2), .val (.ref g3), .val (.ref g0)] [(.int (1 : Int32))])) _
        refine XS.goto X25.here hx rfl (pc0 := 197) (pc' := 201) rfl (hb hby at_197) (by decide) (by decide) ?_
        exact uK
      exact own_retW (v := some (.int (1 : Int32))) X25 hS (by rw [e25]; exact Zk24) hlk (fun h => by rw [hret] at h; cases h) (fun fs hr => retOut X25 hx hret rfl (Or.inl ⟨rfl, by simp, _, rfl⟩) (hb hby at_201) hr) ⟨rfl, N25⟩ (by decide) (by decide)
    · show OwnGoW p e below s _ _ _ T24 (mkF m 130 #[.val (.int p1), .val (.int p2), .val (.int p3), .val (.int (2 : Int32)), .val (.int (1 : Int32)), .val (.ref t), .val (.ref g0), .val (.ref g1), .val (.ref g2), .val (.ref g3), .unset] [])
      refine own_stW (T' := T24) (g' := (mkF m 188 #[.val (.int p1), .val (.int p2), .val (.int p3), .val (.int (2 : Int32)), .val (.int (1 : Int32)), .val (.ref t), .val (.ref g0), .val (.ref g1), .val (.ref g2), .val (.ref g3), .val (.ref g1)] [(.int (1 : Int32)), (.ref t)])) (fun uT uK => ?_) ?_
      · show Steps p.tables e below (T24.setTop (mkF m 130 #[.val (.int p1), .val (.int p2), .val (.int p3), .val (.int (2 : Int32)), .val (.int (1 : Int32)), .val (.ref t), .val (.ref g0), .val (.ref g1), .val (.ref g2), .val (.ref g3), .unset] [])) _
        refine XS.iload X24.here hx rfl (hb hby at_130) rfl ?_
        show Steps p.tables e below (T24.setTop (mkF m 132 #[.val (.int p1), .val (.int p2), .val (.int p3), .val (.int (2 : Int32)), .val (.int (1 : Int32)), .val (.ref t), .val (.ref g0), .val (.ref g1), .val (.ref g2), .val (.ref g3), .unset] [(.int (1 : Int32))])) _
        refine XS.iloadN X24.here hx rfl (hb hby at_132) rfl ?_
        show Steps p.tables e below (T24.setTop (mkF m 133 #[.val (.int p1), .val (.int p2), .val (.int p3), .val (.int (2 : Int32)), .val (.int (1 : Int32)), .val (.ref t), .val (.ref g0), .val (.ref g1), .val (.ref g2), .val (.ref g3), .unset] [(.int (2 : Int32)), (.int (1 : Int32))])) _
        refine XS.icmpYes X24.here hx rfl (pc0 := 133) (pc' := 142) rfl (hb hby at_133) rfl (XT.ii_lt_t (by decide)) (by decide) (by decide) ?_
        show Steps p.tables e below (T24.setTop (mkF m 142 #[.val (.int p1), .val (.int p2), .val (.int p3), .val (.int (2 : Int32)), .val (.int (1 : Int32)), .val (.ref t), .val (.ref g0), .val (.ref g1), .val (.ref g2), .val (.ref g3), .unset] [])) _
        refine XS.iload X24.here hx rfl (hb hby at_142) rfl ?_
        show Steps p.tables e below (T24.setTop (mkF m 144 #[.val (.int p1), .val (.int p2), .val (.int p3), .val (.int (2 : Int32)), .val (.int (1 : Int32)), .val (.ref t), .val (.ref g0), .val (.ref g1), .val (.ref g2), .val (.ref g3), .unset] [(.int (1 : Int32))])) _
        refine XS.ifYes X24.here hx rfl (pc0 := 144) (pc' := 154) rfl (hb hby at_144) rfl (XT.i0_ne_t (by decide)) (by decide) (by decide) ?_
        show Steps p.tables e below (T24.setTop (mkF m 154 #[.val (.int p1), .val (.int p2), .val (.int p3), .val (.int (2 : Int32)), .val (.int (1 : Int32)), .val (.ref t), .val (.ref g0), .val (.ref g1), .val (.ref g2), .val (.ref g3), .unset] [])) _
        refine XS.iload X24.here hx rfl (hb hby at_154) rfl ?_
        show Steps p.tables e below (T24.setTop (mkF m 156 #[.val (.int p1), .val (.int p2), .val (.int p3), .val (.int (2 : Int32)), .val (.int (1 : Int32)), .val (.ref t), .val (.ref g0), .val (.ref g1), .val (.ref g2), .val (.ref g3), .unset] [(.int (1 : Int32))])) _
        refine XS.iconst X24.here hx rfl (hb hby at_156) ?_
        show Steps p.tables e below (T24.setTop (mkF m 157 #[.val (.int p1), .val (.int p2), .val (.int p3), .val (.int (2 : Int32)), .val (.int (1 : Int32)), .val (.ref t), .val (.ref g0), .val (.ref g1), .val (.ref g2), .val (.ref g3), .unset] [(.int (1 : Int32)), (.int (1 : Int32))])) _
        refine XS.icmpNo X24.here hx rfl (hb hby at_157) rfl (XT.ii_ne_f (by decide)) ?_
        show Steps p.tables e below (T24.setTop (mkF m 160 #[.val (.int p1), .val (.int p2), .val (.int p3), .val (.int (2 : Int32)), .val (.int (1 : Int32)), .val (.ref t), .val (.ref g0), .val (.ref g1), .val (.ref g2), .val (.ref g3), .unset] [])) _
        refine XS.aload X24.here hx rfl (hb hby at_160) rfl rfl ?_
        show Steps p.tables e below (T24.setTop (mkF m 162 #[.val (.int p1), .val (.int p2), .val (.int p3), .val (.int (2 : Int32)), .val (.int (1 : Int32)), .val (.ref t), .val (.ref g0), .val (.ref g1), .val (.ref g2), .val (.ref g3), .unset] [(.ref g1)])) _
        refine XS.astore X24.here hx rfl (hb hby at_162) rfl rfl (l' := #[.val (.int p1), .val (.int p2), .val (.int p3), .val (.int (2 : Int32)), .val (.int (1 : Int32)), .val (.ref t), .val (.ref g0), .val (.ref g1), .val (.ref g2), .val (.ref g3), .val (.ref g1)]) rfl ?_
        show Steps p.tables e below (T24.setTop (mkF m 164 #[.val (.int p1), .val (.int p2), .val (.int p3), .val (.int (2 : Int32)), .val (.int (1 : Int32)), .val (.ref t), .val (.ref g0), .val (.ref g1), .val (.ref g2), .val (.ref g3), .val (.ref g1)] [])) _
        refine XS.goto X24.here hx rfl (pc0 := 164) (pc' := 184) rfl (hb hby at_164) (by decide) (by decide) ?_
        show Steps p.tables e below (T24.setTop (mkF m 184 #[.val (.int p1), .val (.int p2), .val (.int p3), .val (.int (2 : Int32)), .val (.int (1 : Int32)), .val (.ref t), .val (.ref g0), .val (.ref g1), .val (.ref g2), .val (.ref g3), .val (.ref g1)] [])) _
        refine XS.aload X24.here hx rfl (hb hby at_184) rfl rfl ?_
        show Steps p.tables e below (T24.setTop (mkF m 186 #[.val (.int p1), .val (.int p2), .val (.int p3), .val (.int (2 : Int32)), .val (.int (1 : Int32)), .val (.ref t), .val (.ref g0), .val (.ref g1), .val (.ref g2), .val (.ref g3), .val (.ref g1)] [(.ref t)])) _
        refine XS.iload X24.here hx rfl (hb hby at_186) rfl ?_
        exact uK
      obtain ⟨cq26, kq26, qa26, qb26, qc26⟩ := isOf hZ rfl (Ec24)
      obtain ⟨_, _, ⟨T26, L26, k26, n26⟩, -, X26, ⟨Lc26, hQ26, l26, y26, z26⟩, st26⟩ := X24.virtualBack hx (y := (⟨"com/example/liblockmode/liblockmode/core/TransactionLocks", "grantAfter", "(I)Lcom/example/liblockmode/liblockmode/core/Grant;"⟩ : MethodName)) (z := (⟨"com/example/liblockmode/liblockmode/core/TransactionLocks", "grantAfter", "(I)Lcom/example/liblockmode/liblockmode/core/Grant;"⟩ : MethodName)) hown (mvT hZ (hw _ (List.mem_of_getElem? (i := 31) rfl))) (mvT hZ (hw _ (List.mem_of_getElem? (i := 32) rfl))) (notFace_of_selects (args := #[]) (mvT hZ (hw _ (List.mem_of_getElem? (i := 34) rfl)))) (mvT hZ (hw _ (List.mem_of_getElem? (i := 34) rfl))) (mvT hZ (hw _ (List.mem_of_getElem? (i := 33) rfl))) (by decide) (backOf (W := 0) (rm4 l Z a0 hw [] t (1 : Int32) [g0, g1] (1) (.ref g0) (.ref g1) T24.heap n0 Z24 F_firstGrant24 ⟨rfl, _, Fnb24, ⟨rfl, _, Fk24_g1_nextLogged, rfl⟩⟩ rfl rfl) hZ (hw _ (List.mem_of_getElem? (i := 35) rfl)) (hw _ (List.mem_of_getElem? (i := 3) rfl)) (by decide) (by decide)) qa26 qc26 (g := (mkF m 188 #[.val (.int p1), .val (.int p2), .val (.int p3), .val (.int (2 : Int32)), .val (.int (1 : Int32)), .val (.ref t), .val (.ref g0), .val (.ref g1), .val (.ref g2), .val (.ref g3), .val (.ref g1)] [(.int (1 : Int32)), (.ref t)])) rfl (by rw [hml]; rfl) (Steps.refl _) (argsL := [(.int (1 : Int32))]) (rest := []) (lenOf own_pd2 rfl) rfl (by show 2 * 0 + _ ≤ _; exact Nat.le_of_eq rfl) (hb hby at_188) (fun _ _ => ⟨rfl, rfl, (by decide : 7 + 0 ≤ _), (by decide : 50 + 0 ≤ _)⟩)
      dsimp only [Pt.U, Pt.locs, Pt.cells, Pt.slots] at X26 l26 y26 z26 st26 hQ26
      subst l26 y26 z26
      obtain ⟨rfl, Nq26, e26⟩ := hQ26
      have N26 := Fr.app N24 Nq26
      refine own_trW st26 ?_
      show OwnGoW p e below s _ _ _ T26 (mkF m 191 #[.val (.int p1), .val (.int p2), .val (.int p3), .val (.int (2 : Int32)), .val (.int (1 : Int32)), .val (.ref t), .val (.ref g0), .val (.ref g1), .val (.ref g2), .val (.ref g3), .val (.ref g1)] [(.ref g1)])
      refine own_stW (T' := T26) (g' := (mkF m 201 #[.val (.int p1), .val (.int p2), .val (.int p3), .val (.int (2 : Int32)), .val (.int (1 : Int32)), .val (.ref t), .val (.ref g0), .val (.ref g1), .val (.ref g2), .val (.ref g3), .val (.ref g1)] [(.int (1 : Int32))])) (fun uT uK => ?_) ?_
      · show Steps p.tables e below (T26.setTop (mkF m 191 #[.val (.int p1), .val (.int p2), .val (.int p3), .val (.int (2 : Int32)), .val (.int (1 : Int32)), .val (.ref t), .val (.ref g0), .val (.ref g1), .val (.ref g2), .val (.ref g3), .val (.ref g1)] [(.ref g1)])) _
        refine XS.aload X26.here hx rfl (hb hby at_191) rfl rfl ?_
        show Steps p.tables e below (T26.setTop (mkF m 193 #[.val (.int p1), .val (.int p2), .val (.int p3), .val (.int (2 : Int32)), .val (.int (1 : Int32)), .val (.ref t), .val (.ref g0), .val (.ref g1), .val (.ref g2), .val (.ref g3), .val (.ref g1)] [(.ref g1), (.ref g1)])) _
        refine Jvm.RoadKit.acmp (g := (mkF m 193 #[.val (.int p1), .val (.int p2), .val (.int p3), .val (.int (2 : Int32)), .val (.int (1 : Int32)), .val (.ref t), .val (.ref g0), .val (.ref g1), .val (.ref g2), .val (.ref g3), .val (.ref g1)] [(.ref g1), (.ref g1)])) X26 hx rfl rfl rfl (pc0 := 193) (pc' := 196) (same := true) rfl (hb hby at_193) rfl (decide_eq_true (rfl)) (by decide) (by decide) ?_
        show Steps p.tables e below (T26.setTop (mkF m 196 #[.val (.int p1), .val (.int p2), .val (.int p3), .val (.int (2 : Int32)), .val (.int (1 : Int32)), .val (.ref t), .val (.ref g0), .val (.ref g1), .val (.ref g2), .val (.ref g3), .val (.ref g1)] [])) _
        refine XS.iconst X26.here hx rfl (hb hby at_196) ?_
        show Steps p.tables e below (T26.setTop (mkF m 197 #[.val (.int p1), .val (.int p2), .val (.int p3), .val (.int (2 : Int32)), .val (.int (1 : Int32)), .val (.ref t), .val (.ref g0), .val (.ref g1), .val (.ref g2), .val (.ref g3), .val (.ref g1)] [(.int (1 : Int32))])) _
        refine XS.goto X26.here hx rfl (pc0 := 197) (pc' := 201) rfl (hb hby at_197) (by decide) (by decide) ?_
        exact uK
      exact own_retW (v := some (.int (1 : Int32))) X26 hS (by rw [e26]; exact Zk24) hlk (fun h => by rw [hret] at h; cases h) (fun fs hr => retOut X26 hx hret rfl (Or.inl ⟨rfl, by simp, _, rfl⟩) (hb hby at_201) hr) ⟨rfl, N26⟩ (by decide) (by decide)
    · show OwnGoW p e below s _ _ _ T24 (mkF m 130 #[.val (.int p1), .val (.int p2), .val (.int p3), .val (.int (2 : Int32)), .val (.int (2 : Int32)), .val (.ref t), .val (.ref g0), .val (.ref g1), .val (.ref g2), .val (.ref g3), .unset] [])
      refine own_stW (T' := T24) (g' := (mkF m 188 #[.val (.int p1), .val (.int p2), .val (.int p3), .val (.int (2 : Int32)), .val (.int (2 : Int32)), .val (.ref t), .val (.ref g0), .val (.ref g1), .val (.ref g2), .val (.ref g3), .val .null] [(.int (2 : Int32)), (.ref t)])) (fun uT uK => ?_) ?_
      · show Steps p.tables e below (T24.setTop (mkF m 130 #[.val (.int p1), .val (.int p2), .val (.int p3), .val (.int (2 : Int32)), .val (.int (2 : Int32)), .val (.ref t), .val (.ref g0), .val (.ref g1), .val (.ref g2), .val (.ref g3), .unset] [])) _
        refine XS.iload X24.here hx rfl (hb hby at_130) rfl ?_
        show Steps p.tables e below (T24.setTop (mkF m 132 #[.val (.int p1), .val (.int p2), .val (.int p3), .val (.int (2 : Int32)), .val (.int (2 : Int32)), .val (.ref t), .val (.ref g0), .val (.ref g1), .val (.ref g2), .val (.ref g3), .unset] [(.int (2 : Int32))])) _
        refine XS.iloadN X24.here hx rfl (hb hby at_132) rfl ?_
        show Steps p.tables e below (T24.setTop (mkF m 133 #[.val (.int p1), .val (.int p2), .val (.int p3), .val (.int (2 : Int32)), .val (.int (2 : Int32)), .val (.ref t), .val (.ref g0), .val (.ref g1), .val (.ref g2), .val (.ref g3), .unset] [(.int (2 : Int32)), (.int (2 : Int32))])) _
        refine XS.icmpNo X24.here hx rfl (hb hby at_133) rfl (XT.ii_lt_f (by decide)) ?_
        show Steps p.tables e below (T24.setTop (mkF m 136 #[.val (.int p1), .val (.int p2), .val (.int p3), .val (.int (2 : Int32)), .val (.int (2 : Int32)), .val (.ref t), .val (.ref g0), .val (.ref g1), .val (.ref g2), .val (.ref g3), .unset] [])) _
        refine XS.aconstNull X24.here hx rfl (hb hby at_136) ?_
        show Steps p.tables e below (T24.setTop (mkF m 137 #[.val (.int p1), .val (.int p2), .val (.int p3), .val (.int (2 : Int32)), .val (.int (2 : Int32)), .val (.ref t), .val (.ref g0), .val (.ref g1), .val (.ref g2), .val (.ref g3), .unset] [.null])) _
        refine XS.astore X24.here hx rfl (hb hby at_137) rfl rfl (l' := #[.val (.int p1), .val (.int p2), .val (.int p3), .val (.int (2 : Int32)), .val (.int (2 : Int32)), .val (.ref t), .val (.ref g0), .val (.ref g1), .val (.ref g2), .val (.ref g3), .val .null]) rfl ?_
        show Steps p.tables e below (T24.setTop (mkF m 139 #[.val (.int p1), .val (.int p2), .val (.int p3), .val (.int (2 : Int32)), .val (.int (2 : Int32)), .val (.ref t), .val (.ref g0), .val (.ref g1), .val (.ref g2), .val (.ref g3), .val .null] [])) _
        refine XS.goto X24.here hx rfl (pc0 := 139) (pc' := 184) rfl (hb hby at_139) (by decide) (by decide) ?_
        show Steps p.tables e below (T24.setTop (mkF m 184 #[.val (.int p1), .val (.int p2), .val (.int p3), .val (.int (2 : Int32)), .val (.int (2 : Int32)), .val (.ref t), .val (.ref g0), .val (.ref g1), .val (.ref g2), .val (.ref g3), .val .null] [])) _
        refine XS.aload X24.here hx rfl (hb hby at_184) rfl rfl ?_
        show Steps p.tables e below (T24.setTop (mkF m 186 #[.val (.int p1), .val (.int p2), .val (.int p3), .val (.int (2 : Int32)), .val (.int (2 : Int32)), .val (.ref t), .val (.ref g0), .val (.ref g1), .val (.ref g2), .val (.ref g3), .val .null] [(.ref t)])) _
        refine XS.iload X24.here hx rfl (hb hby at_186) rfl ?_
        exact uK
      obtain ⟨cq27, kq27, qa27, qb27, qc27⟩ := isOf hZ rfl (Ec24)
      obtain ⟨_, _, ⟨T27, L27, k27, n27⟩, -, X27, ⟨Lc27, hQ27, l27, y27, z27⟩, st27⟩ := X24.virtualBack hx (y := (⟨"com/example/liblockmode/liblockmode/core/TransactionLocks", "grantAfter", "(I)Lcom/example/liblockmode/liblockmode/core/Grant;"⟩ : MethodName)) (z := (⟨"com/example/liblockmode/liblockmode/core/TransactionLocks", "grantAfter", "(I)Lcom/example/liblockmode/liblockmode/core/Grant;"⟩ : MethodName)) hown (mvT hZ (hw _ (List.mem_of_getElem? (i := 31) rfl))) (mvT hZ (hw _ (List.mem_of_getElem? (i := 32) rfl))) (notFace_of_selects (args := #[]) (mvT hZ (hw _ (List.mem_of_getElem? (i := 34) rfl)))) (mvT hZ (hw _ (List.mem_of_getElem? (i := 34) rfl))) (mvT hZ (hw _ (List.mem_of_getElem? (i := 33) rfl))) (by decide) (backOf (W := 0) (rm4 l Z a0 hw [] t (2 : Int32) [g0, g1] (2) (.ref g0) .null T24.heap n0 Z24 F_firstGrant24 ⟨rfl, _, Fnb24, ⟨rfl, _, Fk24_g1_nextLogged, rfl⟩⟩ rfl rfl) hZ (hw _ (List.mem_of_getElem? (i := 35) rfl)) (hw _ (List.mem_of_getElem? (i := 3) rfl)) (by decide) (by decide)) qa27 qc27 (g := (mkF m 188 #[.val (.int p1), .val (.int p2), .val (.int p3), .val (.int (2 : Int32)), .val (.int (2 : Int32)), .val (.ref t), .val (.ref g0), .val (.ref g1), .val (.ref g2), .val (.ref g3), .val .null] [(.int (2 : Int32)), (.ref t)])) rfl (by rw [hml]; rfl) (Steps.refl _) (argsL := [(.int (2 : Int32))]) (rest := []) (lenOf own_pd2 rfl) rfl (by show 2 * 0 + _ ≤ _; exact Nat.le_of_eq rfl) (hb hby at_188) (fun _ _ => ⟨rfl, rfl, (by decide : 7 + 0 ≤ _), (by decide : 50 + 0 ≤ _)⟩)
      dsimp only [Pt.U, Pt.locs, Pt.cells, Pt.slots] at X27 l27 y27 z27 st27 hQ27
      subst l27 y27 z27
      obtain ⟨rfl, Nq27, e27⟩ := hQ27
      have N27 := Fr.app N24 Nq27
      refine own_trW st27 ?_
      show OwnGoW p e below s _ _ _ T27 (mkF m 191 #[.val (.int p1), .val (.int p2), .val (.int p3), .val (.int (2 : Int32)), .val (.int (2 : Int32)), .val (.ref t), .val (.ref g0), .val (.ref g1), .val (.ref g2), .val (.ref g3), .val .null] [.null])
      refine own_stW (T' := T27) (g' := (mkF m 201 #[.val (.int p1), .val (.int p2), .val (.int p3), .val (.int (2 : Int32)), .val (.int (2 : Int32)), .val (.ref t), .val (.ref g0), .val (.ref g1), .val (.ref g2), .val (.ref g3), .val .null] [(.int (1 : Int32))])) (fun uT uK => ?_) ?_
      · show Steps p.tables e below (T27.setTop (mkF m 191 #[.val (.int p1), .val (.int p2), .val (.int p3), .val (.int (2 : Int32)), .val (.int (2 : Int32)), .val (.ref t), .val (.ref g0), .val (.ref g1), .val (.ref g2), .val (.ref g3), .val .null] [.null])) _
        refine XS.aload X27.here hx rfl (hb hby at_191) rfl rfl ?_
        show Steps p.tables e below (T27.setTop (mkF m 193 #[.val (.int p1), .val (.int p2), .val (.int p3), .val (.int (2 : Int32)), .val (.int (2 : Int32)), .val (.ref t), .val (.ref g0), .val (.ref g1), .val (.ref g2), .val (.ref g3), .val .null] [.null, .null])) _
        refine Jvm.RoadKit.acmp (g := (mkF m 193 #[.val (.int p1), .val (.int p2), .val (.int p3), .val (.int (2 : Int32)), .val (.int (2 : Int32)), .val (.ref t), .val (.ref g0), .val (.ref g1), .val (.ref g2), .val (.ref g3), .val .null] [.null, .null])) X27 hx rfl rfl rfl (pc0 := 193) (pc' := 196) (same := true) rfl (hb hby at_193) rfl (decide_eq_true (rfl)) (by decide) (by decide) ?_
        show Steps p.tables e below (T27.setTop (mkF m 196 #[.val (.int p1), .val (.int p2), .val (.int p3), .val (.int (2 : Int32)), .val (.int (2 : Int32)), .val (.ref t), .val (.ref g0), .val (.ref g1), .val (.ref g2), .val (.ref g3), .val .null] [])) _
        refine XS.iconst X27.here hx rfl (hb hby at_196) ?_
        show Steps p.tables e below (T27.setTop (mkF m 197 #[.val (.int p1), .val (.int p2), .val (.int p3), .val (.int (2 : Int32)), .val (.int (2 : Int32)), .val (.ref t), .val (.ref g0), .val (.ref g1), .val (.ref g2), .val (.ref g3), .val .null] [(.int (1 : Int32))])) _
        refine XS.goto X27.here hx rfl (pc0 := 197) (pc' := 201) rfl (hb hby at_197) (by decide) (by decide) ?_
        exact uK
      exact own_retW (v := some (.int (1 : Int32))) X27 hS (by rw [e27]; exact Zk24) hlk (fun h => by rw [hret] at h; cases h) (fun fs hr => retOut X27 hx hret rfl (Or.inl ⟨rfl, by simp, _, rfl⟩) (hb hby at_201) hr) ⟨rfl, N27⟩ (by decide) (by decide)
    · show OwnGoW p e below s _ _ _ T24 (mkF m 130 #[.val (.int p1), .val (.int p2), .val (.int p3), .val (.int (2 : Int32)), .val (.int (3 : Int32)), .val (.ref t), .val (.ref g0), .val (.ref g1), .val (.ref g2), .val (.ref g3), .unset] [])
      refine own_stW (T' := T24) (g' := (mkF m 188 #[.val (.int p1), .val (.int p2), .val (.int p3), .val (.int (2 : Int32)), .val (.int (3 : Int32)), .val (.ref t), .val (.ref g0), .val (.ref g1), .val (.ref g2), .val (.ref g3), .val .null] [(.int (3 : Int32)), (.ref t)])) (fun uT uK => ?_) ?_
      · show Steps p.tables e below (T24.setTop (mkF m 130 #[.val (.int p1), .val (.int p2), .val (.int p3), .val (.int (2 : Int32)), .val (.int (3 : Int32)), .val (.ref t), .val (.ref g0), .val (.ref g1), .val (.ref g2), .val (.ref g3), .unset] [])) _
        refine XS.iload X24.here hx rfl (hb hby at_130) rfl ?_
        show Steps p.tables e below (T24.setTop (mkF m 132 #[.val (.int p1), .val (.int p2), .val (.int p3), .val (.int (2 : Int32)), .val (.int (3 : Int32)), .val (.ref t), .val (.ref g0), .val (.ref g1), .val (.ref g2), .val (.ref g3), .unset] [(.int (3 : Int32))])) _
        refine XS.iloadN X24.here hx rfl (hb hby at_132) rfl ?_
        show Steps p.tables e below (T24.setTop (mkF m 133 #[.val (.int p1), .val (.int p2), .val (.int p3), .val (.int (2 : Int32)), .val (.int (3 : Int32)), .val (.ref t), .val (.ref g0), .val (.ref g1), .val (.ref g2), .val (.ref g3), .unset] [(.int (2 : Int32)), (.int (3 : Int32))])) _
        refine XS.icmpNo X24.here hx rfl (hb hby at_133) rfl (XT.ii_lt_f (by decide)) ?_
        show Steps p.tables e below (T24.setTop (mkF m 136 #[.val (.int p1), .val (.int p2), .val (.int p3), .val (.int (2 : Int32)), .val (.int (3 : Int32)), .val (.ref t), .val (.ref g0), .val (.ref g1), .val (.ref g2), .val (.ref g3), .unset] [])) _
        refine XS.aconstNull X24.here hx rfl (hb hby at_136) ?_
        show Steps p.tables e below (T24.setTop (mkF m 137 #[.val (.int p1), .val (.int p2), .val (.int p3), .val (.int (2 : Int32)), .val (.int (3 : Int32)), .val (.ref t), .val (.ref g0), .val (.ref g1), .val (.ref g2), .val (.ref g3), .unset] [.null])) _
        refine XS.astore X24.here hx rfl (hb hby at_137) rfl rfl (l' := #[.val (.int p1), .val (.int p2), .val (.int p3), .val (.int (2 : Int32)), .val (.int (3 : Int32)), .val (.ref t), .val (.ref g0), .val (.ref g1), .val (.ref g2), .val (.ref g3), .val .null]) rfl ?_
        show Steps p.tables e below (T24.setTop (mkF m 139 #[.val (.int p1), .val (.int p2), .val (.int p3), .val (.int (2 : Int32)), .val (.int (3 : Int32)), .val (.ref t), .val (.ref g0), .val (.ref g1), .val (.ref g2), .val (.ref g3), .val .null] [])) _
        refine XS.goto X24.here hx rfl (pc0 := 139) (pc' := 184) rfl (hb hby at_139) (by decide) (by decide) ?_
        show Steps p.tables e below (T24.setTop (mkF m 184 #[.val (.int p1), .val (.int p2), .val (.int p3), .val (.int (2 : Int32)), .val (.int (3 : Int32)), .val (.ref t), .val (.ref g0), .val (.ref g1), .val (.ref g2), .val (.ref g3), .val .null] [])) _
        refine XS.aload X24.here hx rfl (hb hby at_184) rfl rfl ?_
        show Steps p.tables e below (T24.setTop (mkF m 186 #[.val (.int p1), .val (.int p2), .val (.int p3), .val (.int (2 : Int32)), .val (.int (3 : Int32)), .val (.ref t), .val (.ref g0), .val (.ref g1), .val (.ref g2), .val (.ref g3), .val .null] [(.ref t)])) _
        refine XS.iload X24.here hx rfl (hb hby at_186) rfl ?_
        exact uK
      obtain ⟨cq28, kq28, qa28, qb28, qc28⟩ := isOf hZ rfl (Ec24)
      obtain ⟨_, _, ⟨T28, L28, k28, n28⟩, -, X28, ⟨Lc28, hQ28, l28, y28, z28⟩, st28⟩ := X24.virtualBack hx (y := (⟨"com/example/liblockmode/liblockmode/core/TransactionLocks", "grantAfter", "(I)Lcom/example/liblockmode/liblockmode/core/Grant;"⟩ : MethodName)) (z := (⟨"com/example/liblockmode/liblockmode/core/TransactionLocks", "grantAfter", "(I)Lcom/example/liblockmode/liblockmode/core/Grant;"⟩ : MethodName)) hown (mvT hZ (hw _ (List.mem_of_getElem? (i := 31) rfl))) (mvT hZ (hw _ (List.mem_of_getElem? (i := 32) rfl))) (notFace_of_selects (args := #[]) (mvT hZ (hw _ (List.mem_of_getElem? (i := 34) rfl)))) (mvT hZ (hw _ (List.mem_of_getElem? (i := 34) rfl))) (mvT hZ (hw _ (List.mem_of_getElem? (i := 33) rfl))) (by decide) (backOf (W := 0) (rm4 l Z a0 hw [] t (3 : Int32) [g0, g1] (3) (.ref g0) .null T24.heap n0 Z24 F_firstGrant24 ⟨rfl, _, Fnb24, ⟨rfl, _, Fk24_g1_nextLogged, rfl⟩⟩ rfl rfl) hZ (hw _ (List.mem_of_getElem? (i := 35) rfl)) (hw _ (List.mem_of_getElem? (i := 3) rfl)) (by decide) (by decide)) qa28 qc28 (g := (mkF m 188 #[.val (.int p1), .val (.int p2), .val (.int p3), .val (.int (2 : Int32)), .val (.int (3 : Int32)), .val (.ref t), .val (.ref g0), .val (.ref g1), .val (.ref g2), .val (.ref g3), .val .null] [(.int (3 : Int32)), (.ref t)])) rfl (by rw [hml]; rfl) (Steps.refl _) (argsL := [(.int (3 : Int32))]) (rest := []) (lenOf own_pd2 rfl) rfl (by show 2 * 0 + _ ≤ _; exact Nat.le_of_eq rfl) (hb hby at_188) (fun _ _ => ⟨rfl, rfl, (by decide : 7 + 0 ≤ _), (by decide : 50 + 0 ≤ _)⟩)
      dsimp only [Pt.U, Pt.locs, Pt.cells, Pt.slots] at X28 l28 y28 z28 st28 hQ28
      subst l28 y28 z28
      obtain ⟨rfl, Nq28, e28⟩ := hQ28
      have N28 := Fr.app N24 Nq28
      refine own_trW st28 ?_
      show OwnGoW p e below s _ _ _ T28 (mkF m 191 #[.val (.int p1), .val (.int p2), .val (.int p3), .val (.int (2 : Int32)), .val (.int (3 : Int32)), .val (.ref t), .val (.ref g0), .val (.ref g1), .val (.ref g2), .val (.ref g3), .val .null] [.null])
      refine own_stW (T' := T28) (g' := (mkF m 201 #[.val (.int p1), .val (.int p2), .val (.int p3), .val (.int (2 : Int32)), .val (.int (3 : Int32)), .val (.ref t), .val (.ref g0), .val (.ref g1), .val (.ref g2), .val (.ref g3), .val .null] [(.int (1 : Int32))])) (fun uT uK => ?_) ?_
      · show Steps p.tables e below (T28.setTop (mkF m 191 #[.val (.int p1), .val (.int p2), .val (.int p3), .val (.int (2 : Int32)), .val (.int (3 : Int32)), .val (.ref t), .val (.ref g0), .val (.ref g1), .val (.ref g2), .val (.ref g3), .val .null] [.null])) _
        refine XS.aload X28.here hx rfl (hb hby at_191) rfl rfl ?_
        show Steps p.tables e below (T28.setTop (mkF m 193 #[.val (.int p1), .val (.int p2), .val (.int p3), .val (.int (2 : Int32)), .val (.int (3 : Int32)), .val (.ref t), .val (.ref g0), .val (.ref g1), .val (.ref g2), .val (.ref g3), .val .null] [.null, .null])) _
        refine Jvm.RoadKit.acmp (g := (mkF m 193 #[.val (.int p1), .val (.int p2), .val (.int p3), .val (.int (2 : Int32)), .val (.int (3 : Int32)), .val (.ref t), .val (.ref g0), .val (.ref g1), .val (.ref g2), .val (.ref g3), .val .null] [.null, .null])) X28 hx rfl rfl rfl (pc0 := 193) (pc' := 196) (same := true) rfl (hb hby at_193) rfl (decide_eq_true (rfl)) (by decide) (by decide) ?_
        show Steps p.tables e below (T28.setTop (mkF m 196 #[.val (.int p1), .val (.int p2), .val (.int p3), .val (.int (2 : Int32)), .val (.int (3 : Int32)), .val (.ref t), .val (.ref g0), .val (.ref g1), .val (.ref g2), .val (.ref g3), .val .null] [])) _
        refine XS.iconst X28.here hx rfl (hb hby at_196) ?_
        show Steps p.tables e below (T28.setTop (mkF m 197 #[.val (.int p1), .val (.int p2), .val (.int p3), .val (.int (2 : Int32)), .val (.int (3 : Int32)), .val (.ref t), .val (.ref g0), .val (.ref g1), .val (.ref g2), .val (.ref g3), .val .null] [(.int (1 : Int32))])) _
        refine XS.goto X28.here hx rfl (pc0 := 197) (pc' := 201) rfl (hb hby at_197) (by decide) (by decide) ?_
        exact uK
      exact own_retW (v := some (.int (1 : Int32))) X28 hS (by rw [e28]; exact Zk24) hlk (fun h => by rw [hret] at h; cases h) (fun fs hr => retOut X28 hx hret rfl (Or.inl ⟨rfl, by simp, _, rfl⟩) (hb hby at_201) hr) ⟨rfl, N28⟩ (by decide) (by decide)
    · show OwnGoW p e below s _ _ _ T24 (mkF m 130 #[.val (.int p1), .val (.int p2), .val (.int p3), .val (.int (2 : Int32)), .val (.int k), .val (.ref t), .val (.ref g0), .val (.ref g1), .val (.ref g2), .val (.ref g3), .unset] [])
      refine own_stW (T' := T24) (g' := (mkF m 188 #[.val (.int p1), .val (.int p2), .val (.int p3), .val (.int (2 : Int32)), .val (.int k), .val (.ref t), .val (.ref g0), .val (.ref g1), .val (.ref g2), .val (.ref g3), .val .null] [(.int k), (.ref t)])) (fun uT uK => ?_) ?_
      · show Steps p.tables e below (T24.setTop (mkF m 130 #[.val (.int p1), .val (.int p2), .val (.int p3), .val (.int (2 : Int32)), .val (.int k), .val (.ref t), .val (.ref g0), .val (.ref g1), .val (.ref g2), .val (.ref g3), .unset] [])) _
        refine XS.iload X24.here hx rfl (hb hby at_130) rfl ?_
        show Steps p.tables e below (T24.setTop (mkF m 132 #[.val (.int p1), .val (.int p2), .val (.int p3), .val (.int (2 : Int32)), .val (.int k), .val (.ref t), .val (.ref g0), .val (.ref g1), .val (.ref g2), .val (.ref g3), .unset] [(.int k)])) _
        refine XS.iloadN X24.here hx rfl (hb hby at_132) rfl ?_
        show Steps p.tables e below (T24.setTop (mkF m 133 #[.val (.int p1), .val (.int p2), .val (.int p3), .val (.int (2 : Int32)), .val (.int k), .val (.ref t), .val (.ref g0), .val (.ref g1), .val (.ref g2), .val (.ref g3), .unset] [(.int (2 : Int32)), (.int k)])) _
        refine XS.icmpNo X24.here hx rfl (hb hby at_133) rfl (XT.ii_lt_f (own_ge hge (by decide))) ?_
        show Steps p.tables e below (T24.setTop (mkF m 136 #[.val (.int p1), .val (.int p2), .val (.int p3), .val (.int (2 : Int32)), .val (.int k), .val (.ref t), .val (.ref g0), .val (.ref g1), .val (.ref g2), .val (.ref g3), .unset] [])) _
        refine XS.aconstNull X24.here hx rfl (hb hby at_136) ?_
        show Steps p.tables e below (T24.setTop (mkF m 137 #[.val (.int p1), .val (.int p2), .val (.int p3), .val (.int (2 : Int32)), .val (.int k), .val (.ref t), .val (.ref g0), .val (.ref g1), .val (.ref g2), .val (.ref g3), .unset] [.null])) _
        refine XS.astore X24.here hx rfl (hb hby at_137) rfl rfl (l' := #[.val (.int p1), .val (.int p2), .val (.int p3), .val (.int (2 : Int32)), .val (.int k), .val (.ref t), .val (.ref g0), .val (.ref g1), .val (.ref g2), .val (.ref g3), .val .null]) rfl ?_
        show Steps p.tables e below (T24.setTop (mkF m 139 #[.val (.int p1), .val (.int p2), .val (.int p3), .val (.int (2 : Int32)), .val (.int k), .val (.ref t), .val (.ref g0), .val (.ref g1), .val (.ref g2), .val (.ref g3), .val .null] [])) _
        refine XS.goto X24.here hx rfl (pc0 := 139) (pc' := 184) rfl (hb hby at_139) (by decide) (by decide) ?_
        show Steps p.tables e below (T24.setTop (mkF m 184 #[.val (.int p1), .val (.int p2), .val (.int p3), .val (.int (2 : Int32)), .val (.int k), .val (.ref t), .val (.ref g0), .val (.ref g1), .val (.ref g2), .val (.ref g3), .val .null] [])) _
        refine XS.aload X24.here hx rfl (hb hby at_184) rfl rfl ?_
        show Steps p.tables e below (T24.setTop (mkF m 186 #[.val (.int p1), .val (.int p2), .val (.int p3), .val (.int (2 : Int32)), .val (.int k), .val (.ref t), .val (.ref g0), .val (.ref g1), .val (.ref g2), .val (.ref g3), .val .null] [(.ref t)])) _
        refine XS.iload X24.here hx rfl (hb hby at_186) rfl ?_
        exact uK
      obtain ⟨cq29, kq29, qa29, qb29, qc29⟩ := isOf hZ rfl (Ec24)
      obtain ⟨_, _, ⟨T29, L29, k29, n29⟩, -, X29, ⟨Lc29, hQ29, l29, y29, z29⟩, st29⟩ := X24.virtualBack hx (y := (⟨"com/example/liblockmode/liblockmode/core/TransactionLocks", "grantAfter", "(I)Lcom/example/liblockmode/liblockmode/core/Grant;"⟩ : MethodName)) (z := (⟨"com/example/liblockmode/liblockmode/core/TransactionLocks", "grantAfter", "(I)Lcom/example/liblockmode/liblockmode/core/Grant;"⟩ : MethodName)) hown (mvT hZ (hw _ (List.mem_of_getElem? (i := 31) rfl))) (mvT hZ (hw _ (List.mem_of_getElem? (i := 32) rfl))) (notFace_of_selects (args := #[]) (mvT hZ (hw _ (List.mem_of_getElem? (i := 34) rfl)))) (mvT hZ (hw _ (List.mem_of_getElem? (i := 34) rfl))) (mvT hZ (hw _ (List.mem_of_getElem? (i := 33) rfl))) (by decide) (backOf (W := 0) (rm4 l Z a0 hw [] t k [g0, g1] (k.toInt.toNat) (.ref g0) .null T24.heap n0 Z24 F_firstGrant24 ⟨rfl, _, Fnb24, ⟨rfl, _, Fk24_g1_nextLogged, rfl⟩⟩ (by omega) (own_at_far _ _ (by show 2 ≤ _; omega))) hZ (hw _ (List.mem_of_getElem? (i := 35) rfl)) (hw _ (List.mem_of_getElem? (i := 3) rfl)) (by decide) (by decide)) qa29 qc29 (g := (mkF m 188 #[.val (.int p1), .val (.int p2), .val (.int p3), .val (.int (2 : Int32)), .val (.int k), .val (.ref t), .val (.ref g0), .val (.ref g1), .val (.ref g2), .val (.ref g3), .val .null] [(.int k), (.ref t)])) rfl (by rw [hml]; rfl) (Steps.refl _) (argsL := [(.int k)]) (rest := []) (lenOf own_pd2 rfl) rfl (by show 2 * 0 + _ ≤ _; exact Nat.le_of_eq rfl) (hb hby at_188) (fun _ _ => ⟨rfl, rfl, (by decide : 7 + 0 ≤ _), (by decide : 50 + 0 ≤ _)⟩)
      dsimp only [Pt.U, Pt.locs, Pt.cells, Pt.slots] at X29 l29 y29 z29 st29 hQ29
      subst l29 y29 z29
      obtain ⟨rfl, Nq29, e29⟩ := hQ29
      have N29 := Fr.app N24 Nq29
      refine own_trW st29 ?_
      show OwnGoW p e below s _ _ _ T29 (mkF m 191 #[.val (.int p1), .val (.int p2), .val (.int p3), .val (.int (2 : Int32)), .val (.int k), .val (.ref t), .val (.ref g0), .val (.ref g1), .val (.ref g2), .val (.ref g3), .val .null] [.null])
      refine own_stW (T' := T29) (g' := (mkF m 201 #[.val (.int p1), .val (.int p2), .val (.int p3), .val (.int (2 : Int32)), .val (.int k), .val (.ref t), .val (.ref g0), .val (.ref g1), .val (.ref g2), .val (.ref g3), .val .null] [(.int (1 : Int32))])) (fun uT uK => ?_) ?_
      · show Steps p.tables e below (T29.setTop (mkF m 191 #[.val (.int p1), .val (.int p2), .val (.int p3), .val (.int (2 : Int32)), .val (.int k), .val (.ref t), .val (.ref g0), .val (.ref g1), .val (.ref g2), .val (.ref g3), .val .null] [.null])) _
        refine XS.aload X29.here hx rfl (hb hby at_191) rfl rfl ?_
        show Steps p.tables e below (T29.setTop (mkF m 193 #[.val (.int p1), .val (.int p2), .val (.int p3), .val (.int (2 : Int32)), .val (.int k), .val (.ref t), .val (.ref g0), .val (.ref g1), .val (.ref g2), .val (.ref g3), .val .null] [.null, .null])) _
        refine Jvm.RoadKit.acmp (g := (mkF m 193 #[.val (.int p1), .val (.int p2), .val (.int p3), .val (.int (2 : Int32)), .val (.int k), .val (.ref t), .val (.ref g0), .val (.ref g1), .val (.ref g2), .val (.ref g3), .val .null] [.null, .null])) X29 hx rfl rfl rfl (pc0 := 193) (pc' := 196) (same := true) rfl (hb hby at_193) rfl (decide_eq_true (rfl)) (by decide) (by decide) ?_
        show Steps p.tables e below (T29.setTop (mkF m 196 #[.val (.int p1), .val (.int p2), .val (.int p3), .val (.int (2 : Int32)), .val (.int k), .val (.ref t), .val (.ref g0), .val (.ref g1), .val (.ref g2), .val (.ref g3), .val .null] [])) _
        refine XS.iconst X29.here hx rfl (hb hby at_196) ?_
        show Steps p.tables e below (T29.setTop (mkF m 197 #[.val (.int p1), .val (.int p2), .val (.int p3), .val (.int (2 : Int32)), .val (.int k), .val (.ref t), .val (.ref g0), .val (.ref g1), .val (.ref g2), .val (.ref g3), .val .null] [(.int (1 : Int32))])) _
        refine XS.goto X29.here hx rfl (pc0 := 197) (pc' := 201) rfl (hb hby at_197) (by decide) (by decide) ?_
        exact uK
      exact own_retW (v := some (.int (1 : Int32))) X29 hS (by rw [e29]; exact Zk24) hlk (fun h => by rw [hret] at h; cases h) (fun fs hr => retOut X29 hx hret rfl (Or.inl ⟨rfl, by simp, _, rfl⟩) (hb hby at_201) hr) ⟨rfl, N29⟩ (by decide) (by decide)
  · show OwnGoW p e below s _ _ _ T11 (mkF m 83 #[.val (.int p1), .val (.int p2), .val (.int p3), .val (.int (3 : Int32)), .val (.int k), .val (.ref t), .val (.ref g0), .val (.ref g1), .val (.ref g2), .val (.ref g3), .unset] [])
    refine own_stW (T' := T11) (g' := (mkF m 91 #[.val (.int p1), .val (.int p2), .val (.int p3), .val (.int (3 : Int32)), .val (.int k), .val (.ref t), .val (.ref g0), .val (.ref g1), .val (.ref g2), .val (.ref g3), .unset] [(.ref g0), (.ref t)])) (fun uT uK => ?_) ?_
    · show Steps p.tables e below (T11.setTop (mkF m 83 #[.val (.int p1), .val (.int p2), .val (.int p3), .val (.int (3 : Int32)), .val (.int k), .val (.ref t), .val (.ref g0), .val (.ref g1), .val (.ref g2), .val (.ref g3), .unset] [])) _
      refine XS.iloadN X11.here hx rfl (hb hby at_83) rfl ?_
      show Steps p.tables e below (T11.setTop (mkF m 84 #[.val (.int p1), .val (.int p2), .val (.int p3), .val (.int (3 : Int32)), .val (.int k), .val (.ref t), .val (.ref g0), .val (.ref g1), .val (.ref g2), .val (.ref g3), .unset] [(.int (3 : Int32))])) _
      refine XS.ifNo X11.here hx rfl (hb hby at_84) rfl (XT.i0_le_f (by decide)) ?_
      show Steps p.tables e below (T11.setTop (mkF m 87 #[.val (.int p1), .val (.int p2), .val (.int p3), .val (.int (3 : Int32)), .val (.int k), .val (.ref t), .val (.ref g0), .val (.ref g1), .val (.ref g2), .val (.ref g3), .unset] [])) _
      refine XS.aload X11.here hx rfl (hb hby at_87) rfl rfl ?_
      show Steps p.tables e below (T11.setTop (mkF m 89 #[.val (.int p1), .val (.int p2), .val (.int p3), .val (.int (3 : Int32)), .val (.int k), .val (.ref t), .val (.ref g0), .val (.ref g1), .val (.ref g2), .val (.ref g3), .unset] [(.ref t)])) _
      refine XS.aload X11.here hx rfl (hb hby at_89) rfl rfl ?_
      exact uK
    obtain ⟨cq30, kq30, qa30, qb30, qc30⟩ := isOf hZ rfl (Ek11_t)
    obtain ⟨_, _, ⟨T30, L30, k30, n30⟩, -, X30, ⟨Lc30, hQ30, l30, y30, z30⟩, st30⟩ := X11.virtualBack hx (y := (⟨"com/example/liblockmode/liblockmode/core/TransactionLocks", "log", "(Lcom/example/liblockmode/liblockmode/core/Grant;)V"⟩ : MethodName)) (z := (⟨"com/example/liblockmode/liblockmode/core/TransactionLocks", "log", "(Lcom/example/liblockmode/liblockmode/core/Grant;)V"⟩ : MethodName)) hown (mvT hZ (hw _ (List.mem_of_getElem? (i := 38) rfl))) (mvT hZ (hw _ (List.mem_of_getElem? (i := 39) rfl))) (notFace_of_selects (args := #[]) (mvT hZ (hw _ (List.mem_of_getElem? (i := 41) rfl)))) (mvT hZ (hw _ (List.mem_of_getElem? (i := 41) rfl))) (mvT hZ (hw _ (List.mem_of_getElem? (i := 40) rfl))) (by decide) (backOf (W := 0) (rm5a l Z a0 hw [] t g0 (0 : Int32) T11.heap n0 Z11 Ek11_t Fk11_t_firstGrant Fk11_t_lastGrant Fk11_t_grantCount Fk11_t_modesByObject g_t (by decide)) hZ (hw _ (List.mem_of_getElem? (i := 42) rfl)) (hw _ (List.mem_of_getElem? (i := 3) rfl)) (by decide) (by decide)) qa30 qc30 (g := (mkF m 91 #[.val (.int p1), .val (.int p2), .val (.int p3), .val (.int (3 : Int32)), .val (.int k), .val (.ref t), .val (.ref g0), .val (.ref g1), .val (.ref g2), .val (.ref g3), .unset] [(.ref g0), (.ref t)])) rfl (by rw [hml]; rfl) (Steps.refl _) (argsL := [(.ref g0)]) (rest := []) (lenOf own_pd3 rfl) rfl (by show 2 * 0 + _ ≤ _; exact Nat.le_of_eq rfl) (hb hby at_91) (fun _ _ => ⟨rfl, rfl, (by decide : 7 + 0 ≤ _), (by decide : 50 + 0 ≤ _)⟩)
    dsimp only [Pt.U, Pt.locs, Pt.cells, Pt.slots] at X30 l30 y30 z30 st30 hQ30
    subst l30 y30 z30
    obtain ⟨rfl, Nq30, Kc30, Ec30, F_firstGrant30, F_lastGrant30, F_grantCount30, F_modesByObject30⟩ := hQ30
    have N30 := Fr.app N11 Nq30
    refine own_trW st30 ?_
    show OwnGoW p e below s _ _ _ T30 (mkF m 94 #[.val (.int p1), .val (.int p2), .val (.int p3), .val (.int (3 : Int32)), .val (.int k), .val (.ref t), .val (.ref g0), .val (.ref g1), .val (.ref g2), .val (.ref g3), .unset] [])
    have Ek30_g0 := (Ek11_g0).keep Kc30
    have Fk30_g0_nextLogged := (Fk11_g0_nextLogged).keep Kc30 (ninS (Ne.symm ne_t_g0) nin0)
    have Ek30_g1 := (Ek11_g1).keep Kc30
    have Fk30_g1_nextLogged := (Fk11_g1_nextLogged).keep Kc30 (ninS (Ne.symm ne_t_g1) nin0)
    have Ek30_g2 := (Ek11_g2).keep Kc30
    have Fk30_g2_nextLogged := (Fk11_g2_nextLogged).keep Kc30 (ninS (Ne.symm ne_t_g2) nin0)
    have Ek30_g3 := (Ec11).keep Kc30
    have Fk30_g3_nextLogged := (Fn11).keep Kc30 (ninS (Ne.symm ne_t_g3) nin0)
    have Zk30 : k1 ≤ T30.heap.size := Nat.le_trans Zk11 Kc30.1
    have Z30 : n0 ≤ T30.heap.size := Nat.le_trans Z11 Kc30.1
    refine own_stW (T' := T30) (g' := (mkF m 103 #[.val (.int p1), .val (.int p2), .val (.int p3), .val (.int (3 : Int32)), .val (.int k), .val (.ref t), .val (.ref g0), .val (.ref g1), .val (.ref g2), .val (.ref g3), .unset] [(.ref g1), (.ref t)])) (fun uT uK => ?_) ?_
    · show Steps p.tables e below (T30.setTop (mkF m 94 #[.val (.int p1), .val (.int p2), .val (.int p3), .val (.int (3 : Int32)), .val (.int k), .val (.ref t), .val (.ref g0), .val (.ref g1), .val (.ref g2), .val (.ref g3), .unset] [])) _
      refine XS.iloadN X30.here hx rfl (hb hby at_94) rfl ?_
      show Steps p.tables e below (T30.setTop (mkF m 95 #[.val (.int p1), .val (.int p2), .val (.int p3), .val (.int (3 : Int32)), .val (.int k), .val (.ref t), .val (.ref g0), .val (.ref g1), .val (.ref g2), .val (.ref g3), .unset] [(.int (3 : Int32))])) _
      refine XS.iconst X30.here hx rfl (hb hby at_95) ?_
      show Steps p.tables e below (T30.setTop (mkF m 96 #[.val (.int p1), .val (.int p2), .val (.int p3), .val (.int (3 : Int32)), .val (.int k), .val (.ref t), .val (.ref g0), .val (.ref g1), .val (.ref g2), .val (.ref g3), .unset] [(.int (1 : Int32)), (.int (3 : Int32))])) _
      refine XS.icmpNo X30.here hx rfl (hb hby at_96) rfl (XT.ii_le_f (by decide)) ?_
      show Steps p.tables e below (T30.setTop (mkF m 99 #[.val (.int p1), .val (.int p2), .val (.int p3), .val (.int (3 : Int32)), .val (.int k), .val (.ref t), .val (.ref g0), .val (.ref g1), .val (.ref g2), .val (.ref g3), .unset] [])) _
      refine XS.aload X30.here hx rfl (hb hby at_99) rfl rfl ?_
      show Steps p.tables e below (T30.setTop (mkF m 101 #[.val (.int p1), .val (.int p2), .val (.int p3), .val (.int (3 : Int32)), .val (.int k), .val (.ref t), .val (.ref g0), .val (.ref g1), .val (.ref g2), .val (.ref g3), .unset] [(.ref t)])) _
      refine XS.aload X30.here hx rfl (hb hby at_101) rfl rfl ?_
      exact uK
    obtain ⟨cq31, kq31, qa31, qb31, qc31⟩ := isOf hZ rfl (Ec30)
    obtain ⟨_, _, ⟨T31, L31, k31, n31⟩, -, X31, ⟨Lc31, hQ31, l31, y31, z31⟩, st31⟩ := X30.virtualBack hx (y := (⟨"com/example/liblockmode/liblockmode/core/TransactionLocks", "log", "(Lcom/example/liblockmode/liblockmode/core/Grant;)V"⟩ : MethodName)) (z := (⟨"com/example/liblockmode/liblockmode/core/TransactionLocks", "log", "(Lcom/example/liblockmode/liblockmode/core/Grant;)V"⟩ : MethodName)) hown (mvT hZ (hw _ (List.mem_of_getElem? (i := 38) rfl))) (mvT hZ (hw _ (List.mem_of_getElem? (i := 39) rfl))) (notFace_of_selects (args := #[]) (mvT hZ (hw _ (List.mem_of_getElem? (i := 41) rfl)))) (mvT hZ (hw _ (List.mem_of_getElem? (i := 41) rfl))) (mvT hZ (hw _ (List.mem_of_getElem? (i := 40) rfl))) (by decide) (backOf (W := 0) (rm5b l Z a0 hw [] t g1 g0 g0 ((0 : Int32) + 1) T30.heap n0 Z30 Ec30 F_firstGrant30 F_lastGrant30 F_grantCount30 F_modesByObject30 Ek30_g0 Fk30_g0_nextLogged ne_t_g0 g_t g_g0 (by decide)) hZ (hw _ (List.mem_of_getElem? (i := 42) rfl)) (hw _ (List.mem_of_getElem? (i := 3) rfl)) (by decide) (by decide)) qa31 qc31 (g := (mkF m 103 #[.val (.int p1), .val (.int p2), .val (.int p3), .val (.int (3 : Int32)), .val (.int k), .val (.ref t), .val (.ref g0), .val (.ref g1), .val (.ref g2), .val (.ref g3), .unset] [(.ref g1), (.ref t)])) rfl (by rw [hml]; rfl) (Steps.refl _) (argsL := [(.ref g1)]) (rest := []) (lenOf own_pd3 rfl) rfl (by show 2 * 0 + _ ≤ _; exact Nat.le_of_eq rfl) (hb hby at_103) (fun _ _ => ⟨rfl, rfl, (by decide : 7 + 0 ≤ _), (by decide : 50 + 0 ≤ _)⟩)
    dsimp only [Pt.U, Pt.locs, Pt.cells, Pt.slots] at X31 l31 y31 z31 st31 hQ31
    subst l31 y31 z31
    obtain ⟨rfl, Nq31, Kc31, Ec31, F_firstGrant31, F_lastGrant31, F_grantCount31, F_modesByObject31, Eb31, Fnb31⟩ := hQ31
    have N31 := Fr.app N30 Nq31
    refine own_trW st31 ?_
    show OwnGoW p e below s _ _ _ T31 (mkF m 106 #[.val (.int p1), .val (.int p2), .val (.int p3), .val (.int (3 : Int32)), .val (.int k), .val (.ref t), .val (.ref g0), .val (.ref g1), .val (.ref g2), .val (.ref g3), .unset] [])
    have Ek31_g1 := (Ek30_g1).keep Kc31
    have Fk31_g1_nextLogged := (Fk30_g1_nextLogged).keep Kc31 (ninS (Ne.symm ne_t_g1) (ninS (Ne.symm ne_g0_g1) nin0))
    have Ek31_g2 := (Ek30_g2).keep Kc31
    have Fk31_g2_nextLogged := (Fk30_g2_nextLogged).keep Kc31 (ninS (Ne.symm ne_t_g2) (ninS (Ne.symm ne_g0_g2) nin0))
    have Ek31_g3 := (Ek30_g3).keep Kc31
    have Fk31_g3_nextLogged := (Fk30_g3_nextLogged).keep Kc31 (ninS (Ne.symm ne_t_g3) (ninS (Ne.symm ne_g0_g3) nin0))
    have Zk31 : k1 ≤ T31.heap.size := Nat.le_trans Zk30 Kc31.1
    have Z31 : n0 ≤ T31.heap.size := Nat.le_trans Z30 Kc31.1
    refine own_stW (T' := T31) (g' := (mkF m 115 #[.val (.int p1), .val (.int p2), .val (.int p3), .val (.int (3 : Int32)), .val (.int k), .val (.ref t), .val (.ref g0), .val (.ref g1), .val (.ref g2), .val (.ref g3), .unset] [(.ref g2), (.ref t)])) (fun uT uK => ?_) ?_
    · show Steps p.tables e below (T31.setTop (mkF m 106 #[.val (.int p1), .val (.int p2), .val (.int p3), .val (.int (3 : Int32)), .val (.int k), .val (.ref t), .val (.ref g0), .val (.ref g1), .val (.ref g2), .val (.ref g3), .unset] [])) _
      refine XS.iloadN X31.here hx rfl (hb hby at_106) rfl ?_
      show Steps p.tables e below (T31.setTop (mkF m 107 #[.val (.int p1), .val (.int p2), .val (.int p3), .val (.int (3 : Int32)), .val (.int k), .val (.ref t), .val (.ref g0), .val (.ref g1), .val (.ref g2), .val (.ref g3), .unset] [(.int (3 : Int32))])) _
      refine XS.iconst X31.here hx rfl (hb hby at_107) ?_
      show Steps p.tables e below (T31.setTop (mkF m 108 #[.val (.int p1), .val (.int p2), .val (.int p3), .val (.int (3 : Int32)), .val (.int k), .val (.ref t), .val (.ref g0), .val (.ref g1), .val (.ref g2), .val (.ref g3), .unset] [(.int (2 : Int32)), (.int (3 : Int32))])) _
      refine XS.icmpNo X31.here hx rfl (hb hby at_108) rfl (XT.ii_le_f (by decide)) ?_
      show Steps p.tables e below (T31.setTop (mkF m 111 #[.val (.int p1), .val (.int p2), .val (.int p3), .val (.int (3 : Int32)), .val (.int k), .val (.ref t), .val (.ref g0), .val (.ref g1), .val (.ref g2), .val (.ref g3), .unset] [])) _
      refine XS.aload X31.here hx rfl (hb hby at_111) rfl rfl ?_
      show Steps p.tables e below (T31.setTop (mkF m 113 #[.val (.int p1), .val (.int p2), .val (.int p3), .val (.int (3 : Int32)), .val (.int k), .val (.ref t), .val (.ref g0), .val (.ref g1), .val (.ref g2), .val (.ref g3), .unset] [(.ref t)])) _
      refine XS.aload X31.here hx rfl (hb hby at_113) rfl rfl ?_
      exact uK
    obtain ⟨cq32, kq32, qa32, qb32, qc32⟩ := isOf hZ rfl (Ec31)
    obtain ⟨_, _, ⟨T32, L32, k32, n32⟩, -, X32, ⟨Lc32, hQ32, l32, y32, z32⟩, st32⟩ := X31.virtualBack hx (y := (⟨"com/example/liblockmode/liblockmode/core/TransactionLocks", "log", "(Lcom/example/liblockmode/liblockmode/core/Grant;)V"⟩ : MethodName)) (z := (⟨"com/example/liblockmode/liblockmode/core/TransactionLocks", "log", "(Lcom/example/liblockmode/liblockmode/core/Grant;)V"⟩ : MethodName)) hown (mvT hZ (hw _ (List.mem_of_getElem? (i := 38) rfl))) (mvT hZ (hw _ (List.mem_of_getElem? (i := 39) rfl))) (notFace_of_selects (args := #[]) (mvT hZ (hw _ (List.mem_of_getElem? (i := 41) rfl)))) (mvT hZ (hw _ (List.mem_of_getElem? (i := 41) rfl))) (mvT hZ (hw _ (List.mem_of_getElem? (i := 40) rfl))) (by decide) (backOf (W := 0) (rm5b l Z a0 hw [] t g2 g0 g1 (((0 : Int32) + 1) + 1) T31.heap n0 Z31 Ec31 F_firstGrant31 F_lastGrant31 F_grantCount31 F_modesByObject31 Ek31_g1 Fk31_g1_nextLogged ne_t_g1 g_t g_g1 (by decide)) hZ (hw _ (List.mem_of_getElem? (i := 42) rfl)) (hw _ (List.mem_of_getElem? (i := 3) rfl)) (by decide) (by decide)) qa32 qc32 (g := (mkF m 115 #[.val (.int p1), .val (.int p2), .val (.int p3), .val (.int (3 : Int32)), .val (.int k), .val (.ref t), .val (.ref g0), .val (.ref g1), .val (.ref g2), .val (.ref g3), .unset] [(.ref g2), (.ref t)])) rfl (by rw [hml]; rfl) (Steps.refl _) (argsL := [(.ref g2)]) (rest := []) (lenOf own_pd3 rfl) rfl (by show 2 * 0 + _ ≤ _; exact Nat.le_of_eq rfl) (hb hby at_115) (fun _ _ => ⟨rfl, rfl, (by decide : 7 + 0 ≤ _), (by decide : 50 + 0 ≤ _)⟩)
    dsimp only [Pt.U, Pt.locs, Pt.cells, Pt.slots] at X32 l32 y32 z32 st32 hQ32
    subst l32 y32 z32
    obtain ⟨rfl, Nq32, Kc32, Ec32, F_firstGrant32, F_lastGrant32, F_grantCount32, F_modesByObject32, Eb32, Fnb32⟩ := hQ32
    have N32 := Fr.app N31 Nq32
    refine own_trW st32 ?_
    show OwnGoW p e below s _ _ _ T32 (mkF m 118 #[.val (.int p1), .val (.int p2), .val (.int p3), .val (.int (3 : Int32)), .val (.int k), .val (.ref t), .val (.ref g0), .val (.ref g1), .val (.ref g2), .val (.ref g3), .unset] [])
    have Ek32_g0 := (Eb31).keep Kc32
    have Fk32_g0_nextLogged := (Fnb31).keep Kc32 (ninS (Ne.symm ne_t_g0) (ninS ne_g0_g1 nin0))
    have Ek32_g2 := (Ek31_g2).keep Kc32
    have Fk32_g2_nextLogged := (Fk31_g2_nextLogged).keep Kc32 (ninS (Ne.symm ne_t_g2) (ninS (Ne.symm ne_g1_g2) nin0))
    have Ek32_g3 := (Ek31_g3).keep Kc32
    have Fk32_g3_nextLogged := (Fk31_g3_nextLogged).keep Kc32 (ninS (Ne.symm ne_t_g3) (ninS (Ne.symm ne_g1_g3) nin0))
    have Zk32 : k1 ≤ T32.heap.size := Nat.le_trans Zk31 Kc32.1
    have Z32 : n0 ≤ T32.heap.size := Nat.le_trans Z31 Kc32.1
    refine own_stW (T' := T32) (g' := (mkF m 130 #[.val (.int p1), .val (.int p2), .val (.int p3), .val (.int (3 : Int32)), .val (.int k), .val (.ref t), .val (.ref g0), .val (.ref g1), .val (.ref g2), .val (.ref g3), .unset] [])) (fun uT uK => ?_) ?_
    · show Steps p.tables e below (T32.setTop (mkF m 118 #[.val (.int p1), .val (.int p2), .val (.int p3), .val (.int (3 : Int32)), .val (.int k), .val (.ref t), .val (.ref g0), .val (.ref g1), .val (.ref g2), .val (.ref g3), .unset] [])) _
      refine XS.iloadN X32.here hx rfl (hb hby at_118) rfl ?_
      show Steps p.tables e below (T32.setTop (mkF m 119 #[.val (.int p1), .val (.int p2), .val (.int p3), .val (.int (3 : Int32)), .val (.int k), .val (.ref t), .val (.ref g0), .val (.ref g1), .val (.ref g2), .val (.ref g3), .unset] [(.int (3 : Int32))])) _
      refine XS.iconst X32.here hx rfl (hb hby at_119) ?_
      show Steps p.tables e below (T32.setTop (mkF m 120 #[.val (.int p1), .val (.int p2), .val (.int p3), .val (.int (3 : Int32)), .val (.int k), .val (.ref t), .val (.ref g0), .val (.ref g1), .val (.ref g2), .val (.ref g3), .unset] [(.int (3 : Int32)), (.int (3 : Int32))])) _
      refine XS.icmpYes X32.here hx rfl (pc0 := 120) (pc' := 130) rfl (hb hby at_120) rfl (XT.ii_le_t (by decide)) (by decide) (by decide) ?_
      exact uK
    rcases own_split hk with rfl | rfl | rfl | rfl | hge
    · show OwnGoW p e below s _ _ _ T32 (mkF m 130 #[.val (.int p1), .val (.int p2), .val (.int p3), .val (.int (3 : Int32)), .val (.int (0 : Int32)), .val (.ref t), .val (.ref g0), .val (.ref g1), .val (.ref g2), .val (.ref g3), .unset] [])
      refine own_stW (T' := T32) (g' := (mkF m 188 #[.val (.int p1), .val (.int p2), .val (.int p3), .val (.int (3 : Int32)), .val (.int (0 : Int32)), .val (.ref t), .val (.ref g0), .val (.ref g1), .val (.ref g2), .val (.ref g3), .val (.ref g0)] [(.int (0 : Int32)), (.ref t)])) (fun uT uK => ?_) ?_
      · show Steps p.tables e below (T32.setTop (mkF m 130 #[.val (.int p1), .val (.int p2), .val (.int p3), .val (.int (3 : Int32)), .val (.int (0 : Int32)), .val (.ref t), .val (.ref g0), .val (.ref g1), .val (.ref g2), .val (.ref g3), .unset] [])) _
        refine XS.iload X32.here hx rfl (hb hby at_130) rfl ?_
        show Steps p.tables e below (T32.setTop (mkF m 132 #[.val (.int p1), .val (.int p2), .val (.int p3), .val (.int (3 : Int32)), .val (.int (0 : Int32)), .val (.ref t), .val (.ref g0), .val (.ref g1), .val (.ref g2), .val (.ref g3), .unset] [(.int (0 : Int32))])) _
        refine XS.iloadN X32.here hx rfl (hb hby at_132) rfl ?_
        show Steps p.tables e below (T32.setTop (mkF m 133 #[.val (.int p1), .val (.int p2), .val (.int p3), .val (.int (3 : Int32)), .val (.int (0 : Int32)), .val (.ref t), .val (.ref g0), .val (.ref g1), .val (.ref g2), .val (.ref g3), .unset] [(.int (3 : Int32)), (.int (0 : Int32))])) _
        refine XS.icmpYes X32.here hx rfl (pc0 := 133) (pc' := 142) rfl (hb hby at_133) rfl (XT.ii_lt_t (by decide)) (by decide) (by decide) ?_
        show Steps p.tables e below (T32.setTop (mkF m 142 #[.val (.int p1), .val (.int p2), .val (.int p3), .val (.int (3 : Int32)), .val (.int (0 : Int32)), .val (.ref t), .val (.ref g0), .val (.ref g1), .val (.ref g2), .val (.ref g3), .unset] [])) _
        refine XS.iload X32.here hx rfl (hb hby at_142) rfl ?_
        show Steps p.tables e below (T32.setTop (mkF m 144 #[.val (.int p1), .val (.int p2), .val (.int p3), .val (.int (3 : Int32)), .val (.int (0 : Int32)), .val (.ref t), .val (.ref g0), .val (.ref g1), .val (.ref g2), .val (.ref g3), .unset] [(.int (0 : Int32))])) _
        refine XS.ifNo X32.here hx rfl (hb hby at_144) rfl (XT.i0_ne_f (by decide)) ?_
        show Steps p.tables e below (T32.setTop (mkF m 147 #[.val (.int p1), .val (.int p2), .val (.int p3), .val (.int (3 : Int32)), .val (.int (0 : Int32)), .val (.ref t), .val (.ref g0), .val (.ref g1), .val (.ref g2), .val (.ref g3), .unset] [])) _
        refine XS.aload X32.here hx rfl (hb hby at_147) rfl rfl ?_
        show Steps p.tables e below (T32.setTop (mkF m 149 #[.val (.int p1), .val (.int p2), .val (.int p3), .val (.int (3 : Int32)), .val (.int (0 : Int32)), .val (.ref t), .val (.ref g0), .val (.ref g1), .val (.ref g2), .val (.ref g3), .unset] [(.ref g0)])) _
        refine XS.astore X32.here hx rfl (hb hby at_149) rfl rfl (l' := #[.val (.int p1), .val (.int p2), .val (.int p3), .val (.int (3 : Int32)), .val (.int (0 : Int32)), .val (.ref t), .val (.ref g0), .val (.ref g1), .val (.ref g2), .val (.ref g3), .val (.ref g0)]) rfl ?_
        show Steps p.tables e below (T32.setTop (mkF m 151 #[.val (.int p1), .val (.int p2), .val (.int p3), .val (.int (3 : Int32)), .val (.int (0 : Int32)), .val (.ref t), .val (.ref g0), .val (.ref g1), .val (.ref g2), .val (.ref g3), .val (.ref g0)] [])) _
        refine XS.goto X32.here hx rfl (pc0 := 151) (pc' := 184) rfl (hb hby at_151) (by decide) (by decide) ?_
        show Steps p.tables e below (T32.setTop (mkF m 184 #[.val (.int p1), .val (.int p2), .val (.int p3), .val (.int (3 : Int32)), .val (.int (0 : Int32)), .val (.ref t), .val (.ref g0), .val (.ref g1), .val (.ref g2), .val (.ref g3), .val (.ref g0)] [])) _
        refine XS.aload X32.here hx rfl (hb hby at_184) rfl rfl ?_
        show Steps p.tables e below (T32.setTop (mkF m 186 #[.val (.int p1), .val (.int p2), .val (.int p3), .val (.int (3 : Int32)), .val (.int (0 : Int32)), .val (.ref t), .val (.ref g0), .val (.ref g1), .val (.ref g2), .val (.ref g3), .val (.ref g0)] [(.ref t)])) _
        refine XS.iload X32.here hx rfl (hb hby at_186) rfl ?_
        exact uK
      obtain ⟨cq33, kq33, qa33, qb33, qc33⟩ := isOf hZ rfl (Ec32)
      obtain ⟨_, _, ⟨T33, L33, k33, n33⟩, -, X33, ⟨Lc33, hQ33, l33, y33, z33⟩, st33⟩ := X32.virtualBack hx (y := (⟨"com/example/liblockmode/liblockmode/core/TransactionLocks", "grantAfter", "(I)Lcom/example/liblockmode/liblockmode/core/Grant;"⟩ : MethodName)) (z := (⟨"com/example/liblockmode/liblockmode/core/TransactionLocks", "grantAfter", "(I)Lcom/example/liblockmode/liblockmode/core/Grant;"⟩ : MethodName)) hown (mvT hZ (hw _ (List.mem_of_getElem? (i := 31) rfl))) (mvT hZ (hw _ (List.mem_of_getElem? (i := 32) rfl))) (notFace_of_selects (args := #[]) (mvT hZ (hw _ (List.mem_of_getElem? (i := 34) rfl)))) (mvT hZ (hw _ (List.mem_of_getElem? (i := 34) rfl))) (mvT hZ (hw _ (List.mem_of_getElem? (i := 33) rfl))) (by decide) (backOf (W := 0) (rm4 l Z a0 hw [] t (0 : Int32) [g0, g1, g2] (0) (.ref g0) (.ref g0) T32.heap n0 Z32 F_firstGrant32 ⟨rfl, _, Fk32_g0_nextLogged, ⟨rfl, _, Fnb32, ⟨rfl, _, Fk32_g2_nextLogged, rfl⟩⟩⟩ rfl rfl) hZ (hw _ (List.mem_of_getElem? (i := 35) rfl)) (hw _ (List.mem_of_getElem? (i := 3) rfl)) (by decide) (by decide)) qa33 qc33 (g := (mkF m 188 #[.val (.int p1), .val (.int p2), .val (.int p3), .val (.int (3 : Int32)), .val (.int (0 : Int32)), .val (.ref t), .val (.ref g0), .val (.ref g1), .val (.ref g2), .val (.ref g3), .val (.ref g0)] [(.int (0 : Int32)), (.ref t)])) rfl (by rw [hml]; rfl) (Steps.refl _) (argsL := [(.int (0 : Int32))]) (rest := []) (lenOf own_pd2 rfl) rfl (by show 2 * 0 + _ ≤ _; exact Nat.le_of_eq rfl) (hb hby at_188) (fun _ _ => ⟨rfl, rfl, (by decide : 7 + 0 ≤ _), (by decide : 50 + 0 ≤ _)⟩)
      dsimp only [Pt.U, Pt.locs, Pt.cells, Pt.slots] at X33 l33 y33 z33 st33 hQ33
      subst l33 y33 z33
      obtain ⟨rfl, Nq33, e33⟩ := hQ33
      have N33 := Fr.app N32 Nq33
      refine own_trW st33 ?_
      show OwnGoW p e below s _ _ _ T33 (mkF m 191 #[.val (.int p1), .val (.int p2), .val (.int p3), .val (.int (3 : Int32)), .val (.int (0 : Int32)), .val (.ref t), .val (.ref g0), .val (.ref g1), .val (.ref g2), .val (.ref g3), .val (.ref g0)] [(.ref g0)])
      refine own_stW (T' := T33) (g' := (mkF m 201 #[.val (.int p1), .val (.int p2), .val (.int p3), .val (.int (3 : Int32)), .val (.int (0 : Int32)), .val (.ref t), .val (.ref g0), .val (.ref g1), .val (.ref g2), .val (.ref g3), .val (.ref g0)] [(.int (1 : Int32))])) (fun uT uK => ?_) ?_
      · show Steps p.tables e below (T33.setTop (mkF m 191 #[.val (.int p1), .val (.int p2), .val (.int p3), .val (.int (3 : Int32)), .val (.int (0 : Int32)), .val (.ref t), .val (.ref g0), .val (.ref g1), .val (.ref g2), .val (.ref g3), .val (.ref g0)] [(.ref g0)])) _
        refine XS.aload X33.here hx rfl (hb hby at_191) rfl rfl ?_
        show Steps p.tables e below (T33.setTop (mkF m 193 #[.val (.int p1), .val (.int p2), .val (.int p3), .val (.int (3 : Int32)), .val (.int (0 : Int32)), .val (.ref t), .val (.ref g0), .val (.ref g1), .val (.ref g2), .val (.ref g3), .val (.ref g0)] [(.ref g0), (.ref g0)])) _
        refine Jvm.RoadKit.acmp (g := (mkF m 193 #[.val (.int p1), .val (.int p2), .val (.int p3), .val (.int (3 : Int32)), .val (.int (0 : Int32)), .val (.ref t), .val (.ref g0), .val (.ref g1), .val (.ref g2), .val (.ref g3), .val (.ref g0)] [(.ref g0), (.ref g0)])) X33 hx rfl rfl rfl (pc0 := 193) (pc' := 196) (same := true) rfl (hb hby at_193) rfl (decide_eq_true (rfl)) (by decide) (by decide) ?_
        show Steps p.tables e below (T33.setTop (mkF m 196 #[.val (.int p1), .val (.int p2), .val (.int p3), .val (.int (3 : Int32)), .val (.int (0 : Int32)), .val (.ref t), .val (.ref g0), .val (.ref g1), .val (.ref g2), .val (.ref g3), .val (.ref g0)] [])) _
        refine XS.iconst X33.here hx rfl (hb hby at_196) ?_
        show Steps p.tables e below (T33.setTop (mkF m 197 #[.val (.int p1), .val (.int p2), .val (.int p3), .val (.int (3 : Int32)), .val (.int (0 : Int32)), .val (.ref t), .val (.ref g0), .val (.ref g1), .val (.ref g2), .val (.ref g3), .val (.ref g0)] [(.int (1 : Int32))])) _
        refine XS.goto X33.here hx rfl (pc0 := 197) (pc' := 201) rfl (hb hby at_197) (by decide) (by decide) ?_
        exact uK
      exact own_retW (v := some (.int (1 : Int32))) X33 hS (by rw [e33]; exact Zk32) hlk (fun h => by rw [hret] at h; cases h) (fun fs hr => retOut X33 hx hret rfl (Or.inl ⟨rfl, by simp, _, rfl⟩) (hb hby at_201) hr) ⟨rfl, N33⟩ (by decide) (by decide)
    · show OwnGoW p e below s _ _ _ T32 (mkF m 130 #[.val (.int p1), .val (.int p2), .val (.int p3), .val (.int (3 : Int32)), .val (.int (1 : Int32)), .val (.ref t), .val (.ref g0), .val (.ref g1), .val (.ref g2), .val (.ref g3), .unset] [])
      refine own_stW (T' := T32) (g' := (mkF m 188 #[.val (.int p1), .val (.int p2), .val (.int p3), .val (.int (3 : Int32)), .val (.int (1 : Int32)), .val (.ref t), .val (.ref g0), .val (.ref g1), .val (.ref g2), .val (.ref g3), .val (.ref g1)] [(.int (1 : Int32)), (.ref t)])) (fun uT uK => ?_) ?_
      · show Steps p.tables e below (T32.setTop (mkF m 130 #[.val (.int p1), .val (.int p2), .val (.int p3), .val (.int (3 : Int32)), .val (.int (1 : Int32)), .val (.ref t), .val (.ref g0), .val (.ref g1), .val (.ref g2), .val (.ref g3), .unset] [])) _
        refine XS.iload X32.here hx rfl (hb hby at_130) rfl ?_
        show Steps p.tables e below (T32.setTop (mkF m 132 #[.val (.int p1), .val (.int p2), .val (.int p3), .val (.int (3 : Int32)), .val (.int (1 : Int32)), .val (.ref t), .val (.ref g0), .val (.ref g1), .val (.ref g2), .val (.ref g3), .unset] [(.int (1 : Int32))])) _
        refine XS.iloadN X32.here hx rfl (hb hby at_132) rfl ?_
        show Steps p.tables e below (T32.setTop (mkF m 133 #[.val (.int p1), .val (.int p2), .val (.int p3), .val (.int (3 : Int32)), .val (.int (1 : Int32)), .val (.ref t), .val (.ref g0), .val (.ref g1), .val (.ref g2), .val (.ref g3), .unset] [(.int (3 : Int32)), (.int (1 : Int32))])) _
        refine XS.icmpYes X32.here hx rfl (pc0 := 133) (pc' := 142) rfl (hb hby at_133) rfl (XT.ii_lt_t (by decide)) (by decide) (by decide) ?_
        show Steps p.tables e below (T32.setTop (mkF m 142 #[.val (.int p1), .val (.int p2), .val (.int p3), .val (.int (3 : Int32)), .val (.int (1 : Int32)), .val (.ref t), .val (.ref g0), .val (.ref g1), .val (.ref g2), .val (.ref g3), .unset] [])) _
        refine XS.iload X32.here hx rfl (hb hby at_142) rfl ?_
        show Steps p.tables e below (T32.setTop (mkF m 144 #[.val (.int p1), .val (.int p2), .val (.int p3), .val (.int (3 : Int32)), .val (.int (1 : Int32)), .val (.ref t), .val (.ref g0), .val (.ref g1), .val (.ref g2), .val (.ref g3), .unset] [(.int (1 : Int32))])) _
        refine XS.ifYes X32.here hx rfl (pc0 := 144) (pc' := 154) rfl (hb hby at_144) rfl (XT.i0_ne_t (by decide)) (by decide) (by decide) ?_
        show Steps p.tables e below (T32.setTop (mkF m 154 #[.val (.int p1), .val (.int p2), .val (.int p3), .val (.int (3 : Int32)), .val (.int (1 : Int32)), .val (.ref t), .val (.ref g0), .val (.ref g1), .val (.ref g2), .val (.ref g3), .unset] [])) _
        refine XS.iload X32.here hx rfl (hb hby at_154) rfl ?_
        show Steps p.tables e below (T32.setTop (mkF m 156 #[.val (.int p1), .val (.int p2), .val (.int p3), .val (.int (3 : Int32)), .val (.int (1 : Int32)), .val (.ref t), .val (.ref g0), .val (.ref g1), .val (.ref g2), .val (.ref g3), .unset] [(.int (1 : Int32))])) _
        refine XS.iconst X32.here hx rfl (hb hby at_156) ?_
        show Steps p.tables e below (T32.setTop (mkF m 157 #[.val (.int p1), .val (.int p2), .val (.int p3), .val (.int (3 : Int32)), .val (.int (1 : Int32)), .val (.ref t), .val (.ref g0), .val (.ref g1), .val (.ref g2), .val (.ref g3), .unset] [(.int (1 : Int32)), (.int (1 : Int32))])) _
        refine XS.icmpNo X32.here hx rfl (hb hby at_157) rfl (XT.ii_ne_f (by decide)) ?_
        show Steps p.tables e below (T32.setTop (mkF m 160 #[.val (.int p1), .val (.int p2), .val (.int p3), .val (.int (3 : Int32)), .val (.int (1 : Int32)), .val (.ref t), .val (.ref g0), .val (.ref g1), .val (.ref g2), .val (.ref g3), .unset] [])) _
        refine XS.aload X32.here hx rfl (hb hby at_160) rfl rfl ?_
        show Steps p.tables e below (T32.setTop (mkF m 162 #[.val (.int p1), .val (.int p2), .val (.int p3), .val (.int (3 : Int32)), .val (.int (1 : Int32)), .val (.ref t), .val (.ref g0), .val (.ref g1), .val (.ref g2), .val (.ref g3), .unset] [(.ref g1)])) _
        refine XS.astore X32.here hx rfl (hb hby at_162) rfl rfl (l' := #[.val (.int p1), .val (.int p2), .val (.int p3), .val (.int (3 : Int32)), .val (.int (1 : Int32)), .val (.ref t), .val (.ref g0), .val (.ref g1), .val (.ref g2), .val (.ref g3), .val (.ref g1)]) rfl ?_
        show Steps p.tables e below (T32.setTop (mkF m 164 #[.val (.int p1), .val (.int p2), .val (.int p3), .val (.int (3 : Int32)), .val (.int (1 : Int32)), .val (.ref t), .val (.ref g0), .val (.ref g1), .val (.ref g2), .val (.ref g3), .val (.ref g1)] [])) _
        refine XS.goto X32.here hx rfl (pc0 := 164) (pc' := 184) rfl (hb hby at_164) (by decide) (by decide) ?_
        show Steps p.tables e below (T32.setTop (mkF m 184 #[.val (.int p1), .val (.int p2), .val (.int p3), .val (.int (3 : Int32)), .val (.int (1 : Int32)), .val (.ref t), .val (.ref g0), .val (.ref g1), .val (.ref g2), .val (.ref g3), .val (.ref g1)] [])) _
        refine XS.aload X32.here hx rfl (hb hby at_184) rfl rfl ?_
        show Steps p.tables e below (T32.setTop (mkF m 186 #[.val (.int p1), .val (.int p2), .val (.int p3), .val (.int (3 : Int32)), .val (.int (1 : Int32)), .val (.ref t), .val (.ref g0), .val (.ref g1), .val (.ref g2), .val (.ref g3), .val (.ref g1)] [(.ref t)])) _
        refine XS.iload X32.here hx rfl (hb hby at_186) rfl ?_
        exact uK
      obtain ⟨cq34, kq34, qa34, qb34, qc34⟩ := isOf hZ rfl (Ec32)
      obtain ⟨_, _, ⟨T34, L34, k34, n34⟩, -, X34, ⟨Lc34, hQ34, l34, y34, z34⟩, st34⟩ := X32.virtualBack hx (y := (⟨"com/example/liblockmode/liblockmode/core/TransactionLocks", "grantAfter", "(I)Lcom/example/liblockmode/liblockmode/core/Grant;"⟩ : MethodName)) (z := (⟨"com/example/liblockmode/liblockmode/core/TransactionLocks", "grantAfter", "(I)Lcom/example/liblockmode/liblockmode/core/Grant;"⟩ : MethodName)) hown (mvT hZ (hw _ (List.mem_of_getElem? (i := 31) rfl))) (mvT hZ (hw _ (List.mem_of_getElem? (i := 32) rfl))) (notFace_of_selects (args := #[]) (mvT hZ (hw _ (List.mem_of_getElem? (i := 34) rfl)))) (mvT hZ (hw _ (List.mem_of_getElem? (i := 34) rfl))) (mvT hZ (hw _ (List.mem_of_getElem? (i := 33) rfl))) (by decide) (backOf (W := 0) (rm4 l Z a0 hw [] t (1 : Int32) [g0, g1, g2] (1) (.ref g0) (.ref g1) T32.heap n0 Z32 F_firstGrant32 ⟨rfl, _, Fk32_g0_nextLogged, ⟨rfl, _, Fnb32, ⟨rfl, _, Fk32_g2_nextLogged, rfl⟩⟩⟩ rfl rfl) hZ (hw _ (List.mem_of_getElem? (i := 35) rfl)) (hw _ (List.mem_of_getElem? (i := 3) rfl)) (by decide) (by decide)) qa34 qc34 (g := (mkF m 188 #[.val (.int p1), .val (.int p2), .val (.int p3), .val (.int (3 : Int32)), .val (.int (1 : Int32)), .val (.ref t), .val (.ref g0), .val (.ref g1), .val (.ref g2), .val (.ref g3), .val (.ref g1)] [(.int (1 : Int32)), (.ref t)])) rfl (by rw [hml]; rfl) (Steps.refl _) (argsL := [(.int (1 : Int32))]) (rest := []) (lenOf own_pd2 rfl) rfl (by show 2 * 0 + _ ≤ _; exact Nat.le_of_eq rfl) (hb hby at_188) (fun _ _ => ⟨rfl, rfl, (by decide : 7 + 0 ≤ _), (by decide : 50 + 0 ≤ _)⟩)
      dsimp only [Pt.U, Pt.locs, Pt.cells, Pt.slots] at X34 l34 y34 z34 st34 hQ34
      subst l34 y34 z34
      obtain ⟨rfl, Nq34, e34⟩ := hQ34
      have N34 := Fr.app N32 Nq34
      refine own_trW st34 ?_
      show OwnGoW p e below s _ _ _ T34 (mkF m 191 #[.val (.int p1), .val (.int p2), .val (.int p3), .val (.int (3 : Int32)), .val (.int (1 : Int32)), .val (.ref t), .val (.ref g0), .val (.ref g1), .val (.ref g2), .val (.ref g3), .val (.ref g1)] [(.ref g1)])
      refine own_stW (T' := T34) (g' := (mkF m 201 #[.val (.int p1), .val (.int p2), .val (.int p3), .val (.int (3 : Int32)), .val (.int (1 : Int32)), .val (.ref t), .val (.ref g0), .val (.ref g1), .val (.ref g2), .val (.ref g3), .val (.ref g1)] [(.int (1 : Int32))])) (fun uT uK => ?_) ?_
      · show Steps p.tables e below (T34.setTop (mkF m 191 #[.val (.int p1), .val (.int p2), .val (.int p3), .val (.int (3 : Int32)), .val (.int (1 : Int32)), .val (.ref t), .val (.ref g0), .val (.ref g1), .val (.ref g2), .val (.ref g3), .val (.ref g1)] [(.ref g1)])) _
        refine XS.aload X34.here hx rfl (hb hby at_191) rfl rfl ?_
        show Steps p.tables e below (T34.setTop (mkF m 193 #[.val (.int p1), .val (.int p2), .val (.int p3), .val (.int (3 : Int32)), .val (.int (1 : Int32)), .val (.ref t), .val (.ref g0), .val (.ref g1), .val (.ref g2), .val (.ref g3), .val (.ref g1)] [(.ref g1), (.ref g1)])) _
        refine Jvm.RoadKit.acmp (g := (mkF m 193 #[.val (.int p1), .val (.int p2), .val (.int p3), .val (.int (3 : Int32)), .val (.int (1 : Int32)), .val (.ref t), .val (.ref g0), .val (.ref g1), .val (.ref g2), .val (.ref g3), .val (.ref g1)] [(.ref g1), (.ref g1)])) X34 hx rfl rfl rfl (pc0 := 193) (pc' := 196) (same := true) rfl (hb hby at_193) rfl (decide_eq_true (rfl)) (by decide) (by decide) ?_
        show Steps p.tables e below (T34.setTop (mkF m 196 #[.val (.int p1), .val (.int p2), .val (.int p3), .val (.int (3 : Int32)), .val (.int (1 : Int32)), .val (.ref t), .val (.ref g0), .val (.ref g1), .val (.ref g2), .val (.ref g3), .val (.ref g1)] [])) _
        refine XS.iconst X34.here hx rfl (hb hby at_196) ?_
        show Steps p.tables e below (T34.setTop (mkF m 197 #[.val (.int p1), .val (.int p2), .val (.int p3), .val (.int (3 : Int32)), .val (.int (1 : Int32)), .val (.ref t), .val (.ref g0), .val (.ref g1), .val (.ref g2), .val (.ref g3), .val (.ref g1)] [(.int (1 : Int32))])) _
        refine XS.goto X34.here hx rfl (pc0 := 197) (pc' := 201) rfl (hb hby at_197) (by decide) (by decide) ?_
        exact uK
      exact own_retW (v := some (.int (1 : Int32))) X34 hS (by rw [e34]; exact Zk32) hlk (fun h => by rw [hret] at h; cases h) (fun fs hr => retOut X34 hx hret rfl (Or.inl ⟨rfl, by simp, _, rfl⟩) (hb hby at_201) hr) ⟨rfl, N34⟩ (by decide) (by decide)
    · show OwnGoW p e below s _ _ _ T32 (mkF m 130 #[.val (.int p1), .val (.int p2), .val (.int p3), .val (.int (3 : Int32)), .val (.int (2 : Int32)), .val (.ref t), .val (.ref g0), .val (.ref g1), .val (.ref g2), .val (.ref g3), .unset] [])
      refine own_stW (T' := T32) (g' := (mkF m 188 #[.val (.int p1), .val (.int p2), .val (.int p3), .val (.int (3 : Int32)), .val (.int (2 : Int32)), .val (.ref t), .val (.ref g0), .val (.ref g1), .val (.ref g2), .val (.ref g3), .val (.ref g2)] [(.int (2 : Int32)), (.ref t)])) (fun uT uK => ?_) ?_
      · show Steps p.tables e below (T32.setTop (mkF m 130 #[.val (.int p1), .val (.int p2), .val (.int p3), .val (.int (3 : Int32)), .val (.int (2 : Int32)), .val (.ref t), .val (.ref g0), .val (.ref g1), .val (.ref g2), .val (.ref g3), .unset] [])) _
        refine XS.iload X32.here hx rfl (hb hby at_130) rfl ?_
        show Steps p.tables e below (T32.setTop (mkF m 132 #[.val (.int p1), .val (.int p2), .val (.int p3), .val (.int (3 : Int32)), .val (.int (2 : Int32)), .val (.ref t), .val (.ref g0), .val (.ref g1), .val (.ref g2), .val (.ref g3), .unset] [(.int (2 : Int32))])) _
        refine XS.iloadN X32.here hx rfl (hb hby at_132) rfl ?_
        show Steps p.tables e below (T32.setTop (mkF m 133 #[.val (.int p1), .val (.int p2), .val (.int p3), .val (.int (3 : Int32)), .val (.int (2 : Int32)), .val (.ref t), .val (.ref g0), .val (.ref g1), .val (.ref g2), .val (.ref g3), .unset] [(.int (3 : Int32)), (.int (2 : Int32))])) _
        refine XS.icmpYes X32.here hx rfl (pc0 := 133) (pc' := 142) rfl (hb hby at_133) rfl (XT.ii_lt_t (by decide)) (by decide) (by decide) ?_
        show Steps p.tables e below (T32.setTop (mkF m 142 #[.val (.int p1), .val (.int p2), .val (.int p3), .val (.int (3 : Int32)), .val (.int (2 : Int32)), .val (.ref t), .val (.ref g0), .val (.ref g1), .val (.ref g2), .val (.ref g3), .unset] [])) _
        refine XS.iload X32.here hx rfl (hb hby at_142) rfl ?_
        show Steps p.tables e below (T32.setTop (mkF m 144 #[.val (.int p1), .val (.int p2), .val (.int p3), .val (.int (3 : Int32)), .val (.int (2 : Int32)), .val (.ref t), .val (.ref g0), .val (.ref g1), .val (.ref g2), .val (.ref g3), .unset] [(.int (2 : Int32))])) _
        refine XS.ifYes X32.here hx rfl (pc0 := 144) (pc' := 154) rfl (hb hby at_144) rfl (XT.i0_ne_t (by decide)) (by decide) (by decide) ?_
        show Steps p.tables e below (T32.setTop (mkF m 154 #[.val (.int p1), .val (.int p2), .val (.int p3), .val (.int (3 : Int32)), .val (.int (2 : Int32)), .val (.ref t), .val (.ref g0), .val (.ref g1), .val (.ref g2), .val (.ref g3), .unset] [])) _
        refine XS.iload X32.here hx rfl (hb hby at_154) rfl ?_
        show Steps p.tables e below (T32.setTop (mkF m 156 #[.val (.int p1), .val (.int p2), .val (.int p3), .val (.int (3 : Int32)), .val (.int (2 : Int32)), .val (.ref t), .val (.ref g0), .val (.ref g1), .val (.ref g2), .val (.ref g3), .unset] [(.int (2 : Int32))])) _
        refine XS.iconst X32.here hx rfl (hb hby at_156) ?_
        show Steps p.tables e below (T32.setTop (mkF m 157 #[.val (.int p1), .val (.int p2), .val (.int p3), .val (.int (3 : Int32)), .val (.int (2 : Int32)), .val (.ref t), .val (.ref g0), .val (.ref g1), .val (.ref g2), .val (.ref g3), .unset] [(.int (1 : Int32)), (.int (2 : Int32))])) _
        refine XS.icmpYes X32.here hx rfl (pc0 := 157) (pc' := 167) rfl (hb hby at_157) rfl (XT.ii_ne_t (by decide)) (by decide) (by decide) ?_
        show Steps p.tables e below (T32.setTop (mkF m 167 #[.val (.int p1), .val (.int p2), .val (.int p3), .val (.int (3 : Int32)), .val (.int (2 : Int32)), .val (.ref t), .val (.ref g0), .val (.ref g1), .val (.ref g2), .val (.ref g3), .unset] [])) _
        refine XS.iload X32.here hx rfl (hb hby at_167) rfl ?_
        show Steps p.tables e below (T32.setTop (mkF m 169 #[.val (.int p1), .val (.int p2), .val (.int p3), .val (.int (3 : Int32)), .val (.int (2 : Int32)), .val (.ref t), .val (.ref g0), .val (.ref g1), .val (.ref g2), .val (.ref g3), .unset] [(.int (2 : Int32))])) _
        refine XS.iconst X32.here hx rfl (hb hby at_169) ?_
        show Steps p.tables e below (T32.setTop (mkF m 170 #[.val (.int p1), .val (.int p2), .val (.int p3), .val (.int (3 : Int32)), .val (.int (2 : Int32)), .val (.ref t), .val (.ref g0), .val (.ref g1), .val (.ref g2), .val (.ref g3), .unset] [(.int (2 : Int32)), (.int (2 : Int32))])) _
        refine XS.icmpNo X32.here hx rfl (hb hby at_170) rfl (XT.ii_ne_f (by decide)) ?_
        show Steps p.tables e below (T32.setTop (mkF m 173 #[.val (.int p1), .val (.int p2), .val (.int p3), .val (.int (3 : Int32)), .val (.int (2 : Int32)), .val (.ref t), .val (.ref g0), .val (.ref g1), .val (.ref g2), .val (.ref g3), .unset] [])) _
        refine XS.aload X32.here hx rfl (hb hby at_173) rfl rfl ?_
        show Steps p.tables e below (T32.setTop (mkF m 175 #[.val (.int p1), .val (.int p2), .val (.int p3), .val (.int (3 : Int32)), .val (.int (2 : Int32)), .val (.ref t), .val (.ref g0), .val (.ref g1), .val (.ref g2), .val (.ref g3), .unset] [(.ref g2)])) _
        refine XS.astore X32.here hx rfl (hb hby at_175) rfl rfl (l' := #[.val (.int p1), .val (.int p2), .val (.int p3), .val (.int (3 : Int32)), .val (.int (2 : Int32)), .val (.ref t), .val (.ref g0), .val (.ref g1), .val (.ref g2), .val (.ref g3), .val (.ref g2)]) rfl ?_
        show Steps p.tables e below (T32.setTop (mkF m 177 #[.val (.int p1), .val (.int p2), .val (.int p3), .val (.int (3 : Int32)), .val (.int (2 : Int32)), .val (.ref t), .val (.ref g0), .val (.ref g1), .val (.ref g2), .val (.ref g3), .val (.ref g2)] [])) _
        refine XS.goto X32.here hx rfl (pc0 := 177) (pc' := 184) rfl (hb hby at_177) (by decide) (by decide) ?_
        show Steps p.tables e below (T32.setTop (mkF m 184 #[.val (.int p1), .val (.int p2), .val (.int p3), .val (.int (3 : Int32)), .val (.int (2 : Int32)), .val (.ref t), .val (.ref g0), .val (.ref g1), .val (.ref g2), .val (.ref g3), .val (.ref g2)] [])) _
        refine XS.aload X32.here hx rfl (hb hby at_184) rfl rfl ?_
        show Steps p.tables e below (T32.setTop (mkF m 186 #[.val (.int p1), .val (.int p2), .val (.int p3), .val (.int (3 : Int32)), .val (.int (2 : Int32)), .val (.ref t), .val (.ref g0), .val (.ref g1), .val (.ref g2), .val (.ref g3), .val (.ref g2)] [(.ref t)])) _
        refine XS.iload X32.here hx rfl (hb hby at_186) rfl ?_
        exact uK
      obtain ⟨cq35, kq35, qa35, qb35, qc35⟩ := isOf hZ rfl (Ec32)
      obtain ⟨_, _, ⟨T35, L35, k35, n35⟩, -, X35, ⟨Lc35, hQ35, l35, y35, z35⟩, st35⟩ := X32.virtualBack hx (y := (⟨"com/example/liblockmode/liblockmode/core/TransactionLocks", "grantAfter", "(I)Lcom/example/liblockmode/liblockmode/core/Grant;"⟩ : MethodName)) (z := (⟨"com/example/liblockmode/liblockmode/core/TransactionLocks", "grantAfter", "(I)Lcom/example/liblockmode/liblockmode/core/Grant;"⟩ : MethodName)) hown (mvT hZ (hw _ (List.mem_of_getElem? (i := 31) rfl))) (mvT hZ (hw _ (List.mem_of_getElem? (i := 32) rfl))) (notFace_of_selects (args := #[]) (mvT hZ (hw _ (List.mem_of_getElem? (i := 34) rfl)))) (mvT hZ (hw _ (List.mem_of_getElem? (i := 34) rfl))) (mvT hZ (hw _ (List.mem_of_getElem? (i := 33) rfl))) (by decide) (backOf (W := 0) (rm4 l Z a0 hw [] t (2 : Int32) [g0, g1, g2] (2) (.ref g0) (.ref g2) T32.heap n0 Z32 F_firstGrant32 ⟨rfl, _, Fk32_g0_nextLogged, ⟨rfl, _, Fnb32, ⟨rfl, _, Fk32_g2_nextLogged, rfl⟩⟩⟩ rfl rfl) hZ (hw _ (List.mem_of_getElem? (i := 35) rfl)) (hw _ (List.mem_of_getElem? (i := 3) rfl)) (by decide) (by decide)) qa35 qc35 (g := (mkF m 188 #[.val (.int p1), .val (.int p2), .val (.int p3), .val (.int (3 : Int32)), .val (.int (2 : Int32)), .val (.ref t), .val (.ref g0), .val (.ref g1), .val (.ref g2), .val (.ref g3), .val (.ref g2)] [(.int (2 : Int32)), (.ref t)])) rfl (by rw [hml]; rfl) (Steps.refl _) (argsL := [(.int (2 : Int32))]) (rest := []) (lenOf own_pd2 rfl) rfl (by show 2 * 0 + _ ≤ _; exact Nat.le_of_eq rfl) (hb hby at_188) (fun _ _ => ⟨rfl, rfl, (by decide : 7 + 0 ≤ _), (by decide : 50 + 0 ≤ _)⟩)
      dsimp only [Pt.U, Pt.locs, Pt.cells, Pt.slots] at X35 l35 y35 z35 st35 hQ35
      subst l35 y35 z35
      obtain ⟨rfl, Nq35, e35⟩ := hQ35
      have N35 := Fr.app N32 Nq35
      refine own_trW st35 ?_
      show OwnGoW p e below s _ _ _ T35 (mkF m 191 #[.val (.int p1), .val (.int p2), .val (.int p3), .val (.int (3 : Int32)), .val (.int (2 : Int32)), .val (.ref t), .val (.ref g0), .val (.ref g1), .val (.ref g2), .val (.ref g3), .val (.ref g2)] [(.ref g2)])
      refine own_stW (T' := T35) (g' := (mkF m 201 #[.val (.int p1), .val (.int p2), .val (.int p3), .val (.int (3 : Int32)), .val (.int (2 : Int32)), .val (.ref t), .val (.ref g0), .val (.ref g1), .val (.ref g2), .val (.ref g3), .val (.ref g2)] [(.int (1 : Int32))])) (fun uT uK => ?_) ?_
      · show Steps p.tables e below (T35.setTop (mkF m 191 #[.val (.int p1), .val (.int p2), .val (.int p3), .val (.int (3 : Int32)), .val (.int (2 : Int32)), .val (.ref t), .val (.ref g0), .val (.ref g1), .val (.ref g2), .val (.ref g3), .val (.ref g2)] [(.ref g2)])) _
        refine XS.aload X35.here hx rfl (hb hby at_191) rfl rfl ?_
        show Steps p.tables e below (T35.setTop (mkF m 193 #[.val (.int p1), .val (.int p2), .val (.int p3), .val (.int (3 : Int32)), .val (.int (2 : Int32)), .val (.ref t), .val (.ref g0), .val (.ref g1), .val (.ref g2), .val (.ref g3), .val (.ref g2)] [(.ref g2), (.ref g2)])) _
        refine Jvm.RoadKit.acmp (g := (mkF m 193 #[.val (.int p1), .val (.int p2), .val (.int p3), .val (.int (3 : Int32)), .val (.int (2 : Int32)), .val (.ref t), .val (.ref g0), .val (.ref g1), .val (.ref g2), .val (.ref g3), .val (.ref g2)] [(.ref g2), (.ref g2)])) X35 hx rfl rfl rfl (pc0 := 193) (pc' := 196) (same := true) rfl (hb hby at_193) rfl (decide_eq_true (rfl)) (by decide) (by decide) ?_
        show Steps p.tables e below (T35.setTop (mkF m 196 #[.val (.int p1), .val (.int p2), .val (.int p3), .val (.int (3 : Int32)), .val (.int (2 : Int32)), .val (.ref t), .val (.ref g0), .val (.ref g1), .val (.ref g2), .val (.ref g3), .val (.ref g2)] [])) _
        refine XS.iconst X35.here hx rfl (hb hby at_196) ?_
        show Steps p.tables e below (T35.setTop (mkF m 197 #[.val (.int p1), .val (.int p2), .val (.int p3), .val (.int (3 : Int32)), .val (.int (2 : Int32)), .val (.ref t), .val (.ref g0), .val (.ref g1), .val (.ref g2), .val (.ref g3), .val (.ref g2)] [(.int (1 : Int32))])) _
        refine XS.goto X35.here hx rfl (pc0 := 197) (pc' := 201) rfl (hb hby at_197) (by decide) (by decide) ?_
        exact uK
      exact own_retW (v := some (.int (1 : Int32))) X35 hS (by rw [e35]; exact Zk32) hlk (fun h => by rw [hret] at h; cases h) (fun fs hr => retOut X35 hx hret rfl (Or.inl ⟨rfl, by simp, _, rfl⟩) (hb hby at_201) hr) ⟨rfl, N35⟩ (by decide) (by decide)
    · show OwnGoW p e below s _ _ _ T32 (mkF m 130 #[.val (.int p1), .val (.int p2), .val (.int p3), .val (.int (3 : Int32)), .val (.int (3 : Int32)), .val (.ref t), .val (.ref g0), .val (.ref g1), .val (.ref g2), .val (.ref g3), .unset] [])
      refine own_stW (T' := T32) (g' := (mkF m 188 #[.val (.int p1), .val (.int p2), .val (.int p3), .val (.int (3 : Int32)), .val (.int (3 : Int32)), .val (.ref t), .val (.ref g0), .val (.ref g1), .val (.ref g2), .val (.ref g3), .val .null] [(.int (3 : Int32)), (.ref t)])) (fun uT uK => ?_) ?_
      · show Steps p.tables e below (T32.setTop (mkF m 130 #[.val (.int p1), .val (.int p2), .val (.int p3), .val (.int (3 : Int32)), .val (.int (3 : Int32)), .val (.ref t), .val (.ref g0), .val (.ref g1), .val (.ref g2), .val (.ref g3), .unset] [])) _
        refine XS.iload X32.here hx rfl (hb hby at_130) rfl ?_
        show Steps p.tables e below (T32.setTop (mkF m 132 #[.val (.int p1), .val (.int p2), .val (.int p3), .val (.int (3 : Int32)), .val (.int (3 : Int32)), .val (.ref t), .val (.ref g0), .val (.ref g1), .val (.ref g2), .val (.ref g3), .unset] [(.int (3 : Int32))])) _
        refine XS.iloadN X32.here hx rfl (hb hby at_132) rfl ?_
        show Steps p.tables e below (T32.setTop (mkF m 133 #[.val (.int p1), .val (.int p2), .val (.int p3), .val (.int (3 : Int32)), .val (.int (3 : Int32)), .val (.ref t), .val (.ref g0), .val (.ref g1), .val (.ref g2), .val (.ref g3), .unset] [(.int (3 : Int32)), (.int (3 : Int32))])) _
        refine XS.icmpNo X32.here hx rfl (hb hby at_133) rfl (XT.ii_lt_f (by decide)) ?_
        show Steps p.tables e below (T32.setTop (mkF m 136 #[.val (.int p1), .val (.int p2), .val (.int p3), .val (.int (3 : Int32)), .val (.int (3 : Int32)), .val (.ref t), .val (.ref g0), .val (.ref g1), .val (.ref g2), .val (.ref g3), .unset] [])) _
        refine XS.aconstNull X32.here hx rfl (hb hby at_136) ?_
        show Steps p.tables e below (T32.setTop (mkF m 137 #[.val (.int p1), .val (.int p2), .val (.int p3), .val (.int (3 : Int32)), .val (.int (3 : Int32)), .val (.ref t), .val (.ref g0), .val (.ref g1), .val (.ref g2), .val (.ref g3), .unset] [.null])) _
        refine XS.astore X32.here hx rfl (hb hby at_137) rfl rfl (l' := #[.val (.int p1), .val (.int p2), .val (.int p3), .val (.int (3 : Int32)), .val (.int (3 : Int32)), .val (.ref t), .val (.ref g0), .val (.ref g1), .val (.ref g2), .val (.ref g3), .val .null]) rfl ?_
        show Steps p.tables e below (T32.setTop (mkF m 139 #[.val (.int p1), .val (.int p2), .val (.int p3), .val (.int (3 : Int32)), .val (.int (3 : Int32)), .val (.ref t), .val (.ref g0), .val (.ref g1), .val (.ref g2), .val (.ref g3), .val .null] [])) _
        refine XS.goto X32.here hx rfl (pc0 := 139) (pc' := 184) rfl (hb hby at_139) (by decide) (by decide) ?_
        show Steps p.tables e below (T32.setTop (mkF m 184 #[.val (.int p1), .val (.int p2), .val (.int p3), .val (.int (3 : Int32)), .val (.int (3 : Int32)), .val (.ref t), .val (.ref g0), .val (.ref g1), .val (.ref g2), .val (.ref g3), .val .null] [])) _
        refine XS.aload X32.here hx rfl (hb hby at_184) rfl rfl ?_
        show Steps p.tables e below (T32.setTop (mkF m 186 #[.val (.int p1), .val (.int p2), .val (.int p3), .val (.int (3 : Int32)), .val (.int (3 : Int32)), .val (.ref t), .val (.ref g0), .val (.ref g1), .val (.ref g2), .val (.ref g3), .val .null] [(.ref t)])) _
        refine XS.iload X32.here hx rfl (hb hby at_186) rfl ?_
        exact uK
      obtain ⟨cq36, kq36, qa36, qb36, qc36⟩ := isOf hZ rfl (Ec32)
      obtain ⟨_, _, ⟨T36, L36, k36, n36⟩, -, X36, ⟨Lc36, hQ36, l36, y36, z36⟩, st36⟩ := X32.virtualBack hx (y := (⟨"com/example/liblockmode/liblockmode/core/TransactionLocks", "grantAfter", "(I)Lcom/example/liblockmode/liblockmode/core/Grant;"⟩ : MethodName)) (z := (⟨"com/example/liblockmode/liblockmode/core/TransactionLocks", "grantAfter", "(I)Lcom/example/liblockmode/liblockmode/core/Grant;"⟩ : MethodName)) hown (mvT hZ (hw _ (List.mem_of_getElem? (i := 31) rfl))) (mvT hZ (hw _ (List.mem_of_getElem? (i := 32) rfl))) (notFace_of_selects (args := #[]) (mvT hZ (hw _ (List.mem_of_getElem? (i := 34) rfl)))) (mvT hZ (hw _ (List.mem_of_getElem? (i := 34) rfl))) (mvT hZ (hw _ (List.mem_of_getElem? (i := 33) rfl))) (by decide) (backOf (W := 0) (rm4 l Z a0 hw [] t (3 : Int32) [g0, g1, g2] (3) (.ref g0) .null T32.heap n0 Z32 F_firstGrant32 ⟨rfl, _, Fk32_g0_nextLogged, ⟨rfl, _, Fnb32, ⟨rfl, _, Fk32_g2_nextLogged, rfl⟩⟩⟩ rfl rfl) hZ (hw _ (List.mem_of_getElem? (i := 35) rfl)) (hw _ (List.mem_of_getElem? (i := 3) rfl)) (by decide) (by decide)) qa36 qc36 (g := (mkF m 188 #[.val (.int p1), .val (.int p2), .val (.int p3), .val (.int (3 : Int32)), .val (.int (3 : Int32)), .val (.ref t), .val (.ref g0), .val (.ref g1), .val (.ref g2), .val (.ref g3), .val .null] [(.int (3 : Int32)), (.ref t)])) rfl (by rw [hml]; rfl) (Steps.refl _) (argsL := [(.int (3 : Int32))]) (rest := []) (lenOf own_pd2 rfl) rfl (by show 2 * 0 + _ ≤ _; exact Nat.le_of_eq rfl) (hb hby at_188) (fun _ _ => ⟨rfl, rfl, (by decide : 7 + 0 ≤ _), (by decide : 50 + 0 ≤ _)⟩)
      dsimp only [Pt.U, Pt.locs, Pt.cells, Pt.slots] at X36 l36 y36 z36 st36 hQ36
      subst l36 y36 z36
      obtain ⟨rfl, Nq36, e36⟩ := hQ36
      have N36 := Fr.app N32 Nq36
      refine own_trW st36 ?_
      show OwnGoW p e below s _ _ _ T36 (mkF m 191 #[.val (.int p1), .val (.int p2), .val (.int p3), .val (.int (3 : Int32)), .val (.int (3 : Int32)), .val (.ref t), .val (.ref g0), .val (.ref g1), .val (.ref g2), .val (.ref g3), .val .null] [.null])
      refine own_stW (T' := T36) (g' := (mkF m 201 #[.val (.int p1), .val (.int p2), .val (.int p3), .val (.int (3 : Int32)), .val (.int (3 : Int32)), .val (.ref t), .val (.ref g0), .val (.ref g1), .val (.ref g2), .val (.ref g3), .val .null] [(.int (1 : Int32))])) (fun uT uK => ?_) ?_
      · show Steps p.tables e below (T36.setTop (mkF m 191 #[.val (.int p1), .val (.int p2), .val (.int p3), .val (.int (3 : Int32)), .val (.int (3 : Int32)), .val (.ref t), .val (.ref g0), .val (.ref g1), .val (.ref g2), .val (.ref g3), .val .null] [.null])) _
        refine XS.aload X36.here hx rfl (hb hby at_191) rfl rfl ?_
        show Steps p.tables e below (T36.setTop (mkF m 193 #[.val (.int p1), .val (.int p2), .val (.int p3), .val (.int (3 : Int32)), .val (.int (3 : Int32)), .val (.ref t), .val (.ref g0), .val (.ref g1), .val (.ref g2), .val (.ref g3), .val .null] [.null, .null])) _
        refine Jvm.RoadKit.acmp (g := (mkF m 193 #[.val (.int p1), .val (.int p2), .val (.int p3), .val (.int (3 : Int32)), .val (.int (3 : Int32)), .val (.ref t), .val (.ref g0), .val (.ref g1), .val (.ref g2), .val (.ref g3), .val .null] [.null, .null])) X36 hx rfl rfl rfl (pc0 := 193) (pc' := 196) (same := true) rfl (hb hby at_193) rfl (decide_eq_true (rfl)) (by decide) (by decide) ?_
        show Steps p.tables e below (T36.setTop (mkF m 196 #[.val (.int p1), .val (.int p2), .val (.int p3), .val (.int (3 : Int32)), .val (.int (3 : Int32)), .val (.ref t), .val (.ref g0), .val (.ref g1), .val (.ref g2), .val (.ref g3), .val .null] [])) _
        refine XS.iconst X36.here hx rfl (hb hby at_196) ?_
        show Steps p.tables e below (T36.setTop (mkF m 197 #[.val (.int p1), .val (.int p2), .val (.int p3), .val (.int (3 : Int32)), .val (.int (3 : Int32)), .val (.ref t), .val (.ref g0), .val (.ref g1), .val (.ref g2), .val (.ref g3), .val .null] [(.int (1 : Int32))])) _
        refine XS.goto X36.here hx rfl (pc0 := 197) (pc' := 201) rfl (hb hby at_197) (by decide) (by decide) ?_
        exact uK
      exact own_retW (v := some (.int (1 : Int32))) X36 hS (by rw [e36]; exact Zk32) hlk (fun h => by rw [hret] at h; cases h) (fun fs hr => retOut X36 hx hret rfl (Or.inl ⟨rfl, by simp, _, rfl⟩) (hb hby at_201) hr) ⟨rfl, N36⟩ (by decide) (by decide)
    · show OwnGoW p e below s _ _ _ T32 (mkF m 130 #[.val (.int p1), .val (.int p2), .val (.int p3), .val (.int (3 : Int32)), .val (.int k), .val (.ref t), .val (.ref g0), .val (.ref g1), .val (.ref g2), .val (.ref g3), .unset] [])
      refine own_stW (T' := T32) (g' := (mkF m 188 #[.val (.int p1), .val (.int p2), .val (.int p3), .val (.int (3 : Int32)), .val (.int k), .val (.ref t), .val (.ref g0), .val (.ref g1), .val (.ref g2), .val (.ref g3), .val .null] [(.int k), (.ref t)])) (fun uT uK => ?_) ?_
      · show Steps p.tables e below (T32.setTop (mkF m 130 #[.val (.int p1), .val (.int p2), .val (.int p3), .val (.int (3 : Int32)), .val (.int k), .val (.ref t), .val (.ref g0), .val (.ref g1), .val (.ref g2), .val (.ref g3), .unset] [])) _
        refine XS.iload X32.here hx rfl (hb hby at_130) rfl ?_
        show Steps p.tables e below (T32.setTop (mkF m 132 #[.val (.int p1), .val (.int p2), .val (.int p3), .val (.int (3 : Int32)), .val (.int k), .val (.ref t), .val (.ref g0), .val (.ref g1), .val (.ref g2), .val (.ref g3), .unset] [(.int k)])) _
        refine XS.iloadN X32.here hx rfl (hb hby at_132) rfl ?_
        show Steps p.tables e below (T32.setTop (mkF m 133 #[.val (.int p1), .val (.int p2), .val (.int p3), .val (.int (3 : Int32)), .val (.int k), .val (.ref t), .val (.ref g0), .val (.ref g1), .val (.ref g2), .val (.ref g3), .unset] [(.int (3 : Int32)), (.int k)])) _
        refine XS.icmpNo X32.here hx rfl (hb hby at_133) rfl (XT.ii_lt_f (own_ge hge (by decide))) ?_
        show Steps p.tables e below (T32.setTop (mkF m 136 #[.val (.int p1), .val (.int p2), .val (.int p3), .val (.int (3 : Int32)), .val (.int k), .val (.ref t), .val (.ref g0), .val (.ref g1), .val (.ref g2), .val (.ref g3), .unset] [])) _
        refine XS.aconstNull X32.here hx rfl (hb hby at_136) ?_
        show Steps p.tables e below (T32.setTop (mkF m 137 #[.val (.int p1), .val (.int p2), .val (.int p3), .val (.int (3 : Int32)), .val (.int k), .val (.ref t), .val (.ref g0), .val (.ref g1), .val (.ref g2), .val (.ref g3), .unset] [.null])) _
        refine XS.astore X32.here hx rfl (hb hby at_137) rfl rfl (l' := #[.val (.int p1), .val (.int p2), .val (.int p3), .val (.int (3 : Int32)), .val (.int k), .val (.ref t), .val (.ref g0), .val (.ref g1), .val (.ref g2), .val (.ref g3), .val .null]) rfl ?_
        show Steps p.tables e below (T32.setTop (mkF m 139 #[.val (.int p1), .val (.int p2), .val (.int p3), .val (.int (3 : Int32)), .val (.int k), .val (.ref t), .val (.ref g0), .val (.ref g1), .val (.ref g2), .val (.ref g3), .val .null] [])) _
        refine XS.goto X32.here hx rfl (pc0 := 139) (pc' := 184) rfl (hb hby at_139) (by decide) (by decide) ?_
        show Steps p.tables e below (T32.setTop (mkF m 184 #[.val (.int p1), .val (.int p2), .val (.int p3), .val (.int (3 : Int32)), .val (.int k), .val (.ref t), .val (.ref g0), .val (.ref g1), .val (.ref g2), .val (.ref g3), .val .null] [])) _
        refine XS.aload X32.here hx rfl (hb hby at_184) rfl rfl ?_
        show Steps p.tables e below (T32.setTop (mkF m 186 #[.val (.int p1), .val (.int p2), .val (.int p3), .val (.int (3 : Int32)), .val (.int k), .val (.ref t), .val (.ref g0), .val (.ref g1), .val (.ref g2), .val (.ref g3), .val .null] [(.ref t)])) _
        refine XS.iload X32.here hx rfl (hb hby at_186) rfl ?_
        exact uK
      obtain ⟨cq37, kq37, qa37, qb37, qc37⟩ := isOf hZ rfl (Ec32)
      obtain ⟨_, _, ⟨T37, L37, k37, n37⟩, -, X37, ⟨Lc37, hQ37, l37, y37, z37⟩, st37⟩ := X32.virtualBack hx (y := (⟨"com/example/liblockmode/liblockmode/core/TransactionLocks", "grantAfter", "(I)Lcom/example/liblockmode/liblockmode/core/Grant;"⟩ : MethodName)) (z := (⟨"com/example/liblockmode/liblockmode/core/TransactionLocks", "grantAfter", "(I)Lcom/example/liblockmode/liblockmode/core/Grant;"⟩ : MethodName)) hown (mvT hZ (hw _ (List.mem_of_getElem? (i := 31) rfl))) (mvT hZ (hw _ (List.mem_of_getElem? (i := 32) rfl))) (notFace_of_selects (args := #[]) (mvT hZ (hw _ (List.mem_of_getElem? (i := 34) rfl)))) (mvT hZ (hw _ (List.mem_of_getElem? (i := 34) rfl))) (mvT hZ (hw _ (List.mem_of_getElem? (i := 33) rfl))) (by decide) (backOf (W := 0) (rm4 l Z a0 hw [] t k [g0, g1, g2] (k.toInt.toNat) (.ref g0) .null T32.heap n0 Z32 F_firstGrant32 ⟨rfl, _, Fk32_g0_nextLogged, ⟨rfl, _, Fnb32, ⟨rfl, _, Fk32_g2_nextLogged, rfl⟩⟩⟩ (by omega) (own_at_far _ _ (by show 3 ≤ _; omega))) hZ (hw _ (List.mem_of_getElem? (i := 35) rfl)) (hw _ (List.mem_of_getElem? (i := 3) rfl)) (by decide) (by decide)) qa37 qc37 (g := (mkF m 188 #[.val (.int p1), .val (.int p2), .val (.int p3), .val (.int (3 : Int32)), .val (.int k), .val (.ref t), .val (.ref g0), .val (.ref g1), .val (.ref g2), .val (.ref g3), .val .null] [(.int k), (.ref t)])) rfl (by rw [hml]; rfl) (Steps.refl _) (argsL := [(.int k)]) (rest := []) (lenOf own_pd2 rfl) rfl (by show 2 * 0 + _ ≤ _; exact Nat.le_of_eq rfl) (hb hby at_188) (fun _ _ => ⟨rfl, rfl, (by decide : 7 + 0 ≤ _), (by decide : 50 + 0 ≤ _)⟩)
      dsimp only [Pt.U, Pt.locs, Pt.cells, Pt.slots] at X37 l37 y37 z37 st37 hQ37
      subst l37 y37 z37
      obtain ⟨rfl, Nq37, e37⟩ := hQ37
      have N37 := Fr.app N32 Nq37
      refine own_trW st37 ?_
      show OwnGoW p e below s _ _ _ T37 (mkF m 191 #[.val (.int p1), .val (.int p2), .val (.int p3), .val (.int (3 : Int32)), .val (.int k), .val (.ref t), .val (.ref g0), .val (.ref g1), .val (.ref g2), .val (.ref g3), .val .null] [.null])
      refine own_stW (T' := T37) (g' := (mkF m 201 #[.val (.int p1), .val (.int p2), .val (.int p3), .val (.int (3 : Int32)), .val (.int k), .val (.ref t), .val (.ref g0), .val (.ref g1), .val (.ref g2), .val (.ref g3), .val .null] [(.int (1 : Int32))])) (fun uT uK => ?_) ?_
      · show Steps p.tables e below (T37.setTop (mkF m 191 #[.val (.int p1), .val (.int p2), .val (.int p3), .val (.int (3 : Int32)), .val (.int k), .val (.ref t), .val (.ref g0), .val (.ref g1), .val (.ref g2), .val (.ref g3), .val .null] [.null])) _
        refine XS.aload X37.here hx rfl (hb hby at_191) rfl rfl ?_
        show Steps p.tables e below (T37.setTop (mkF m 193 #[.val (.int p1), .val (.int p2), .val (.int p3), .val (.int (3 : Int32)), .val (.int k), .val (.ref t), .val (.ref g0), .val (.ref g1), .val (.ref g2), .val (.ref g3), .val .null] [.null, .null])) _
        refine Jvm.RoadKit.acmp (g := (mkF m 193 #[.val (.int p1), .val (.int p2), .val (.int p3), .val (.int (3 : Int32)), .val (.int k), .val (.ref t), .val (.ref g0), .val (.ref g1), .val (.ref g2), .val (.ref g3), .val .null] [.null, .null])) X37 hx rfl rfl rfl (pc0 := 193) (pc' := 196) (same := true) rfl (hb hby at_193) rfl (decide_eq_true (rfl)) (by decide) (by decide) ?_
        show Steps p.tables e below (T37.setTop (mkF m 196 #[.val (.int p1), .val (.int p2), .val (.int p3), .val (.int (3 : Int32)), .val (.int k), .val (.ref t), .val (.ref g0), .val (.ref g1), .val (.ref g2), .val (.ref g3), .val .null] [])) _
        refine XS.iconst X37.here hx rfl (hb hby at_196) ?_
        show Steps p.tables e below (T37.setTop (mkF m 197 #[.val (.int p1), .val (.int p2), .val (.int p3), .val (.int (3 : Int32)), .val (.int k), .val (.ref t), .val (.ref g0), .val (.ref g1), .val (.ref g2), .val (.ref g3), .val .null] [(.int (1 : Int32))])) _
        refine XS.goto X37.here hx rfl (pc0 := 197) (pc' := 201) rfl (hb hby at_197) (by decide) (by decide) ?_
        exact uK
      exact own_retW (v := some (.int (1 : Int32))) X37 hS (by rw [e37]; exact Zk32) hlk (fun h => by rw [hret] at h; cases h) (fun fs hr => retOut X37 hx hret rfl (Or.inl ⟨rfl, by simp, _, rfl⟩) (hb hby at_201) hr) ⟨rfl, N37⟩ (by decide) (by decide)
  · show OwnGoW p e below s _ _ _ T11 (mkF m 83 #[.val (.int p1), .val (.int p2), .val (.int p3), .val (.int (4 : Int32)), .val (.int k), .val (.ref t), .val (.ref g0), .val (.ref g1), .val (.ref g2), .val (.ref g3), .unset] [])
    refine own_stW (T' := T11) (g' := (mkF m 91 #[.val (.int p1), .val (.int p2), .val (.int p3), .val (.int (4 : Int32)), .val (.int k), .val (.ref t), .val (.ref g0), .val (.ref g1), .val (.ref g2), .val (.ref g3), .unset] [(.ref g0), (.ref t)])) (fun uT uK => ?_) ?_
    · show Steps p.tables e below (T11.setTop (mkF m 83 #[.val (.int p1), .val (.int p2), .val (.int p3), .val (.int (4 : Int32)), .val (.int k), .val (.ref t), .val (.ref g0), .val (.ref g1), .val (.ref g2), .val (.ref g3), .unset] [])) _
      refine XS.iloadN X11.here hx rfl (hb hby at_83) rfl ?_
      show Steps p.tables e below (T11.setTop (mkF m 84 #[.val (.int p1), .val (.int p2), .val (.int p3), .val (.int (4 : Int32)), .val (.int k), .val (.ref t), .val (.ref g0), .val (.ref g1), .val (.ref g2), .val (.ref g3), .unset] [(.int (4 : Int32))])) _
      refine XS.ifNo X11.here hx rfl (hb hby at_84) rfl (XT.i0_le_f (by decide)) ?_
      show Steps p.tables e below (T11.setTop (mkF m 87 #[.val (.int p1), .val (.int p2), .val (.int p3), .val (.int (4 : Int32)), .val (.int k), .val (.ref t), .val (.ref g0), .val (.ref g1), .val (.ref g2), .val (.ref g3), .unset] [])) _
      refine XS.aload X11.here hx rfl (hb hby at_87) rfl rfl ?_
      show Steps p.tables e below (T11.setTop (mkF m 89 #[.val (.int p1), .val (.int p2), .val (.int p3), .val (.int (4 : Int32)), .val (.int k), .val (.ref t), .val (.ref g0), .val (.ref g1), .val (.ref g2), .val (.ref g3), .unset] [(.ref t)])) _
      refine XS.aload X11.here hx rfl (hb hby at_89) rfl rfl ?_
      exact uK
    obtain ⟨cq38, kq38, qa38, qb38, qc38⟩ := isOf hZ rfl (Ek11_t)
    obtain ⟨_, _, ⟨T38, L38, k38, n38⟩, -, X38, ⟨Lc38, hQ38, l38, y38, z38⟩, st38⟩ := X11.virtualBack hx (y := (⟨"com/example/liblockmode/liblockmode/core/TransactionLocks", "log", "(Lcom/example/liblockmode/liblockmode/core/Grant;)V"⟩ : MethodName)) (z := (⟨"com/example/liblockmode/liblockmode/core/TransactionLocks", "log", "(Lcom/example/liblockmode/liblockmode/core/Grant;)V"⟩ : MethodName)) hown (mvT hZ (hw _ (List.mem_of_getElem? (i := 38) rfl))) (mvT hZ (hw _ (List.mem_of_getElem? (i := 39) rfl))) (notFace_of_selects (args := #[]) (mvT hZ (hw _ (List.mem_of_getElem? (i := 41) rfl)))) (mvT hZ (hw _ (List.mem_of_getElem? (i := 41) rfl))) (mvT hZ (hw _ (List.mem_of_getElem? (i := 40) rfl))) (by decide) (backOf (W := 0) (rm5a l Z a0 hw [] t g0 (0 : Int32) T11.heap n0 Z11 Ek11_t Fk11_t_firstGrant Fk11_t_lastGrant Fk11_t_grantCount Fk11_t_modesByObject g_t (by decide)) hZ (hw _ (List.mem_of_getElem? (i := 42) rfl)) (hw _ (List.mem_of_getElem? (i := 3) rfl)) (by decide) (by decide)) qa38 qc38 (g := (mkF m 91 #[.val (.int p1), .val (.int p2), .val (.int p3), .val (.int (4 : Int32)), .val (.int k), .val (.ref t), .val (.ref g0), .val (.ref g1), .val (.ref g2), .val (.ref g3), .unset] [(.ref g0), (.ref t)])) rfl (by rw [hml]; rfl) (Steps.refl _) (argsL := [(.ref g0)]) (rest := []) (lenOf own_pd3 rfl) rfl (by show 2 * 0 + _ ≤ _; exact Nat.le_of_eq rfl) (hb hby at_91) (fun _ _ => ⟨rfl, rfl, (by decide : 7 + 0 ≤ _), (by decide : 50 + 0 ≤ _)⟩)
    dsimp only [Pt.U, Pt.locs, Pt.cells, Pt.slots] at X38 l38 y38 z38 st38 hQ38
    subst l38 y38 z38
    obtain ⟨rfl, Nq38, Kc38, Ec38, F_firstGrant38, F_lastGrant38, F_grantCount38, F_modesByObject38⟩ := hQ38
    have N38 := Fr.app N11 Nq38
    refine own_trW st38 ?_
    show OwnGoW p e below s _ _ _ T38 (mkF m 94 #[.val (.int p1), .val (.int p2), .val (.int p3), .val (.int (4 : Int32)), .val (.int k), .val (.ref t), .val (.ref g0), .val (.ref g1), .val (.ref g2), .val (.ref g3), .unset] [])
    have Ek38_g0 := (Ek11_g0).keep Kc38
    have Fk38_g0_nextLogged := (Fk11_g0_nextLogged).keep Kc38 (ninS (Ne.symm ne_t_g0) nin0)
    have Ek38_g1 := (Ek11_g1).keep Kc38
    have Fk38_g1_nextLogged := (Fk11_g1_nextLogged).keep Kc38 (ninS (Ne.symm ne_t_g1) nin0)
    have Ek38_g2 := (Ek11_g2).keep Kc38
    have Fk38_g2_nextLogged := (Fk11_g2_nextLogged).keep Kc38 (ninS (Ne.symm ne_t_g2) nin0)
    have Ek38_g3 := (Ec11).keep Kc38
    have Fk38_g3_nextLogged := (Fn11).keep Kc38 (ninS (Ne.symm ne_t_g3) nin0)
    have Zk38 : k1 ≤ T38.heap.size := Nat.le_trans Zk11 Kc38.1
    have Z38 : n0 ≤ T38.heap.size := Nat.le_trans Z11 Kc38.1
    refine own_stW (T' := T38) (g' := (mkF m 103 #[.val (.int p1), .val (.int p2), .val (.int p3), .val (.int (4 : Int32)), .val (.int k), .val (.ref t), .val (.ref g0), .val (.ref g1), .val (.ref g2), .val (.ref g3), .unset] [(.ref g1), (.ref t)])) (fun uT uK => ?_) ?_
    · show Steps p.tables e below (T38.setTop (mkF m 94 #[.val (.int p1), .val (.int p2), .val (.int p3), .val (.int (4 : Int32)), .val (.int k), .val (.ref t), .val (.ref g0), .val (.ref g1), .val (.ref g2), .val (.ref g3), .unset] [])) _
      refine XS.iloadN X38.here hx rfl (hb hby at_94) rfl ?_
      show Steps p.tables e below (T38.setTop (mkF m 95 #[.val (.int p1), .val (.int p2), .val (.int p3), .val (.int (4 : Int32)), .val (.int k), .val (.ref t), .val (.ref g0), .val (.ref g1), .val (.ref g2), .val (.ref g3), .unset] [(.int (4 : Int32))])) _
      refine XS.iconst X38.here hx rfl (hb hby at_95) ?_
      show Steps p.tables e below (T38.setTop (mkF m 96 #[.val (.int p1), .val (.int p2), .val (.int p3), .val (.int (4 : Int32)), .val (.int k), .val (.ref t), .val (.ref g0), .val (.ref g1), .val (.ref g2), .val (.ref g3), .unset] [(.int (1 : Int32)), (.int (4 : Int32))])) _
      refine XS.icmpNo X38.here hx rfl (hb hby at_96) rfl (XT.ii_le_f (by decide)) ?_
      show Steps p.tables e below (T38.setTop (mkF m 99 #[.val (.int p1), .val (.int p2), .val (.int p3), .val (.int (4 : Int32)), .val (.int k), .val (.ref t), .val (.ref g0), .val (.ref g1), .val (.ref g2), .val (.ref g3), .unset] [])) _
      refine XS.aload X38.here hx rfl (hb hby at_99) rfl rfl ?_
      show Steps p.tables e below (T38.setTop (mkF m 101 #[.val (.int p1), .val (.int p2), .val (.int p3), .val (.int (4 : Int32)), .val (.int k), .val (.ref t), .val (.ref g0), .val (.ref g1), .val (.ref g2), .val (.ref g3), .unset] [(.ref t)])) _
      refine XS.aload X38.here hx rfl (hb hby at_101) rfl rfl ?_
      exact uK
    obtain ⟨cq39, kq39, qa39, qb39, qc39⟩ := isOf hZ rfl (Ec38)
    obtain ⟨_, _, ⟨T39, L39, k39, n39⟩, -, X39, ⟨Lc39, hQ39, l39, y39, z39⟩, st39⟩ := X38.virtualBack hx (y := (⟨"com/example/liblockmode/liblockmode/core/TransactionLocks", "log", "(Lcom/example/liblockmode/liblockmode/core/Grant;)V"⟩ : MethodName)) (z := (⟨"com/example/liblockmode/liblockmode/core/TransactionLocks", "log", "(Lcom/example/liblockmode/liblockmode/core/Grant;)V"⟩ : MethodName)) hown (mvT hZ (hw _ (List.mem_of_getElem? (i := 38) rfl))) (mvT hZ (hw _ (List.mem_of_getElem? (i := 39) rfl))) (notFace_of_selects (args := #[]) (mvT hZ (hw _ (List.mem_of_getElem? (i := 41) rfl)))) (mvT hZ (hw _ (List.mem_of_getElem? (i := 41) rfl))) (mvT hZ (hw _ (List.mem_of_getElem? (i := 40) rfl))) (by decide) (backOf (W := 0) (rm5b l Z a0 hw [] t g1 g0 g0 ((0 : Int32) + 1) T38.heap n0 Z38 Ec38 F_firstGrant38 F_lastGrant38 F_grantCount38 F_modesByObject38 Ek38_g0 Fk38_g0_nextLogged ne_t_g0 g_t g_g0 (by decide)) hZ (hw _ (List.mem_of_getElem? (i := 42) rfl)) (hw _ (List.mem_of_getElem? (i := 3) rfl)) (by decide) (by decide)) qa39 qc39 (g := (mkF m 103 #[.val (.int p1), .val (.int p2), .val (.int p3), .val (.int (4 : Int32)), .val (.int k), .val (.ref t), .val (.ref g0), .val (.ref g1), .val (.ref g2), .val (.ref g3), .unset] [(.ref g1), (.ref t)])) rfl (by rw [hml]; rfl) (Steps.refl _) (argsL := [(.ref g1)]) (rest := []) (lenOf own_pd3 rfl) rfl (by show 2 * 0 + _ ≤ _; exact Nat.le_of_eq rfl) (hb hby at_103) (fun _ _ => ⟨rfl, rfl, (by decide : 7 + 0 ≤ _), (by decide : 50 + 0 ≤ _)⟩)
    dsimp only [Pt.U, Pt.locs, Pt.cells, Pt.slots] at X39 l39 y39 z39 st39 hQ39
    subst l39 y39 z39
    obtain ⟨rfl, Nq39, Kc39, Ec39, F_firstGrant39, F_lastGrant39, F_grantCount39, F_modesByObject39, Eb39, Fnb39⟩ := hQ39
    have N39 := Fr.app N38 Nq39
    refine own_trW st39 ?_
    show OwnGoW p e below s _ _ _ T39 (mkF m 106 #[.val (.int p1), .val (.int p2), .val (.int p3), .val (.int (4 : Int32)), .val (.int k), .val (.ref t), .val (.ref g0), .val (.ref g1), .val (.ref g2), .val (.ref g3), .unset] [])
    have Ek39_g1 := (Ek38_g1).keep Kc39
    have Fk39_g1_nextLogged := (Fk38_g1_nextLogged).keep Kc39 (ninS (Ne.symm ne_t_g1) (ninS (Ne.symm ne_g0_g1) nin0))
    have Ek39_g2 := (Ek38_g2).keep Kc39
    have Fk39_g2_nextLogged := (Fk38_g2_nextLogged).keep Kc39 (ninS (Ne.symm ne_t_g2) (ninS (Ne.symm ne_g0_g2) nin0))
    have Ek39_g3 := (Ek38_g3).keep Kc39
    have Fk39_g3_nextLogged := (Fk38_g3_nextLogged).keep Kc39 (ninS (Ne.symm ne_t_g3) (ninS (Ne.symm ne_g0_g3) nin0))
    have Zk39 : k1 ≤ T39.heap.size := Nat.le_trans Zk38 Kc39.1
    have Z39 : n0 ≤ T39.heap.size := Nat.le_trans Z38 Kc39.1
    refine own_stW (T' := T39) (g' := (mkF m 115 #[.val (.int p1), .val (.int p2), .val (.int p3), .val (.int (4 : Int32)), .val (.int k), .val (.ref t), .val (.ref g0), .val (.ref g1), .val (.ref g2), .val (.ref g3), .unset] [(.ref g2), (.ref t)])) (fun uT uK => ?_) ?_
    · show Steps p.tables e below (T39.setTop (mkF m 106 #[.val (.int p1), .val (.int p2), .val (.int p3), .val (.int (4 : Int32)), .val (.int k), .val (.ref t), .val (.ref g0), .val (.ref g1), .val (.ref g2), .val (.ref g3), .unset] [])) _
      refine XS.iloadN X39.here hx rfl (hb hby at_106) rfl ?_
      show Steps p.tables e below (T39.setTop (mkF m 107 #[.val (.int p1), .val (.int p2), .val (.int p3), .val (.int (4 : Int32)), .val (.int k), .val (.ref t), .val (.ref g0), .val (.ref g1), .val (.ref g2), .val (.ref g3), .unset] [(.int (4 : Int32))])) _
      refine XS.iconst X39.here hx rfl (hb hby at_107) ?_
      show Steps p.tables e below (T39.setTop (mkF m 108 #[.val (.int p1), .val (.int p2), .val (.int p3), .val (.int (4 : Int32)), .val (.int k), .val (.ref t), .val (.ref g0), .val (.ref g1), .val (.ref g2), .val (.ref g3), .unset] [(.int (2 : Int32)), (.int (4 : Int32))])) _
      refine XS.icmpNo X39.here hx rfl (hb hby at_108) rfl (XT.ii_le_f (by decide)) ?_
      show Steps p.tables e below (T39.setTop (mkF m 111 #[.val (.int p1), .val (.int p2), .val (.int p3), .val (.int (4 : Int32)), .val (.int k), .val (.ref t), .val (.ref g0), .val (.ref g1), .val (.ref g2), .val (.ref g3), .unset] [])) _
      refine XS.aload X39.here hx rfl (hb hby at_111) rfl rfl ?_
      show Steps p.tables e below (T39.setTop (mkF m 113 #[.val (.int p1), .val (.int p2), .val (.int p3), .val (.int (4 : Int32)), .val (.int k), .val (.ref t), .val (.ref g0), .val (.ref g1), .val (.ref g2), .val (.ref g3), .unset] [(.ref t)])) _
      refine XS.aload X39.here hx rfl (hb hby at_113) rfl rfl ?_
      exact uK
    obtain ⟨cq40, kq40, qa40, qb40, qc40⟩ := isOf hZ rfl (Ec39)
    obtain ⟨_, _, ⟨T40, L40, k40, n40⟩, -, X40, ⟨Lc40, hQ40, l40, y40, z40⟩, st40⟩ := X39.virtualBack hx (y := (⟨"com/example/liblockmode/liblockmode/core/TransactionLocks", "log", "(Lcom/example/liblockmode/liblockmode/core/Grant;)V"⟩ : MethodName)) (z := (⟨"com/example/liblockmode/liblockmode/core/TransactionLocks", "log", "(Lcom/example/liblockmode/liblockmode/core/Grant;)V"⟩ : MethodName)) hown (mvT hZ (hw _ (List.mem_of_getElem? (i := 38) rfl))) (mvT hZ (hw _ (List.mem_of_getElem? (i := 39) rfl))) (notFace_of_selects (args := #[]) (mvT hZ (hw _ (List.mem_of_getElem? (i := 41) rfl)))) (mvT hZ (hw _ (List.mem_of_getElem? (i := 41) rfl))) (mvT hZ (hw _ (List.mem_of_getElem? (i := 40) rfl))) (by decide) (backOf (W := 0) (rm5b l Z a0 hw [] t g2 g0 g1 (((0 : Int32) + 1) + 1) T39.heap n0 Z39 Ec39 F_firstGrant39 F_lastGrant39 F_grantCount39 F_modesByObject39 Ek39_g1 Fk39_g1_nextLogged ne_t_g1 g_t g_g1 (by decide)) hZ (hw _ (List.mem_of_getElem? (i := 42) rfl)) (hw _ (List.mem_of_getElem? (i := 3) rfl)) (by decide) (by decide)) qa40 qc40 (g := (mkF m 115 #[.val (.int p1), .val (.int p2), .val (.int p3), .val (.int (4 : Int32)), .val (.int k), .val (.ref t), .val (.ref g0), .val (.ref g1), .val (.ref g2), .val (.ref g3), .unset] [(.ref g2), (.ref t)])) rfl (by rw [hml]; rfl) (Steps.refl _) (argsL := [(.ref g2)]) (rest := []) (lenOf own_pd3 rfl) rfl (by show 2 * 0 + _ ≤ _; exact Nat.le_of_eq rfl) (hb hby at_115) (fun _ _ => ⟨rfl, rfl, (by decide : 7 + 0 ≤ _), (by decide : 50 + 0 ≤ _)⟩)
    dsimp only [Pt.U, Pt.locs, Pt.cells, Pt.slots] at X40 l40 y40 z40 st40 hQ40
    subst l40 y40 z40
    obtain ⟨rfl, Nq40, Kc40, Ec40, F_firstGrant40, F_lastGrant40, F_grantCount40, F_modesByObject40, Eb40, Fnb40⟩ := hQ40
    have N40 := Fr.app N39 Nq40
    refine own_trW st40 ?_
    show OwnGoW p e below s _ _ _ T40 (mkF m 118 #[.val (.int p1), .val (.int p2), .val (.int p3), .val (.int (4 : Int32)), .val (.int k), .val (.ref t), .val (.ref g0), .val (.ref g1), .val (.ref g2), .val (.ref g3), .unset] [])
    have Ek40_g0 := (Eb39).keep Kc40
    have Fk40_g0_nextLogged := (Fnb39).keep Kc40 (ninS (Ne.symm ne_t_g0) (ninS ne_g0_g1 nin0))
    have Ek40_g2 := (Ek39_g2).keep Kc40
    have Fk40_g2_nextLogged := (Fk39_g2_nextLogged).keep Kc40 (ninS (Ne.symm ne_t_g2) (ninS (Ne.symm ne_g1_g2) nin0))
    have Ek40_g3 := (Ek39_g3).keep Kc40
    have Fk40_g3_nextLogged := (Fk39_g3_nextLogged).keep Kc40 (ninS (Ne.symm ne_t_g3) (ninS (Ne.symm ne_g1_g3) nin0))
    have Zk40 : k1 ≤ T40.heap.size := Nat.le_trans Zk39 Kc40.1
    have Z40 : n0 ≤ T40.heap.size := Nat.le_trans Z39 Kc40.1
    refine own_stW (T' := T40) (g' := (mkF m 127 #[.val (.int p1), .val (.int p2), .val (.int p3), .val (.int (4 : Int32)), .val (.int k), .val (.ref t), .val (.ref g0), .val (.ref g1), .val (.ref g2), .val (.ref g3), .unset] [(.ref g3), (.ref t)])) (fun uT uK => ?_) ?_
    · show Steps p.tables e below (T40.setTop (mkF m 118 #[.val (.int p1), .val (.int p2), .val (.int p3), .val (.int (4 : Int32)), .val (.int k), .val (.ref t), .val (.ref g0), .val (.ref g1), .val (.ref g2), .val (.ref g3), .unset] [])) _
      refine XS.iloadN X40.here hx rfl (hb hby at_118) rfl ?_
      show Steps p.tables e below (T40.setTop (mkF m 119 #[.val (.int p1), .val (.int p2), .val (.int p3), .val (.int (4 : Int32)), .val (.int k), .val (.ref t), .val (.ref g0), .val (.ref g1), .val (.ref g2), .val (.ref g3), .unset] [(.int (4 : Int32))])) _
      refine XS.iconst X40.here hx rfl (hb hby at_119) ?_
      show Steps p.tables e below (T40.setTop (mkF m 120 #[.val (.int p1), .val (.int p2), .val (.int p3), .val (.int (4 : Int32)), .val (.int k), .val (.ref t), .val (.ref g0), .val (.ref g1), .val (.ref g2), .val (.ref g3), .unset] [(.int (3 : Int32)), (.int (4 : Int32))])) _
      refine XS.icmpNo X40.here hx rfl (hb hby at_120) rfl (XT.ii_le_f (by decide)) ?_
      show Steps p.tables e below (T40.setTop (mkF m 123 #[.val (.int p1), .val (.int p2), .val (.int p3), .val (.int (4 : Int32)), .val (.int k), .val (.ref t), .val (.ref g0), .val (.ref g1), .val (.ref g2), .val (.ref g3), .unset] [])) _
      refine XS.aload X40.here hx rfl (hb hby at_123) rfl rfl ?_
      show Steps p.tables e below (T40.setTop (mkF m 125 #[.val (.int p1), .val (.int p2), .val (.int p3), .val (.int (4 : Int32)), .val (.int k), .val (.ref t), .val (.ref g0), .val (.ref g1), .val (.ref g2), .val (.ref g3), .unset] [(.ref t)])) _
      refine XS.aload X40.here hx rfl (hb hby at_125) rfl rfl ?_
      exact uK
    obtain ⟨cq41, kq41, qa41, qb41, qc41⟩ := isOf hZ rfl (Ec40)
    obtain ⟨_, _, ⟨T41, L41, k41, n41⟩, -, X41, ⟨Lc41, hQ41, l41, y41, z41⟩, st41⟩ := X40.virtualBack hx (y := (⟨"com/example/liblockmode/liblockmode/core/TransactionLocks", "log", "(Lcom/example/liblockmode/liblockmode/core/Grant;)V"⟩ : MethodName)) (z := (⟨"com/example/liblockmode/liblockmode/core/TransactionLocks", "log", "(Lcom/example/liblockmode/liblockmode/core/Grant;)V"⟩ : MethodName)) hown (mvT hZ (hw _ (List.mem_of_getElem? (i := 38) rfl))) (mvT hZ (hw _ (List.mem_of_getElem? (i := 39) rfl))) (notFace_of_selects (args := #[]) (mvT hZ (hw _ (List.mem_of_getElem? (i := 41) rfl)))) (mvT hZ (hw _ (List.mem_of_getElem? (i := 41) rfl))) (mvT hZ (hw _ (List.mem_of_getElem? (i := 40) rfl))) (by decide) (backOf (W := 0) (rm5b l Z a0 hw [] t g3 g0 g2 ((((0 : Int32) + 1) + 1) + 1) T40.heap n0 Z40 Ec40 F_firstGrant40 F_lastGrant40 F_grantCount40 F_modesByObject40 Ek40_g2 Fk40_g2_nextLogged ne_t_g2 g_t g_g2 (by decide)) hZ (hw _ (List.mem_of_getElem? (i := 42) rfl)) (hw _ (List.mem_of_getElem? (i := 3) rfl)) (by decide) (by decide)) qa41 qc41 (g := (mkF m 127 #[.val (.int p1), .val (.int p2), .val (.int p3), .val (.int (4 : Int32)), .val (.int k), .val (.ref t), .val (.ref g0), .val (.ref g1), .val (.ref g2), .val (.ref g3), .unset] [(.ref g3), (.ref t)])) rfl (by rw [hml]; rfl) (Steps.refl _) (argsL := [(.ref g3)]) (rest := []) (lenOf own_pd3 rfl) rfl (by show 2 * 0 + _ ≤ _; exact Nat.le_of_eq rfl) (hb hby at_127) (fun _ _ => ⟨rfl, rfl, (by decide : 7 + 0 ≤ _), (by decide : 50 + 0 ≤ _)⟩)
    dsimp only [Pt.U, Pt.locs, Pt.cells, Pt.slots] at X41 l41 y41 z41 st41 hQ41
    subst l41 y41 z41
    obtain ⟨rfl, Nq41, Kc41, Ec41, F_firstGrant41, F_lastGrant41, F_grantCount41, F_modesByObject41, Eb41, Fnb41⟩ := hQ41
    have N41 := Fr.app N40 Nq41
    refine own_trW st41 ?_
    show OwnGoW p e below s _ _ _ T41 (mkF m 130 #[.val (.int p1), .val (.int p2), .val (.int p3), .val (.int (4 : Int32)), .val (.int k), .val (.ref t), .val (.ref g0), .val (.ref g1), .val (.ref g2), .val (.ref g3), .unset] [])
    have Ek41_g0 := (Ek40_g0).keep Kc41
    have Fk41_g0_nextLogged := (Fk40_g0_nextLogged).keep Kc41 (ninS (Ne.symm ne_t_g0) (ninS ne_g0_g2 nin0))
    have Ek41_g1 := (Eb40).keep Kc41
    have Fk41_g1_nextLogged := (Fnb40).keep Kc41 (ninS (Ne.symm ne_t_g1) (ninS ne_g1_g2 nin0))
    have Ek41_g3 := (Ek40_g3).keep Kc41
    have Fk41_g3_nextLogged := (Fk40_g3_nextLogged).keep Kc41 (ninS (Ne.symm ne_t_g3) (ninS (Ne.symm ne_g2_g3) nin0))
    have Zk41 : k1 ≤ T41.heap.size := Nat.le_trans Zk40 Kc41.1
    have Z41 : n0 ≤ T41.heap.size := Nat.le_trans Z40 Kc41.1
    rcases own_split hk with rfl | rfl | rfl | rfl | hge
    · show OwnGoW p e below s _ _ _ T41 (mkF m 130 #[.val (.int p1), .val (.int p2), .val (.int p3), .val (.int (4 : Int32)), .val (.int (0 : Int32)), .val (.ref t), .val (.ref g0), .val (.ref g1), .val (.ref g2), .val (.ref g3), .unset] [])
      refine own_stW (T' := T41) (g' := (mkF m 188 #[.val (.int p1), .val (.int p2), .val (.int p3), .val (.int (4 : Int32)), .val (.int (0 : Int32)), .val (.ref t), .val (.ref g0), .val (.ref g1), .val (.ref g2), .val (.ref g3), .val (.ref g0)] [(.int (0 : Int32)), (.ref t)])) (fun uT uK => ?_) ?_
      · show Steps p.tables e below (T41.setTop (mkF m 130 #[.val (.int p1), .val (.int p2), .val (.int p3), .val (.int (4 : Int32)), .val (.int (0 : Int32)), .val (.ref t), .val (.ref g0), .val (.ref g1), .val (.ref g2), .val (.ref g3), .unset] [])) _
        refine XS.iload X41.here hx rfl (hb hby at_130) rfl ?_
        show Steps p.tables e below (T41.setTop (mkF m 132 #[.val (.int p1), .val (.int p2), .val (.int p3), .val (.int (4 : Int32)), .val (.int (0 : Int32)), .val (.ref t), .val (.ref g0), .val (.ref g1), .val (.ref g2), .val (.ref g3), .unset] [(.int (0 : Int32))])) _
        refine XS.iloadN X41.here hx rfl (hb hby at_132) rfl ?_
        show Steps p.tables e below (T41.setTop (mkF m 133 #[.val (.int p1), .val (.int p2), .val (.int p3), .val (.int (4 : Int32)), .val (.int (0 : Int32)), .val (.ref t), .val (.ref g0), .val (.ref g1), .val (.ref g2), .val (.ref g3), .unset] [(.int (4 : Int32)), (.int (0 : Int32))])) _
        refine XS.icmpYes X41.here hx rfl (pc0 := 133) (pc' := 142) rfl (hb hby at_133) rfl (XT.ii_lt_t (by decide)) (by decide) (by decide) ?_
        show Steps p.tables e below (T41.setTop (mkF m 142 #[.val (.int p1), .val (.int p2), .val (.int p3), .val (.int (4 : Int32)), .val (.int (0 : Int32)), .val (.ref t), .val (.ref g0), .val (.ref g1), .val (.ref g2), .val (.ref g3), .unset] [])) _
        refine XS.iload X41.here hx rfl (hb hby at_142) rfl ?_
        show Steps p.tables e below (T41.setTop (mkF m 144 #[.val (.int p1), .val (.int p2), .val (.int p3), .val (.int (4 : Int32)), .val (.int (0 : Int32)), .val (.ref t), .val (.ref g0), .val (.ref g1), .val (.ref g2), .val (.ref g3), .unset] [(.int (0 : Int32))])) _
        refine XS.ifNo X41.here hx rfl (hb hby at_144) rfl (XT.i0_ne_f (by decide)) ?_
        show Steps p.tables e below (T41.setTop (mkF m 147 #[.val (.int p1), .val (.int p2), .val (.int p3), .val (.int (4 : Int32)), .val (.int (0 : Int32)), .val (.ref t), .val (.ref g0), .val (.ref g1), .val (.ref g2), .val (.ref g3), .unset] [])) _
        refine XS.aload X41.here hx rfl (hb hby at_147) rfl rfl ?_
        show Steps p.tables e below (T41.setTop (mkF m 149 #[.val (.int p1), .val (.int p2), .val (.int p3), .val (.int (4 : Int32)), .val (.int (0 : Int32)), .val (.ref t), .val (.ref g0), .val (.ref g1), .val (.ref g2), .val (.ref g3), .unset] [(.ref g0)])) _
        refine XS.astore X41.here hx rfl (hb hby at_149) rfl rfl (l' := #[.val (.int p1), .val (.int p2), .val (.int p3), .val (.int (4 : Int32)), .val (.int (0 : Int32)), .val (.ref t), .val (.ref g0), .val (.ref g1), .val (.ref g2), .val (.ref g3), .val (.ref g0)]) rfl ?_
        show Steps p.tables e below (T41.setTop (mkF m 151 #[.val (.int p1), .val (.int p2), .val (.int p3), .val (.int (4 : Int32)), .val (.int (0 : Int32)), .val (.ref t), .val (.ref g0), .val (.ref g1), .val (.ref g2), .val (.ref g3), .val (.ref g0)] [])) _
        refine XS.goto X41.here hx rfl (pc0 := 151) (pc' := 184) rfl (hb hby at_151) (by decide) (by decide) ?_
        show Steps p.tables e below (T41.setTop (mkF m 184 #[.val (.int p1), .val (.int p2), .val (.int p3), .val (.int (4 : Int32)), .val (.int (0 : Int32)), .val (.ref t), .val (.ref g0), .val (.ref g1), .val (.ref g2), .val (.ref g3), .val (.ref g0)] [])) _
        refine XS.aload X41.here hx rfl (hb hby at_184) rfl rfl ?_
        show Steps p.tables e below (T41.setTop (mkF m 186 #[.val (.int p1), .val (.int p2), .val (.int p3), .val (.int (4 : Int32)), .val (.int (0 : Int32)), .val (.ref t), .val (.ref g0), .val (.ref g1), .val (.ref g2), .val (.ref g3), .val (.ref g0)] [(.ref t)])) _
        refine XS.iload X41.here hx rfl (hb hby at_186) rfl ?_
        exact uK
      obtain ⟨cq42, kq42, qa42, qb42, qc42⟩ := isOf hZ rfl (Ec41)
      obtain ⟨_, _, ⟨T42, L42, k42, n42⟩, -, X42, ⟨Lc42, hQ42, l42, y42, z42⟩, st42⟩ := X41.virtualBack hx (y := (⟨"com/example/liblockmode/liblockmode/core/TransactionLocks", "grantAfter", "(I)Lcom/example/liblockmode/liblockmode/core/Grant;"⟩ : MethodName)) (z := (⟨"com/example/liblockmode/liblockmode/core/TransactionLocks", "grantAfter", "(I)Lcom/example/liblockmode/liblockmode/core/Grant;"⟩ : MethodName)) hown (mvT hZ (hw _ (List.mem_of_getElem? (i := 31) rfl))) (mvT hZ (hw _ (List.mem_of_getElem? (i := 32) rfl))) (notFace_of_selects (args := #[]) (mvT hZ (hw _ (List.mem_of_getElem? (i := 34) rfl)))) (mvT hZ (hw _ (List.mem_of_getElem? (i := 34) rfl))) (mvT hZ (hw _ (List.mem_of_getElem? (i := 33) rfl))) (by decide) (backOf (W := 0) (rm4 l Z a0 hw [] t (0 : Int32) [g0, g1, g2, g3] (0) (.ref g0) (.ref g0) T41.heap n0 Z41 F_firstGrant41 ⟨rfl, _, Fk41_g0_nextLogged, ⟨rfl, _, Fk41_g1_nextLogged, ⟨rfl, _, Fnb41, ⟨rfl, _, Fk41_g3_nextLogged, rfl⟩⟩⟩⟩ rfl rfl) hZ (hw _ (List.mem_of_getElem? (i := 35) rfl)) (hw _ (List.mem_of_getElem? (i := 3) rfl)) (by decide) (by decide)) qa42 qc42 (g := (mkF m 188 #[.val (.int p1), .val (.int p2), .val (.int p3), .val (.int (4 : Int32)), .val (.int (0 : Int32)), .val (.ref t), .val (.ref g0), .val (.ref g1), .val (.ref g2), .val (.ref g3), .val (.ref g0)] [(.int (0 : Int32)), (.ref t)])) rfl (by rw [hml]; rfl) (Steps.refl _) (argsL := [(.int (0 : Int32))]) (rest := []) (lenOf own_pd2 rfl) rfl (by show 2 * 0 + _ ≤ _; exact Nat.le_of_eq rfl) (hb hby at_188) (fun _ _ => ⟨rfl, rfl, (by decide : 7 + 0 ≤ _), (by decide : 50 + 0 ≤ _)⟩)
      dsimp only [Pt.U, Pt.locs, Pt.cells, Pt.slots] at X42 l42 y42 z42 st42 hQ42
      subst l42 y42 z42
      obtain ⟨rfl, Nq42, e42⟩ := hQ42
      have N42 := Fr.app N41 Nq42
      refine own_trW st42 ?_
      show OwnGoW p e below s _ _ _ T42 (mkF m 191 #[.val (.int p1), .val (.int p2), .val (.int p3), .val (.int (4 : Int32)), .val (.int (0 : Int32)), .val (.ref t), .val (.ref g0), .val (.ref g1), .val (.ref g2), .val (.ref g3), .val (.ref g0)] [(.ref g0)])
      refine own_stW (T' := T42) (g' := (mkF m 201 #[.val (.int p1), .val (.int p2), .val (.int p3), .val (.int (4 : Int32)), .val (.int (0 : Int32)), .val (.ref t), .val (.ref g0), .val (.ref g1), .val (.ref g2), .val (.ref g3), .val (.ref g0)] [(.int (1 : Int32))])) (fun uT uK => ?_) ?_
      · show Steps p.tables e below (T42.setTop (mkF m 191 #[.val (.int p1), .val (.int p2), .val (.int p3), .val (.int (4 : Int32)), .val (.int (0 : Int32)), .val (.ref t), .val (.ref g0), .val (.ref g1), .val (.ref g2), .val (.ref g3), .val (.ref g0)] [(.ref g0)])) _
        refine XS.aload X42.here hx rfl (hb hby at_191) rfl rfl ?_
        show Steps p.tables e below (T42.setTop (mkF m 193 #[.val (.int p1), .val (.int p2), .val (.int p3), .val (.int (4 : Int32)), .val (.int (0 : Int32)), .val (.ref t), .val (.ref g0), .val (.ref g1), .val (.ref g2), .val (.ref g3), .val (.ref g0)] [(.ref g0), (.ref g0)])) _
        refine Jvm.RoadKit.acmp (g := (mkF m 193 #[.val (.int p1), .val (.int p2), .val (.int p3), .val (.int (4 : Int32)), .val (.int (0 : Int32)), .val (.ref t), .val (.ref g0), .val (.ref g1), .val (.ref g2), .val (.ref g3), .val (.ref g0)] [(.ref g0), (.ref g0)])) X42 hx rfl rfl rfl (pc0 := 193) (pc' := 196) (same := true) rfl (hb hby at_193) rfl (decide_eq_true (rfl)) (by decide) (by decide) ?_
        show Steps p.tables e below (T42.setTop (mkF m 196 #[.val (.int p1), .val (.int p2), .val (.int p3), .val (.int (4 : Int32)), .val (.int (0 : Int32)), .val (.ref t), .val (.ref g0), .val (.ref g1), .val (.ref g2), .val (.ref g3), .val (.ref g0)] [])) _
        refine XS.iconst X42.here hx rfl (hb hby at_196) ?_
        show Steps p.tables e below (T42.setTop (mkF m 197 #[.val (.int p1), .val (.int p2), .val (.int p3), .val (.int (4 : Int32)), .val (.int (0 : Int32)), .val (.ref t), .val (.ref g0), .val (.ref g1), .val (.ref g2), .val (.ref g3), .val (.ref g0)] [(.int (1 : Int32))])) _
        refine XS.goto X42.here hx rfl (pc0 := 197) (pc' := 201) rfl (hb hby at_197) (by decide) (by decide) ?_
        exact uK
      exact own_retW (v := some (.int (1 : Int32))) X42 hS (by rw [e42]; exact Zk41) hlk (fun h => by rw [hret] at h; cases h) (fun fs hr => retOut X42 hx hret rfl (Or.inl ⟨rfl, by simp, _, rfl⟩) (hb hby at_201) hr) ⟨rfl, N42⟩ (by decide) (by decide)
    · show OwnGoW p e below s _ _ _ T41 (mkF m 130 #[.val (.int p1), .val (.int p2), .val (.int p3), .val (.int (4 : Int32)), .val (.int (1 : Int32)), .val (.ref t), .val (.ref g0), .val (.ref g1), .val (.ref g2), .val (.ref g3), .unset] [])
      refine own_stW (T' := T41) (g' := (mkF m 188 #[.val (.int p1), .val (.int p2), .val (.int p3), .val (.int (4 : Int32)), .val (.int (1 : Int32)), .val (.ref t), .val (.ref g0), .val (.ref g1), .val (.ref g2), .val (.ref g3), .val (.ref g1)] [(.int (1 : Int32)), (.ref t)])) (fun uT uK => ?_) ?_
      · show Steps p.tables e below (T41.setTop (mkF m 130 #[.val (.int p1), .val (.int p2), .val (.int p3), .val (.int (4 : Int32)), .val (.int (1 : Int32)), .val (.ref t), .val (.ref g0), .val (.ref g1), .val (.ref g2), .val (.ref g3), .unset] [])) _
        refine XS.iload X41.here hx rfl (hb hby at_130) rfl ?_
        show Steps p.tables e below (T41.setTop (mkF m 132 #[.val (.int p1), .val (.int p2), .val (.int p3), .val (.int (4 : Int32)), .val (.int (1 : Int32)), .val (.ref t), .val (.ref g0), .val (.ref g1), .val (.ref g2), .val (.ref g3), .unset] [(.int (1 : Int32))])) _
        refine XS.iloadN X41.here hx rfl (hb hby at_132) rfl ?_
        show Steps p.tables e below (T41.setTop (mkF m 133 #[.val (.int p1), .val (.int p2), .val (.int p3), .val (.int (4 : Int32)), .val (.int (1 : Int32)), .val (.ref t), .val (.ref g0), .val (.ref g1), .val (.ref g2), .val (.ref g3), .unset] [(.int (4 : Int32)), (.int (1 : Int32))])) _
        refine XS.icmpYes X41.here hx rfl (pc0 := 133) (pc' := 142) rfl (hb hby at_133) rfl (XT.ii_lt_t (by decide)) (by decide) (by decide) ?_
        show Steps p.tables e below (T41.setTop (mkF m 142 #[.val (.int p1), .val (.int p2), .val (.int p3), .val (.int (4 : Int32)), .val (.int (1 : Int32)), .val (.ref t), .val (.ref g0), .val (.ref g1), .val (.ref g2), .val (.ref g3), .unset] [])) _
        refine XS.iload X41.here hx rfl (hb hby at_142) rfl ?_
        show Steps p.tables e below (T41.setTop (mkF m 144 #[.val (.int p1), .val (.int p2), .val (.int p3), .val (.int (4 : Int32)), .val (.int (1 : Int32)), .val (.ref t), .val (.ref g0), .val (.ref g1), .val (.ref g2), .val (.ref g3), .unset] [(.int (1 : Int32))])) _
        refine XS.ifYes X41.here hx rfl (pc0 := 144) (pc' := 154) rfl (hb hby at_144) rfl (XT.i0_ne_t (by decide)) (by decide) (by decide) ?_
        show Steps p.tables e below (T41.setTop (mkF m 154 #[.val (.int p1), .val (.int p2), .val (.int p3), .val (.int (4 : Int32)), .val (.int (1 : Int32)), .val (.ref t), .val (.ref g0), .val (.ref g1), .val (.ref g2), .val (.ref g3), .unset] [])) _
        refine XS.iload X41.here hx rfl (hb hby at_154) rfl ?_
        show Steps p.tables e below (T41.setTop (mkF m 156 #[.val (.int p1), .val (.int p2), .val (.int p3), .val (.int (4 : Int32)), .val (.int (1 : Int32)), .val (.ref t), .val (.ref g0), .val (.ref g1), .val (.ref g2), .val (.ref g3), .unset] [(.int (1 : Int32))])) _
        refine XS.iconst X41.here hx rfl (hb hby at_156) ?_
        show Steps p.tables e below (T41.setTop (mkF m 157 #[.val (.int p1), .val (.int p2), .val (.int p3), .val (.int (4 : Int32)), .val (.int (1 : Int32)), .val (.ref t), .val (.ref g0), .val (.ref g1), .val (.ref g2), .val (.ref g3), .unset] [(.int (1 : Int32)), (.int (1 : Int32))])) _
        refine XS.icmpNo X41.here hx rfl (hb hby at_157) rfl (XT.ii_ne_f (by decide)) ?_
        show Steps p.tables e below (T41.setTop (mkF m 160 #[.val (.int p1), .val (.int p2), .val (.int p3), .val (.int (4 : Int32)), .val (.int (1 : Int32)), .val (.ref t), .val (.ref g0), .val (.ref g1), .val (.ref g2), .val (.ref g3), .unset] [])) _
        refine XS.aload X41.here hx rfl (hb hby at_160) rfl rfl ?_
        show Steps p.tables e below (T41.setTop (mkF m 162 #[.val (.int p1), .val (.int p2), .val (.int p3), .val (.int (4 : Int32)), .val (.int (1 : Int32)), .val (.ref t), .val (.ref g0), .val (.ref g1), .val (.ref g2), .val (.ref g3), .unset] [(.ref g1)])) _
        refine XS.astore X41.here hx rfl (hb hby at_162) rfl rfl (l' := #[.val (.int p1), .val (.int p2), .val (.int p3), .val (.int (4 : Int32)), .val (.int (1 : Int32)), .val (.ref t), .val (.ref g0), .val (.ref g1), .val (.ref g2), .val (.ref g3), .val (.ref g1)]) rfl ?_
        show Steps p.tables e below (T41.setTop (mkF m 164 #[.val (.int p1), .val (.int p2), .val (.int p3), .val (.int (4 : Int32)), .val (.int (1 : Int32)), .val (.ref t), .val (.ref g0), .val (.ref g1), .val (.ref g2), .val (.ref g3), .val (.ref g1)] [])) _
        refine XS.goto X41.here hx rfl (pc0 := 164) (pc' := 184) rfl (hb hby at_164) (by decide) (by decide) ?_
        show Steps p.tables e below (T41.setTop (mkF m 184 #[.val (.int p1), .val (.int p2), .val (.int p3), .val (.int (4 : Int32)), .val (.int (1 : Int32)), .val (.ref t), .val (.ref g0), .val (.ref g1), .val (.ref g2), .val (.ref g3), .val (.ref g1)] [])) _
        refine XS.aload X41.here hx rfl (hb hby at_184) rfl rfl ?_
        show Steps p.tables e below (T41.setTop (mkF m 186 #[.val (.int p1), .val (.int p2), .val (.int p3), .val (.int (4 : Int32)), .val (.int (1 : Int32)), .val (.ref t), .val (.ref g0), .val (.ref g1), .val (.ref g2), .val (.ref g3), .val (.ref g1)] [(.ref t)])) _
        refine XS.iload X41.here hx rfl (hb hby at_186) rfl ?_
        exact uK
      obtain ⟨cq43, kq43, qa43, qb43, qc43⟩ := isOf hZ rfl (Ec41)
      obtain ⟨_, _, ⟨T43, L43, k43, n43⟩, -, X43, ⟨Lc43, hQ43, l43, y43, z43⟩, st43⟩ := X41.virtualBack hx (y := (⟨"com/example/liblockmode/liblockmode/core/TransactionLocks", "grantAfter", "(I)Lcom/example/liblockmode/liblockmode/core/Grant;"⟩ : MethodName)) (z := (⟨"com/example/liblockmode/liblockmode/core/TransactionLocks", "grantAfter", "(I)Lcom/example/liblockmode/liblockmode/core/Grant;"⟩ : MethodName)) hown (mvT hZ (hw _ (List.mem_of_getElem? (i := 31) rfl))) (mvT hZ (hw _ (List.mem_of_getElem? (i := 32) rfl))) (notFace_of_selects (args := #[]) (mvT hZ (hw _ (List.mem_of_getElem? (i := 34) rfl)))) (mvT hZ (hw _ (List.mem_of_getElem? (i := 34) rfl))) (mvT hZ (hw _ (List.mem_of_getElem? (i := 33) rfl))) (by decide) (backOf (W := 0) (rm4 l Z a0 hw [] t (1 : Int32) [g0, g1, g2, g3] (1) (.ref g0) (.ref g1) T41.heap n0 Z41 F_firstGrant41 ⟨rfl, _, Fk41_g0_nextLogged, ⟨rfl, _, Fk41_g1_nextLogged, ⟨rfl, _, Fnb41, ⟨rfl, _, Fk41_g3_nextLogged, rfl⟩⟩⟩⟩ rfl rfl) hZ (hw _ (List.mem_of_getElem? (i := 35) rfl)) (hw _ (List.mem_of_getElem? (i := 3) rfl)) (by decide) (by decide)) qa43 qc43 (g := (mkF m 188 #[.val (.int p1), .val (.int p2), .val (.int p3), .val (.int (4 : Int32)), .val (.int (1 : Int32)), .val (.ref t), .val (.ref g0), .val (.ref g1), .val (.ref g2), .val (.ref g3), .val (.ref g1)] [(.int (1 : Int32)), (.ref t)])) rfl (by rw [hml]; rfl) (Steps.refl _) (argsL := [(.int (1 : Int32))]) (rest := []) (lenOf own_pd2 rfl) rfl (by show 2 * 0 + _ ≤ _; exact Nat.le_of_eq rfl) (hb hby at_188) (fun _ _ => ⟨rfl, rfl, (by decide : 7 + 0 ≤ _), (by decide : 50 + 0 ≤ _)⟩)
      dsimp only [Pt.U, Pt.locs, Pt.cells, Pt.slots] at X43 l43 y43 z43 st43 hQ43
      subst l43 y43 z43
      obtain ⟨rfl, Nq43, e43⟩ := hQ43
      have N43 := Fr.app N41 Nq43
      refine own_trW st43 ?_
      show OwnGoW p e below s _ _ _ T43 (mkF m 191 #[.val (.int p1), .val (.int p2), .val (.int p3), .val (.int (4 : Int32)), .val (.int (1 : Int32)), .val (.ref t), .val (.ref g0), .val (.ref g1), .val (.ref g2), .val (.ref g3), .val (.ref g1)] [(.ref g1)])
      refine own_stW (T' := T43) (g' := (mkF m 201 #[.val (.int p1), .val (.int p2), .val (.int p3), .val (.int (4 : Int32)), .val (.int (1 : Int32)), .val (.ref t), .val (.ref g0), .val (.ref g1), .val (.ref g2), .val (.ref g3), .val (.ref g1)] [(.int (1 : Int32))])) (fun uT uK => ?_) ?_
      · show Steps p.tables e below (T43.setTop (mkF m 191 #[.val (.int p1), .val (.int p2), .val (.int p3), .val (.int (4 : Int32)), .val (.int (1 : Int32)), .val (.ref t), .val (.ref g0), .val (.ref g1), .val (.ref g2), .val (.ref g3), .val (.ref g1)] [(.ref g1)])) _
        refine XS.aload X43.here hx rfl (hb hby at_191) rfl rfl ?_
        show Steps p.tables e below (T43.setTop (mkF m 193 #[.val (.int p1), .val (.int p2), .val (.int p3), .val (.int (4 : Int32)), .val (.int (1 : Int32)), .val (.ref t), .val (.ref g0), .val (.ref g1), .val (.ref g2), .val (.ref g3), .val (.ref g1)] [(.ref g1), (.ref g1)])) _
        refine Jvm.RoadKit.acmp (g := (mkF m 193 #[.val (.int p1), .val (.int p2), .val (.int p3), .val (.int (4 : Int32)), .val (.int (1 : Int32)), .val (.ref t), .val (.ref g0), .val (.ref g1), .val (.ref g2), .val (.ref g3), .val (.ref g1)] [(.ref g1), (.ref g1)])) X43 hx rfl rfl rfl (pc0 := 193) (pc' := 196) (same := true) rfl (hb hby at_193) rfl (decide_eq_true (rfl)) (by decide) (by decide) ?_
        show Steps p.tables e below (T43.setTop (mkF m 196 #[.val (.int p1), .val (.int p2), .val (.int p3), .val (.int (4 : Int32)), .val (.int (1 : Int32)), .val (.ref t), .val (.ref g0), .val (.ref g1), .val (.ref g2), .val (.ref g3), .val (.ref g1)] [])) _
        refine XS.iconst X43.here hx rfl (hb hby at_196) ?_
        show Steps p.tables e below (T43.setTop (mkF m 197 #[.val (.int p1), .val (.int p2), .val (.int p3), .val (.int (4 : Int32)), .val (.int (1 : Int32)), .val (.ref t), .val (.ref g0), .val (.ref g1), .val (.ref g2), .val (.ref g3), .val (.ref g1)] [(.int (1 : Int32))])) _
        refine XS.goto X43.here hx rfl (pc0 := 197) (pc' := 201) rfl (hb hby at_197) (by decide) (by decide) ?_
        exact uK
      exact own_retW (v := some (.int (1 : Int32))) X43 hS (by rw [e43]; exact Zk41) hlk (fun h => by rw [hret] at h; cases h) (fun fs hr => retOut X43 hx hret rfl (Or.inl ⟨rfl, by simp, _, rfl⟩) (hb hby at_201) hr) ⟨rfl, N43⟩ (by decide) (by decide)
    · show OwnGoW p e below s _ _ _ T41 (mkF m 130 #[.val (.int p1), .val (.int p2), .val (.int p3), .val (.int (4 : Int32)), .val (.int (2 : Int32)), .val (.ref t), .val (.ref g0), .val (.ref g1), .val (.ref g2), .val (.ref g3), .unset] [])
      refine own_stW (T' := T41) (g' := (mkF m 188 #[.val (.int p1), .val (.int p2), .val (.int p3), .val (.int (4 : Int32)), .val (.int (2 : Int32)), .val (.ref t), .val (.ref g0), .val (.ref g1), .val (.ref g2), .val (.ref g3), .val (.ref g2)] [(.int (2 : Int32)), (.ref t)])) (fun uT uK => ?_) ?_
      · show Steps p.tables e below (T41.setTop (mkF m 130 #[.val (.int p1), .val (.int p2), .val (.int p3), .val (.int (4 : Int32)), .val (.int (2 : Int32)), .val (.ref t), .val (.ref g0), .val (.ref g1), .val (.ref g2), .val (.ref g3), .unset] [])) _
        refine XS.iload X41.here hx rfl (hb hby at_130) rfl ?_
        show Steps p.tables e below (T41.setTop (mkF m 132 #[.val (.int p1), .val (.int p2), .val (.int p3), .val (.int (4 : Int32)), .val (.int (2 : Int32)), .val (.ref t), .val (.ref g0), .val (.ref g1), .val (.ref g2), .val (.ref g3), .unset] [(.int (2 : Int32))])) _
        refine XS.iloadN X41.here hx rfl (hb hby at_132) rfl ?_
        show Steps p.tables e below (T41.setTop (mkF m 133 #[.val (.int p1), .val (.int p2), .val (.int p3), .val (.int (4 : Int32)), .val (.int (2 : Int32)), .val (.ref t), .val (.ref g0), .val (.ref g1), .val (.ref g2), .val (.ref g3), .unset] [(.int (4 : Int32)), (.int (2 : Int32))])) _
        refine XS.icmpYes X41.here hx rfl (pc0 := 133) (pc' := 142) rfl (hb hby at_133) rfl (XT.ii_lt_t (by decide)) (by decide) (by decide) ?_
        show Steps p.tables e below (T41.setTop (mkF m 142 #[.val (.int p1), .val (.int p2), .val (.int p3), .val (.int (4 : Int32)), .val (.int (2 : Int32)), .val (.ref t), .val (.ref g0), .val (.ref g1), .val (.ref g2), .val (.ref g3), .unset] [])) _
        refine XS.iload X41.here hx rfl (hb hby at_142) rfl ?_
        show Steps p.tables e below (T41.setTop (mkF m 144 #[.val (.int p1), .val (.int p2), .val (.int p3), .val (.int (4 : Int32)), .val (.int (2 : Int32)), .val (.ref t), .val (.ref g0), .val (.ref g1), .val (.ref g2), .val (.ref g3), .unset] [(.int (2 : Int32))])) _
        refine XS.ifYes X41.here hx rfl (pc0 := 144) (pc' := 154) rfl (hb hby at_144) rfl (XT.i0_ne_t (by decide)) (by decide) (by decide) ?_
        show Steps p.tables e below (T41.setTop (mkF m 154 #[.val (.int p1), .val (.int p2), .val (.int p3), .val (.int (4 : Int32)), .val (.int (2 : Int32)), .val (.ref t), .val (.ref g0), .val (.ref g1), .val (.ref g2), .val (.ref g3), .unset] [])) _
        refine XS.iload X41.here hx rfl (hb hby at_154) rfl ?_
        show Steps p.tables e below (T41.setTop (mkF m 156 #[.val (.int p1), .val (.int p2), .val (.int p3), .val (.int (4 : Int32)), .val (.int (2 : Int32)), .val (.ref t), .val (.ref g0), .val (.ref g1), .val (.ref g2), .val (.ref g3), .unset] [(.int (2 : Int32))])) _
        refine XS.iconst X41.here hx rfl (hb hby at_156) ?_
        show Steps p.tables e below (T41.setTop (mkF m 157 #[.val (.int p1), .val (.int p2), .val (.int p3), .val (.int (4 : Int32)), .val (.int (2 : Int32)), .val (.ref t), .val (.ref g0), .val (.ref g1), .val (.ref g2), .val (.ref g3), .unset] [(.int (1 : Int32)), (.int (2 : Int32))])) _
        refine XS.icmpYes X41.here hx rfl (pc0 := 157) (pc' := 167) rfl (hb hby at_157) rfl (XT.ii_ne_t (by decide)) (by decide) (by decide) ?_
        show Steps p.tables e below (T41.setTop (mkF m 167 #[.val (.int p1), .val (.int p2), .val (.int p3), .val (.int (4 : Int32)), .val (.int (2 : Int32)), .val (.ref t), .val (.ref g0), .val (.ref g1), .val (.ref g2), .val (.ref g3), .unset] [])) _
        refine XS.iload X41.here hx rfl (hb hby at_167) rfl ?_
        show Steps p.tables e below (T41.setTop (mkF m 169 #[.val (.int p1), .val (.int p2), .val (.int p3), .val (.int (4 : Int32)), .val (.int (2 : Int32)), .val (.ref t), .val (.ref g0), .val (.ref g1), .val (.ref g2), .val (.ref g3), .unset] [(.int (2 : Int32))])) _
        refine XS.iconst X41.here hx rfl (hb hby at_169) ?_
        show Steps p.tables e below (T41.setTop (mkF m 170 #[.val (.int p1), .val (.int p2), .val (.int p3), .val (.int (4 : Int32)), .val (.int (2 : Int32)), .val (.ref t), .val (.ref g0), .val (.ref g1), .val (.ref g2), .val (.ref g3), .unset] [(.int (2 : Int32)), (.int (2 : Int32))])) _
        refine XS.icmpNo X41.here hx rfl (hb hby at_170) rfl (XT.ii_ne_f (by decide)) ?_
        show Steps p.tables e below (T41.setTop (mkF m 173 #[.val (.int p1), .val (.int p2), .val (.int p3), .val (.int (4 : Int32)), .val (.int (2 : Int32)), .val (.ref t), .val (.ref g0), .val (.ref g1), .val (.ref g2), .val (.ref g3), .unset] [])) _
        refine XS.aload X41.here hx rfl (hb hby at_173) rfl rfl ?_
        show Steps p.tables e below (T41.setTop (mkF m 175 #[.val (.int p1), .val (.int p2), .val (.int p3), .val (.int (4 : Int32)), .val (.int (2 : Int32)), .val (.ref t), .val (.ref g0), .val (.ref g1), .val (.ref g2), .val (.ref g3), .unset] [(.ref g2)])) _
        refine XS.astore X41.here hx rfl (hb hby at_175) rfl rfl (l' := #[.val (.int p1), .val (.int p2), .val (.int p3), .val (.int (4 : Int32)), .val (.int (2 : Int32)), .val (.ref t), .val (.ref g0), .val (.ref g1), .val (.ref g2), .val (.ref g3), .val (.ref g2)]) rfl ?_
        show Steps p.tables e below (T41.setTop (mkF m 177 #[.val (.int p1), .val (.int p2), .val (.int p3), .val (.int (4 : Int32)), .val (.int (2 : Int32)), .val (.ref t), .val (.ref g0), .val (.ref g1), .val (.ref g2), .val (.ref g3), .val (.ref g2)] [])) _
        refine XS.goto X41.here hx rfl (pc0 := 177) (pc' := 184) rfl (hb hby at_177) (by decide) (by decide) ?_
        show Steps p.tables e below (T41.setTop (mkF m 184 #[.val (.int p1), .val (.int p2), .val (.int p3), .val (.int (4 : Int32)), .val (.int (2 : Int32)), .val (.ref t), .val (.ref g0), .val (.ref g1), .val (.ref g2), .val (.ref g3), .val (.ref g2)] [])) _
        refine XS.aload X41.here hx rfl (hb hby at_184) rfl rfl ?_
        show Steps p.tables e below (T41.setTop (mkF m 186 #[.val (.int p1), .val (.int p2), .val (.int p3), .val (.int (4 : Int32)), .val (.int (2 : Int32)), .val (.ref t), .val (.ref g0), .val (.ref g1), .val (.ref g2), .val (.ref g3), .val (.ref g2)] [(.ref t)])) _
        refine XS.iload X41.here hx rfl (hb hby at_186) rfl ?_
        exact uK
      obtain ⟨cq44, kq44, qa44, qb44, qc44⟩ := isOf hZ rfl (Ec41)
      obtain ⟨_, _, ⟨T44, L44, k44, n44⟩, -, X44, ⟨Lc44, hQ44, l44, y44, z44⟩, st44⟩ := X41.virtualBack hx (y := (⟨"com/example/liblockmode/liblockmode/core/TransactionLocks", "grantAfter", "(I)Lcom/example/liblockmode/liblockmode/core/Grant;"⟩ : MethodName)) (z := (⟨"com/example/liblockmode/liblockmode/core/TransactionLocks", "grantAfter", "(I)Lcom/example/liblockmode/liblockmode/core/Grant;"⟩ : MethodName)) hown (mvT hZ (hw _ (List.mem_of_getElem? (i := 31) rfl))) (mvT hZ (hw _ (List.mem_of_getElem? (i := 32) rfl))) (notFace_of_selects (args := #[]) (mvT hZ (hw _ (List.mem_of_getElem? (i := 34) rfl)))) (mvT hZ (hw _ (List.mem_of_getElem? (i := 34) rfl))) (mvT hZ (hw _ (List.mem_of_getElem? (i := 33) rfl))) (by decide) (backOf (W := 0) (rm4 l Z a0 hw [] t (2 : Int32) [g0, g1, g2, g3] (2) (.ref g0) (.ref g2) T41.heap n0 Z41 F_firstGrant41 ⟨rfl, _, Fk41_g0_nextLogged, ⟨rfl, _, Fk41_g1_nextLogged, ⟨rfl, _, Fnb41, ⟨rfl, _, Fk41_g3_nextLogged, rfl⟩⟩⟩⟩ rfl rfl) hZ (hw _ (List.mem_of_getElem? (i := 35) rfl)) (hw _ (List.mem_of_getElem? (i := 3) rfl)) (by decide) (by decide)) qa44 qc44 (g := (mkF m 188 #[.val (.int p1), .val (.int p2), .val (.int p3), .val (.int (4 : Int32)), .val (.int (2 : Int32)), .val (.ref t), .val (.ref g0), .val (.ref g1), .val (.ref g2), .val (.ref g3), .val (.ref g2)] [(.int (2 : Int32)), (.ref t)])) rfl (by rw [hml]; rfl) (Steps.refl _) (argsL := [(.int (2 : Int32))]) (rest := []) (lenOf own_pd2 rfl) rfl (by show 2 * 0 + _ ≤ _; exact Nat.le_of_eq rfl) (hb hby at_188) (fun _ _ => ⟨rfl, rfl, (by decide : 7 + 0 ≤ _), (by decide : 50 + 0 ≤ _)⟩)
      dsimp only [Pt.U, Pt.locs, Pt.cells, Pt.slots] at X44 l44 y44 z44 st44 hQ44
      subst l44 y44 z44
      obtain ⟨rfl, Nq44, e44⟩ := hQ44
      have N44 := Fr.app N41 Nq44
      refine own_trW st44 ?_
      show OwnGoW p e below s _ _ _ T44 (mkF m 191 #[.val (.int p1), .val (.int p2), .val (.int p3), .val (.int (4 : Int32)), .val (.int (2 : Int32)), .val (.ref t), .val (.ref g0), .val (.ref g1), .val (.ref g2), .val (.ref g3), .val (.ref g2)] [(.ref g2)])
      refine own_stW (T' := T44) (g' := (mkF m 201 #[.val (.int p1), .val (.int p2), .val (.int p3), .val (.int (4 : Int32)), .val (.int (2 : Int32)), .val (.ref t), .val (.ref g0), .val (.ref g1), .val (.ref g2), .val (.ref g3), .val (.ref g2)] [(.int (1 : Int32))])) (fun uT uK => ?_) ?_
      · show Steps p.tables e below (T44.setTop (mkF m 191 #[.val (.int p1), .val (.int p2), .val (.int p3), .val (.int (4 : Int32)), .val (.int (2 : Int32)), .val (.ref t), .val (.ref g0), .val (.ref g1), .val (.ref g2), .val (.ref g3), .val (.ref g2)] [(.ref g2)])) _
        refine XS.aload X44.here hx rfl (hb hby at_191) rfl rfl ?_
        show Steps p.tables e below (T44.setTop (mkF m 193 #[.val (.int p1), .val (.int p2), .val (.int p3), .val (.int (4 : Int32)), .val (.int (2 : Int32)), .val (.ref t), .val (.ref g0), .val (.ref g1), .val (.ref g2), .val (.ref g3), .val (.ref g2)] [(.ref g2), (.ref g2)])) _
        refine Jvm.RoadKit.acmp (g := (mkF m 193 #[.val (.int p1), .val (.int p2), .val (.int p3), .val (.int (4 : Int32)), .val (.int (2 : Int32)), .val (.ref t), .val (.ref g0), .val (.ref g1), .val (.ref g2), .val (.ref g3), .val (.ref g2)] [(.ref g2), (.ref g2)])) X44 hx rfl rfl rfl (pc0 := 193) (pc' := 196) (same := true) rfl (hb hby at_193) rfl (decide_eq_true (rfl)) (by decide) (by decide) ?_
        show Steps p.tables e below (T44.setTop (mkF m 196 #[.val (.int p1), .val (.int p2), .val (.int p3), .val (.int (4 : Int32)), .val (.int (2 : Int32)), .val (.ref t), .val (.ref g0), .val (.ref g1), .val (.ref g2), .val (.ref g3), .val (.ref g2)] [])) _
        refine XS.iconst X44.here hx rfl (hb hby at_196) ?_
        show Steps p.tables e below (T44.setTop (mkF m 197 #[.val (.int p1), .val (.int p2), .val (.int p3), .val (.int (4 : Int32)), .val (.int (2 : Int32)), .val (.ref t), .val (.ref g0), .val (.ref g1), .val (.ref g2), .val (.ref g3), .val (.ref g2)] [(.int (1 : Int32))])) _
        refine XS.goto X44.here hx rfl (pc0 := 197) (pc' := 201) rfl (hb hby at_197) (by decide) (by decide) ?_
        exact uK
      exact own_retW (v := some (.int (1 : Int32))) X44 hS (by rw [e44]; exact Zk41) hlk (fun h => by rw [hret] at h; cases h) (fun fs hr => retOut X44 hx hret rfl (Or.inl ⟨rfl, by simp, _, rfl⟩) (hb hby at_201) hr) ⟨rfl, N44⟩ (by decide) (by decide)
    · show OwnGoW p e below s _ _ _ T41 (mkF m 130 #[.val (.int p1), .val (.int p2), .val (.int p3), .val (.int (4 : Int32)), .val (.int (3 : Int32)), .val (.ref t), .val (.ref g0), .val (.ref g1), .val (.ref g2), .val (.ref g3), .unset] [])
      refine own_stW (T' := T41) (g' := (mkF m 188 #[.val (.int p1), .val (.int p2), .val (.int p3), .val (.int (4 : Int32)), .val (.int (3 : Int32)), .val (.ref t), .val (.ref g0), .val (.ref g1), .val (.ref g2), .val (.ref g3), .val (.ref g3)] [(.int (3 : Int32)), (.ref t)])) (fun uT uK => ?_) ?_
      · show Steps p.tables e below (T41.setTop (mkF m 130 #[.val (.int p1), .val (.int p2), .val (.int p3), .val (.int (4 : Int32)), .val (.int (3 : Int32)), .val (.ref t), .val (.ref g0), .val (.ref g1), .val (.ref g2), .val (.ref g3), .unset] [])) _
        refine XS.iload X41.here hx rfl (hb hby at_130) rfl ?_
        show Steps p.tables e below (T41.setTop (mkF m 132 #[.val (.int p1), .val (.int p2), .val (.int p3), .val (.int (4 : Int32)), .val (.int (3 : Int32)), .val (.ref t), .val (.ref g0), .val (.ref g1), .val (.ref g2), .val (.ref g3), .unset] [(.int (3 : Int32))])) _
        refine XS.iloadN X41.here hx rfl (hb hby at_132) rfl ?_
        show Steps p.tables e below (T41.setTop (mkF m 133 #[.val (.int p1), .val (.int p2), .val (.int p3), .val (.int (4 : Int32)), .val (.int (3 : Int32)), .val (.ref t), .val (.ref g0), .val (.ref g1), .val (.ref g2), .val (.ref g3), .unset] [(.int (4 : Int32)), (.int (3 : Int32))])) _
        refine XS.icmpYes X41.here hx rfl (pc0 := 133) (pc' := 142) rfl (hb hby at_133) rfl (XT.ii_lt_t (by decide)) (by decide) (by decide) ?_
        show Steps p.tables e below (T41.setTop (mkF m 142 #[.val (.int p1), .val (.int p2), .val (.int p3), .val (.int (4 : Int32)), .val (.int (3 : Int32)), .val (.ref t), .val (.ref g0), .val (.ref g1), .val (.ref g2), .val (.ref g3), .unset] [])) _
        refine XS.iload X41.here hx rfl (hb hby at_142) rfl ?_
        show Steps p.tables e below (T41.setTop (mkF m 144 #[.val (.int p1), .val (.int p2), .val (.int p3), .val (.int (4 : Int32)), .val (.int (3 : Int32)), .val (.ref t), .val (.ref g0), .val (.ref g1), .val (.ref g2), .val (.ref g3), .unset] [(.int (3 : Int32))])) _
        refine XS.ifYes X41.here hx rfl (pc0 := 144) (pc' := 154) rfl (hb hby at_144) rfl (XT.i0_ne_t (by decide)) (by decide) (by decide) ?_
        show Steps p.tables e below (T41.setTop (mkF m 154 #[.val (.int p1), .val (.int p2), .val (.int p3), .val (.int (4 : Int32)), .val (.int (3 : Int32)), .val (.ref t), .val (.ref g0), .val (.ref g1), .val (.ref g2), .val (.ref g3), .unset] [])) _
        refine XS.iload X41.here hx rfl (hb hby at_154) rfl ?_
        show Steps p.tables e below (T41.setTop (mkF m 156 #[.val (.int p1), .val (.int p2), .val (.int p3), .val (.int (4 : Int32)), .val (.int (3 : Int32)), .val (.ref t), .val (.ref g0), .val (.ref g1), .val (.ref g2), .val (.ref g3), .unset] [(.int (3 : Int32))])) _
        refine XS.iconst X41.here hx rfl (hb hby at_156) ?_
        show Steps p.tables e below (T41.setTop (mkF m 157 #[.val (.int p1), .val (.int p2), .val (.int p3), .val (.int (4 : Int32)), .val (.int (3 : Int32)), .val (.ref t), .val (.ref g0), .val (.ref g1), .val (.ref g2), .val (.ref g3), .unset] [(.int (1 : Int32)), (.int (3 : Int32))])) _
        refine XS.icmpYes X41.here hx rfl (pc0 := 157) (pc' := 167) rfl (hb hby at_157) rfl (XT.ii_ne_t (by decide)) (by decide) (by decide) ?_
        show Steps p.tables e below (T41.setTop (mkF m 167 #[.val (.int p1), .val (.int p2), .val (.int p3), .val (.int (4 : Int32)), .val (.int (3 : Int32)), .val (.ref t), .val (.ref g0), .val (.ref g1), .val (.ref g2), .val (.ref g3), .unset] [])) _
        refine XS.iload X41.here hx rfl (hb hby at_167) rfl ?_
        show Steps p.tables e below (T41.setTop (mkF m 169 #[.val (.int p1), .val (.int p2), .val (.int p3), .val (.int (4 : Int32)), .val (.int (3 : Int32)), .val (.ref t), .val (.ref g0), .val (.ref g1), .val (.ref g2), .val (.ref g3), .unset] [(.int (3 : Int32))])) _
        refine XS.iconst X41.here hx rfl (hb hby at_169) ?_
        show Steps p.tables e below (T41.setTop (mkF m 170 #[.val (.int p1), .val (.int p2), .val (.int p3), .val (.int (4 : Int32)), .val (.int (3 : Int32)), .val (.ref t), .val (.ref g0), .val (.ref g1), .val (.ref g2), .val (.ref g3), .unset] [(.int (2 : Int32)), (.int (3 : Int32))])) _
        refine XS.icmpYes X41.here hx rfl (pc0 := 170) (pc' := 180) rfl (hb hby at_170) rfl (XT.ii_ne_t (by decide)) (by decide) (by decide) ?_
        show Steps p.tables e below (T41.setTop (mkF m 180 #[.val (.int p1), .val (.int p2), .val (.int p3), .val (.int (4 : Int32)), .val (.int (3 : Int32)), .val (.ref t), .val (.ref g0), .val (.ref g1), .val (.ref g2), .val (.ref g3), .unset] [])) _
        refine XS.aload X41.here hx rfl (hb hby at_180) rfl rfl ?_
        show Steps p.tables e below (T41.setTop (mkF m 182 #[.val (.int p1), .val (.int p2), .val (.int p3), .val (.int (4 : Int32)), .val (.int (3 : Int32)), .val (.ref t), .val (.ref g0), .val (.ref g1), .val (.ref g2), .val (.ref g3), .unset] [(.ref g3)])) _
        refine XS.astore X41.here hx rfl (hb hby at_182) rfl rfl (l' := #[.val (.int p1), .val (.int p2), .val (.int p3), .val (.int (4 : Int32)), .val (.int (3 : Int32)), .val (.ref t), .val (.ref g0), .val (.ref g1), .val (.ref g2), .val (.ref g3), .val (.ref g3)]) rfl ?_
        show Steps p.tables e below (T41.setTop (mkF m 184 #[.val (.int p1), .val (.int p2), .val (.int p3), .val (.int (4 : Int32)), .val (.int (3 : Int32)), .val (.ref t), .val (.ref g0), .val (.ref g1), .val (.ref g2), .val (.ref g3), .val (.ref g3)] [])) _
        refine XS.aload X41.here hx rfl (hb hby at_184) rfl rfl ?_
        show Steps p.tables e below (T41.setTop (mkF m 186 #[.val (.int p1), .val (.int p2), .val (.int p3), .val (.int (4 : Int32)), .val (.int (3 : Int32)), .val (.ref t), .val (.ref g0), .val (.ref g1), .val (.ref g2), .val (.ref g3), .val (.ref g3)] [(.ref t)])) _
        refine XS.iload X41.here hx rfl (hb hby at_186) rfl ?_
        exact uK
      obtain ⟨cq45, kq45, qa45, qb45, qc45⟩ := isOf hZ rfl (Ec41)
      obtain ⟨_, _, ⟨T45, L45, k45, n45⟩, -, X45, ⟨Lc45, hQ45, l45, y45, z45⟩, st45⟩ := X41.virtualBack hx (y := (⟨"com/example/liblockmode/liblockmode/core/TransactionLocks", "grantAfter", "(I)Lcom/example/liblockmode/liblockmode/core/Grant;"⟩ : MethodName)) (z := (⟨"com/example/liblockmode/liblockmode/core/TransactionLocks", "grantAfter", "(I)Lcom/example/liblockmode/liblockmode/core/Grant;"⟩ : MethodName)) hown (mvT hZ (hw _ (List.mem_of_getElem? (i := 31) rfl))) (mvT hZ (hw _ (List.mem_of_getElem? (i := 32) rfl))) (notFace_of_selects (args := #[]) (mvT hZ (hw _ (List.mem_of_getElem? (i := 34) rfl)))) (mvT hZ (hw _ (List.mem_of_getElem? (i := 34) rfl))) (mvT hZ (hw _ (List.mem_of_getElem? (i := 33) rfl))) (by decide) (backOf (W := 0) (rm4 l Z a0 hw [] t (3 : Int32) [g0, g1, g2, g3] (3) (.ref g0) (.ref g3) T41.heap n0 Z41 F_firstGrant41 ⟨rfl, _, Fk41_g0_nextLogged, ⟨rfl, _, Fk41_g1_nextLogged, ⟨rfl, _, Fnb41, ⟨rfl, _, Fk41_g3_nextLogged, rfl⟩⟩⟩⟩ rfl rfl) hZ (hw _ (List.mem_of_getElem? (i := 35) rfl)) (hw _ (List.mem_of_getElem? (i := 3) rfl)) (by decide) (by decide)) qa45 qc45 (g := (mkF m 188 #[.val (.int p1), .val (.int p2), .val (.int p3), .val (.int (4 : Int32)), .val (.int (3 : Int32)), .val (.ref t), .val (.ref g0), .val (.ref g1), .val (.ref g2), .val (.ref g3), .val (.ref g3)] [(.int (3 : Int32)), (.ref t)])) rfl (by rw [hml]; rfl) (Steps.refl _) (argsL := [(.int (3 : Int32))]) (rest := []) (lenOf own_pd2 rfl) rfl (by show 2 * 0 + _ ≤ _; exact Nat.le_of_eq rfl) (hb hby at_188) (fun _ _ => ⟨rfl, rfl, (by decide : 7 + 0 ≤ _), (by decide : 50 + 0 ≤ _)⟩)
      dsimp only [Pt.U, Pt.locs, Pt.cells, Pt.slots] at X45 l45 y45 z45 st45 hQ45
      subst l45 y45 z45
      obtain ⟨rfl, Nq45, e45⟩ := hQ45
      have N45 := Fr.app N41 Nq45
      refine own_trW st45 ?_
      show OwnGoW p e below s _ _ _ T45 (mkF m 191 #[.val (.int p1), .val (.int p2), .val (.int p3), .val (.int (4 : Int32)), .val (.int (3 : Int32)), .val (.ref t), .val (.ref g0), .val (.ref g1), .val (.ref g2), .val (.ref g3), .val (.ref g3)] [(.ref g3)])
      refine own_stW (T' := T45) (g' := (mkF m 201 #[.val (.int p1), .val (.int p2), .val (.int p3), .val (.int (4 : Int32)), .val (.int (3 : Int32)), .val (.ref t), .val (.ref g0), .val (.ref g1), .val (.ref g2), .val (.ref g3), .val (.ref g3)] [(.int (1 : Int32))])) (fun uT uK => ?_) ?_
      · show Steps p.tables e below (T45.setTop (mkF m 191 #[.val (.int p1), .val (.int p2), .val (.int p3), .val (.int (4 : Int32)), .val (.int (3 : Int32)), .val (.ref t), .val (.ref g0), .val (.ref g1), .val (.ref g2), .val (.ref g3), .val (.ref g3)] [(.ref g3)])) _
        refine XS.aload X45.here hx rfl (hb hby at_191) rfl rfl ?_
        show Steps p.tables e below (T45.setTop (mkF m 193 #[.val (.int p1), .val (.int p2), .val (.int p3), .val (.int (4 : Int32)), .val (.int (3 : Int32)), .val (.ref t), .val (.ref g0), .val (.ref g1), .val (.ref g2), .val (.ref g3), .val (.ref g3)] [(.ref g3), (.ref g3)])) _
        refine Jvm.RoadKit.acmp (g := (mkF m 193 #[.val (.int p1), .val (.int p2), .val (.int p3), .val (.int (4 : Int32)), .val (.int (3 : Int32)), .val (.ref t), .val (.ref g0), .val (.ref g1), .val (.ref g2), .val (.ref g3), .val (.ref g3)] [(.ref g3), (.ref g3)])) X45 hx rfl rfl rfl (pc0 := 193) (pc' := 196) (same := true) rfl (hb hby at_193) rfl (decide_eq_true (rfl)) (by decide) (by decide) ?_
        show Steps p.tables e below (T45.setTop (mkF m 196 #[.val (.int p1), .val (.int p2), .val (.int p3), .val (.int (4 : Int32)), .val (.int (3 : Int32)), .val (.ref t), .val (.ref g0), .val (.ref g1), .val (.ref g2), .val (.ref g3), .val (.ref g3)] [])) _
        refine XS.iconst X45.here hx rfl (hb hby at_196) ?_
        show Steps p.tables e below (T45.setTop (mkF m 197 #[.val (.int p1), .val (.int p2), .val (.int p3), .val (.int (4 : Int32)), .val (.int (3 : Int32)), .val (.ref t), .val (.ref g0), .val (.ref g1), .val (.ref g2), .val (.ref g3), .val (.ref g3)] [(.int (1 : Int32))])) _
        refine XS.goto X45.here hx rfl (pc0 := 197) (pc' := 201) rfl (hb hby at_197) (by decide) (by decide) ?_
        exact uK
      exact own_retW (v := some (.int (1 : Int32))) X45 hS (by rw [e45]; exact Zk41) hlk (fun h => by rw [hret] at h; cases h) (fun fs hr => retOut X45 hx hret rfl (Or.inl ⟨rfl, by simp, _, rfl⟩) (hb hby at_201) hr) ⟨rfl, N45⟩ (by decide) (by decide)
    · show OwnGoW p e below s _ _ _ T41 (mkF m 130 #[.val (.int p1), .val (.int p2), .val (.int p3), .val (.int (4 : Int32)), .val (.int k), .val (.ref t), .val (.ref g0), .val (.ref g1), .val (.ref g2), .val (.ref g3), .unset] [])
      refine own_stW (T' := T41) (g' := (mkF m 188 #[.val (.int p1), .val (.int p2), .val (.int p3), .val (.int (4 : Int32)), .val (.int k), .val (.ref t), .val (.ref g0), .val (.ref g1), .val (.ref g2), .val (.ref g3), .val .null] [(.int k), (.ref t)])) (fun uT uK => ?_) ?_
      · show Steps p.tables e below (T41.setTop (mkF m 130 #[.val (.int p1), .val (.int p2), .val (.int p3), .val (.int (4 : Int32)), .val (.int k), .val (.ref t), .val (.ref g0), .val (.ref g1), .val (.ref g2), .val (.ref g3), .unset] [])) _
        refine XS.iload X41.here hx rfl (hb hby at_130) rfl ?_
        show Steps p.tables e below (T41.setTop (mkF m 132 #[.val (.int p1), .val (.int p2), .val (.int p3), .val (.int (4 : Int32)), .val (.int k), .val (.ref t), .val (.ref g0), .val (.ref g1), .val (.ref g2), .val (.ref g3), .unset] [(.int k)])) _
        refine XS.iloadN X41.here hx rfl (hb hby at_132) rfl ?_
        show Steps p.tables e below (T41.setTop (mkF m 133 #[.val (.int p1), .val (.int p2), .val (.int p3), .val (.int (4 : Int32)), .val (.int k), .val (.ref t), .val (.ref g0), .val (.ref g1), .val (.ref g2), .val (.ref g3), .unset] [(.int (4 : Int32)), (.int k)])) _
        refine XS.icmpNo X41.here hx rfl (hb hby at_133) rfl (XT.ii_lt_f (own_ge hge (by decide))) ?_
        show Steps p.tables e below (T41.setTop (mkF m 136 #[.val (.int p1), .val (.int p2), .val (.int p3), .val (.int (4 : Int32)), .val (.int k), .val (.ref t), .val (.ref g0), .val (.ref g1), .val (.ref g2), .val (.ref g3), .unset] [])) _
        refine XS.aconstNull X41.here hx rfl (hb hby at_136) ?_
        show Steps p.tables e below (T41.setTop (mkF m 137 #[.val (.int p1), .val (.int p2), .val (.int p3), .val (.int (4 : Int32)), .val (.int k), .val (.ref t), .val (.ref g0), .val (.ref g1), .val (.ref g2), .val (.ref g3), .unset] [.null])) _
        refine XS.astore X41.here hx rfl (hb hby at_137) rfl rfl (l' := #[.val (.int p1), .val (.int p2), .val (.int p3), .val (.int (4 : Int32)), .val (.int k), .val (.ref t), .val (.ref g0), .val (.ref g1), .val (.ref g2), .val (.ref g3), .val .null]) rfl ?_
        show Steps p.tables e below (T41.setTop (mkF m 139 #[.val (.int p1), .val (.int p2), .val (.int p3), .val (.int (4 : Int32)), .val (.int k), .val (.ref t), .val (.ref g0), .val (.ref g1), .val (.ref g2), .val (.ref g3), .val .null] [])) _
        refine XS.goto X41.here hx rfl (pc0 := 139) (pc' := 184) rfl (hb hby at_139) (by decide) (by decide) ?_
        show Steps p.tables e below (T41.setTop (mkF m 184 #[.val (.int p1), .val (.int p2), .val (.int p3), .val (.int (4 : Int32)), .val (.int k), .val (.ref t), .val (.ref g0), .val (.ref g1), .val (.ref g2), .val (.ref g3), .val .null] [])) _
        refine XS.aload X41.here hx rfl (hb hby at_184) rfl rfl ?_
        show Steps p.tables e below (T41.setTop (mkF m 186 #[.val (.int p1), .val (.int p2), .val (.int p3), .val (.int (4 : Int32)), .val (.int k), .val (.ref t), .val (.ref g0), .val (.ref g1), .val (.ref g2), .val (.ref g3), .val .null] [(.ref t)])) _
        refine XS.iload X41.here hx rfl (hb hby at_186) rfl ?_
        exact uK
      obtain ⟨cq46, kq46, qa46, qb46, qc46⟩ := isOf hZ rfl (Ec41)
      obtain ⟨_, _, ⟨T46, L46, k46, n46⟩, -, X46, ⟨Lc46, hQ46, l46, y46, z46⟩, st46⟩ := X41.virtualBack hx (y := (⟨"com/example/liblockmode/liblockmode/core/TransactionLocks", "grantAfter", "(I)Lcom/example/liblockmode/liblockmode/core/Grant;"⟩ : MethodName)) (z := (⟨"com/example/liblockmode/liblockmode/core/TransactionLocks", "grantAfter", "(I)Lcom/example/liblockmode/liblockmode/core/Grant;"⟩ : MethodName)) hown (mvT hZ (hw _ (List.mem_of_getElem? (i := 31) rfl))) (mvT hZ (hw _ (List.mem_of_getElem? (i := 32) rfl))) (notFace_of_selects (args := #[]) (mvT hZ (hw _ (List.mem_of_getElem? (i := 34) rfl)))) (mvT hZ (hw _ (List.mem_of_getElem? (i := 34) rfl))) (mvT hZ (hw _ (List.mem_of_getElem? (i := 33) rfl))) (by decide) (backOf (W := 0) (rm4 l Z a0 hw [] t k [g0, g1, g2, g3] (k.toInt.toNat) (.ref g0) .null T41.heap n0 Z41 F_firstGrant41 ⟨rfl, _, Fk41_g0_nextLogged, ⟨rfl, _, Fk41_g1_nextLogged, ⟨rfl, _, Fnb41, ⟨rfl, _, Fk41_g3_nextLogged, rfl⟩⟩⟩⟩ (by omega) (own_at_far _ _ (by show 4 ≤ _; omega))) hZ (hw _ (List.mem_of_getElem? (i := 35) rfl)) (hw _ (List.mem_of_getElem? (i := 3) rfl)) (by decide) (by decide)) qa46 qc46 (g := (mkF m 188 #[.val (.int p1), .val (.int p2), .val (.int p3), .val (.int (4 : Int32)), .val (.int k), .val (.ref t), .val (.ref g0), .val (.ref g1), .val (.ref g2), .val (.ref g3), .val .null] [(.int k), (.ref t)])) rfl (by rw [hml]; rfl) (Steps.refl _) (argsL := [(.int k)]) (rest := []) (lenOf own_pd2 rfl) rfl (by show 2 * 0 + _ ≤ _; exact Nat.le_of_eq rfl) (hb hby at_188) (fun _ _ => ⟨rfl, rfl, (by decide : 7 + 0 ≤ _), (by decide : 50 + 0 ≤ _)⟩)
      dsimp only [Pt.U, Pt.locs, Pt.cells, Pt.slots] at X46 l46 y46 z46 st46 hQ46
      subst l46 y46 z46
      obtain ⟨rfl, Nq46, e46⟩ := hQ46
      have N46 := Fr.app N41 Nq46
      refine own_trW st46 ?_
      show OwnGoW p e below s _ _ _ T46 (mkF m 191 #[.val (.int p1), .val (.int p2), .val (.int p3), .val (.int (4 : Int32)), .val (.int k), .val (.ref t), .val (.ref g0), .val (.ref g1), .val (.ref g2), .val (.ref g3), .val .null] [.null])
      refine own_stW (T' := T46) (g' := (mkF m 201 #[.val (.int p1), .val (.int p2), .val (.int p3), .val (.int (4 : Int32)), .val (.int k), .val (.ref t), .val (.ref g0), .val (.ref g1), .val (.ref g2), .val (.ref g3), .val .null] [(.int (1 : Int32))])) (fun uT uK => ?_) ?_
      · show Steps p.tables e below (T46.setTop (mkF m 191 #[.val (.int p1), .val (.int p2), .val (.int p3), .val (.int (4 : Int32)), .val (.int k), .val (.ref t), .val (.ref g0), .val (.ref g1), .val (.ref g2), .val (.ref g3), .val .null] [.null])) _
        refine XS.aload X46.here hx rfl (hb hby at_191) rfl rfl ?_
        show Steps p.tables e below (T46.setTop (mkF m 193 #[.val (.int p1), .val (.int p2), .val (.int p3), .val (.int (4 : Int32)), .val (.int k), .val (.ref t), .val (.ref g0), .val (.ref g1), .val (.ref g2), .val (.ref g3), .val .null] [.null, .null])) _
        refine Jvm.RoadKit.acmp (g := (mkF m 193 #[.val (.int p1), .val (.int p2), .val (.int p3), .val (.int (4 : Int32)), .val (.int k), .val (.ref t), .val (.ref g0), .val (.ref g1), .val (.ref g2), .val (.ref g3), .val .null] [.null, .null])) X46 hx rfl rfl rfl (pc0 := 193) (pc' := 196) (same := true) rfl (hb hby at_193) rfl (decide_eq_true (rfl)) (by decide) (by decide) ?_
        show Steps p.tables e below (T46.setTop (mkF m 196 #[.val (.int p1), .val (.int p2), .val (.int p3), .val (.int (4 : Int32)), .val (.int k), .val (.ref t), .val (.ref g0), .val (.ref g1), .val (.ref g2), .val (.ref g3), .val .null] [])) _
        refine XS.iconst X46.here hx rfl (hb hby at_196) ?_
        show Steps p.tables e below (T46.setTop (mkF m 197 #[.val (.int p1), .val (.int p2), .val (.int p3), .val (.int (4 : Int32)), .val (.int k), .val (.ref t), .val (.ref g0), .val (.ref g1), .val (.ref g2), .val (.ref g3), .val .null] [(.int (1 : Int32))])) _
        refine XS.goto X46.here hx rfl (pc0 := 197) (pc' := 201) rfl (hb hby at_197) (by decide) (by decide) ?_
        exact uK
      exact own_retW (v := some (.int (1 : Int32))) X46 hS (by rw [e46]; exact Zk41) hlk (fun h => by rw [hret] at h; cases h) (fun fs hr => retOut X46 hx hret rfl (Or.inl ⟨rfl, by simp, _, rfl⟩) (hb hby at_201) hr) ⟨rfl, N46⟩ (by decide) (by decide)
theorem own_ef_rm0 (m : MethodId) (x0 : Int32) (x1 : Int32) (x2 : Int32) : entryFrame m #[(.int x0), (.int x1), (.int x2)] maxLocals = mkF m 0 #[.val (.int x0), .val (.int x1), .val (.int x2), .unset, .unset, .unset, .unset, .unset, .unset, .unset, .unset] [] := by first | (simp [entryFrame, mkF, argsToLocals, Value.category, maxLocals]; done) | rfl
set_option maxRecDepth 65536 in
set_option maxHeartbeats 40000000 in
theorem rm0 (l : Launch) (Z : State) (a0 : Array Value) (hw : ∀ d ∈ tables_1, d.before a0 Z = true) (ws : List Jvm.Cond) (p1 : Int32) (p2 : Int32) (p3 : Int32) (h0 : Heap) (n0 : Nat) (Z0 : n0 ≤ h0.size) :
    MetFree l x (head1 (Jvm.Cond.code x code maxLocals ret :: ws) room_1) (fun aQ UQ => aQ = #[(.int p1), (.int p2), (.int p3)] ∧ Z.Warmed39 UQ.vm ∧ UQ.heap = h0) (fun _ _ _ _ _ => True) (fun _ UQ oQ UR => ∃ vQ LQ, oQ = .returned vQ ∧ Q0 Z p1 p2 p3 h0 n0 vQ UR.heap LQ ∧ ReturnedEndW UQ oQ UR LQ room_1.cells room_1.slots) := by
  refine MetFree.of_bodySF (plainFor_of_name pn_0) hisR ?_
  intro p e s m args below meth c s₁ Bd hml0 hP hK
  obtain ⟨rfl, hZ, hh⟩ := hP
  have hx := Bd.exec
  have hby := Bd.bytes
  have hml : c.maxLocals = 11 := hml0
  have hown : s.vm.findClass "com/example/liblockmode/liblockmode/core/TransactionLocksGrantAfterPinLaw" = some m.cls := findClass_of_methodNamed Bd.named
  have hnm := (name_of_methodNamed Bd.named Bd.method).1
  have hret := Bd.returns
  have hlk : meth.locks = false := Bd.notSynchronized
  have X0 : Stand p l e room_1 s m #[(.int p1), (.int p2), (.int p3)] below meth c s₁ [] 0 0 := Stand.of_body Bd
  have e0 : s₁.heap = h0 := by rw [← hh, Bd.state]; rfl
  have N0 := Fr.nil n0
  have K : Ctx0 p s m meth c Z a0 := ⟨hx, hZ, hw, hby, hml, hown, hret, hlk, hnm⟩
  show OwnGoW p e below s room_1.cells room_1.slots (Q0 Z p1 p2 p3 h0 n0) s₁ (entryFrame m #[(.int p1), (.int p2), (.int p3)] maxLocals)
  refine own_castW (own_ef_rm0 m p1 p2 p3) ?_
  show OwnGoW p e below s _ _ _ s₁ (mkF m 0 #[.val (.int p1), .val (.int p2), .val (.int p3), .unset, .unset, .unset, .unset, .unset, .unset, .unset, .unset] [])
  refine own_stW (T' := s₁) (g' := (mkF m 10 #[.val (.int p1), .val (.int p2), .val (.int p3), .val (.int ((p1 &&& (2147483647 : Int32)) % (5 : Int32))), .unset, .unset, .unset, .unset, .unset, .unset, .unset] [(.int (p3 &&& (1 : Int32)))])) (fun uT uK => ?_) ?_
  · show Steps p.tables e below (s₁.setTop (mkF m 0 #[.val (.int p1), .val (.int p2), .val (.int p3), .unset, .unset, .unset, .unset, .unset, .unset, .unset, .unset] [])) _
    refine XS.iloadN X0.here hx rfl (hb hby at_0) rfl ?_
    show Steps p.tables e below (s₁.setTop (mkF m 1 #[.val (.int p1), .val (.int p2), .val (.int p3), .unset, .unset, .unset, .unset, .unset, .unset, .unset, .unset] [(.int p1)])) _
    refine X0.ldcInt hx hown (mvT hZ (hw _ (List.mem_of_getElem? (i := 0) rfl))) (g := (mkF m 1 #[.val (.int p1), .val (.int p2), .val (.int p3), .unset, .unset, .unset, .unset, .unset, .unset, .unset, .unset] [(.int p1)])) rfl (hb hby at_1) _ ?_
    show Steps p.tables e below (s₁.setTop (mkF m 3 #[.val (.int p1), .val (.int p2), .val (.int p3), .unset, .unset, .unset, .unset, .unset, .unset, .unset, .unset] [(.int (2147483647 : Int32)), (.int p1)])) _
    refine XS.iand X0.here hx rfl (hb hby at_3) rfl ?_
    show Steps p.tables e below (s₁.setTop (mkF m 4 #[.val (.int p1), .val (.int p2), .val (.int p3), .unset, .unset, .unset, .unset, .unset, .unset, .unset, .unset] [(.int (p1 &&& (2147483647 : Int32)))])) _
    refine XS.iconst X0.here hx rfl (hb hby at_4) ?_
    show Steps p.tables e below (s₁.setTop (mkF m 5 #[.val (.int p1), .val (.int p2), .val (.int p3), .unset, .unset, .unset, .unset, .unset, .unset, .unset, .unset] [(.int (5 : Int32)), (.int (p1 &&& (2147483647 : Int32)))])) _
    refine iremM X0 hx rfl (hb hby at_5) rfl (by decide) ?_
    show Steps p.tables e below (s₁.setTop (mkF m 6 #[.val (.int p1), .val (.int p2), .val (.int p3), .unset, .unset, .unset, .unset, .unset, .unset, .unset, .unset] [(.int ((p1 &&& (2147483647 : Int32)) % (5 : Int32)))])) _
    refine XS.istoreN X0.here hx rfl (hb hby at_6) rfl (l' := #[.val (.int p1), .val (.int p2), .val (.int p3), .val (.int ((p1 &&& (2147483647 : Int32)) % (5 : Int32))), .unset, .unset, .unset, .unset, .unset, .unset, .unset]) rfl ?_
    show Steps p.tables e below (s₁.setTop (mkF m 7 #[.val (.int p1), .val (.int p2), .val (.int p3), .val (.int ((p1 &&& (2147483647 : Int32)) % (5 : Int32))), .unset, .unset, .unset, .unset, .unset, .unset, .unset] [])) _
    refine XS.iloadN X0.here hx rfl (hb hby at_7) rfl ?_
    show Steps p.tables e below (s₁.setTop (mkF m 8 #[.val (.int p1), .val (.int p2), .val (.int p3), .val (.int ((p1 &&& (2147483647 : Int32)) % (5 : Int32))), .unset, .unset, .unset, .unset, .unset, .unset, .unset] [(.int p3)])) _
    refine XS.iconst X0.here hx rfl (hb hby at_8) ?_
    show Steps p.tables e below (s₁.setTop (mkF m 9 #[.val (.int p1), .val (.int p2), .val (.int p3), .val (.int ((p1 &&& (2147483647 : Int32)) % (5 : Int32))), .unset, .unset, .unset, .unset, .unset, .unset, .unset] [(.int (1 : Int32)), (.int p3)])) _
    refine XS.iand X0.here hx rfl (hb hby at_9) rfl ?_
    exact uK
  by_cases hc10 : (p3 &&& (1 : Int32)) = (0 : Int32)
  · refine own_stW (T' := s₁) (g' := (mkF m 28 #[.val (.int p1), .val (.int p2), .val (.int p3), .val (.int ((p1 &&& (2147483647 : Int32)) % (5 : Int32))), .val (.int (p2 &&& (2147483647 : Int32))), .unset, .unset, .unset, .unset, .unset, .unset] [])) (fun uT uK => ?_) ?_
    · show Steps p.tables e below (s₁.setTop (mkF m 10 #[.val (.int p1), .val (.int p2), .val (.int p3), .val (.int ((p1 &&& (2147483647 : Int32)) % (5 : Int32))), .unset, .unset, .unset, .unset, .unset, .unset, .unset] [(.int (p3 &&& (1 : Int32)))])) _
      refine XS.ifYes X0.here hx rfl (pc0 := 10) (pc' := 22) rfl (hb hby at_10) rfl (XT.i0_eq_t hc10) (by decide) (by decide) ?_
      show Steps p.tables e below (s₁.setTop (mkF m 22 #[.val (.int p1), .val (.int p2), .val (.int p3), .val (.int ((p1 &&& (2147483647 : Int32)) % (5 : Int32))), .unset, .unset, .unset, .unset, .unset, .unset, .unset] [])) _
      refine XS.iloadN X0.here hx rfl (hb hby at_22) rfl ?_
      show Steps p.tables e below (s₁.setTop (mkF m 23 #[.val (.int p1), .val (.int p2), .val (.int p3), .val (.int ((p1 &&& (2147483647 : Int32)) % (5 : Int32))), .unset, .unset, .unset, .unset, .unset, .unset, .unset] [(.int p2)])) _
      refine X0.ldcInt hx hown (mvT hZ (hw _ (List.mem_of_getElem? (i := 0) rfl))) (g := (mkF m 23 #[.val (.int p1), .val (.int p2), .val (.int p3), .val (.int ((p1 &&& (2147483647 : Int32)) % (5 : Int32))), .unset, .unset, .unset, .unset, .unset, .unset, .unset] [(.int p2)])) rfl (hb hby at_23) _ ?_
      show Steps p.tables e below (s₁.setTop (mkF m 25 #[.val (.int p1), .val (.int p2), .val (.int p3), .val (.int ((p1 &&& (2147483647 : Int32)) % (5 : Int32))), .unset, .unset, .unset, .unset, .unset, .unset, .unset] [(.int (2147483647 : Int32)), (.int p2)])) _
      refine XS.iand X0.here hx rfl (hb hby at_25) rfl ?_
      show Steps p.tables e below (s₁.setTop (mkF m 26 #[.val (.int p1), .val (.int p2), .val (.int p3), .val (.int ((p1 &&& (2147483647 : Int32)) % (5 : Int32))), .unset, .unset, .unset, .unset, .unset, .unset, .unset] [(.int (p2 &&& (2147483647 : Int32)))])) _
      refine XS.istore X0.here hx rfl (hb hby at_26) rfl (l' := #[.val (.int p1), .val (.int p2), .val (.int p3), .val (.int ((p1 &&& (2147483647 : Int32)) % (5 : Int32))), .val (.int (p2 &&& (2147483647 : Int32))), .unset, .unset, .unset, .unset, .unset, .unset]) rfl ?_
      exact uK
    exact own_t28 p1 p2 p3 _ (p2 &&& (2147483647 : Int32)) h0 (own_n p1) (own_k2 p2) K X0 e0 N0 Z0
  · refine own_stW (T' := s₁) (g' := (mkF m 28 #[.val (.int p1), .val (.int p2), .val (.int p3), .val (.int ((p1 &&& (2147483647 : Int32)) % (5 : Int32))), .val (.int (p2 &&& (7 : Int32))), .unset, .unset, .unset, .unset, .unset, .unset] [])) (fun uT uK => ?_) ?_
    · show Steps p.tables e below (s₁.setTop (mkF m 10 #[.val (.int p1), .val (.int p2), .val (.int p3), .val (.int ((p1 &&& (2147483647 : Int32)) % (5 : Int32))), .unset, .unset, .unset, .unset, .unset, .unset, .unset] [(.int (p3 &&& (1 : Int32)))])) _
      refine XS.ifNo X0.here hx rfl (hb hby at_10) rfl (XT.i0_eq_f hc10) ?_
      show Steps p.tables e below (s₁.setTop (mkF m 13 #[.val (.int p1), .val (.int p2), .val (.int p3), .val (.int ((p1 &&& (2147483647 : Int32)) % (5 : Int32))), .unset, .unset, .unset, .unset, .unset, .unset, .unset] [])) _
      refine XS.iloadN X0.here hx rfl (hb hby at_13) rfl ?_
      show Steps p.tables e below (s₁.setTop (mkF m 14 #[.val (.int p1), .val (.int p2), .val (.int p3), .val (.int ((p1 &&& (2147483647 : Int32)) % (5 : Int32))), .unset, .unset, .unset, .unset, .unset, .unset, .unset] [(.int p2)])) _
      refine XS.bipush X0.here hx rfl (hb hby at_14) ?_
      show Steps p.tables e below (s₁.setTop (mkF m 16 #[.val (.int p1), .val (.int p2), .val (.int p3), .val (.int ((p1 &&& (2147483647 : Int32)) % (5 : Int32))), .unset, .unset, .unset, .unset, .unset, .unset, .unset] [(.int (7 : Int32)), (.int p2)])) _
      refine XS.iand X0.here hx rfl (hb hby at_16) rfl ?_
      show Steps p.tables e below (s₁.setTop (mkF m 17 #[.val (.int p1), .val (.int p2), .val (.int p3), .val (.int ((p1 &&& (2147483647 : Int32)) % (5 : Int32))), .unset, .unset, .unset, .unset, .unset, .unset, .unset] [(.int (p2 &&& (7 : Int32)))])) _
      refine XS.istore X0.here hx rfl (hb hby at_17) rfl (l' := #[.val (.int p1), .val (.int p2), .val (.int p3), .val (.int ((p1 &&& (2147483647 : Int32)) % (5 : Int32))), .val (.int (p2 &&& (7 : Int32))), .unset, .unset, .unset, .unset, .unset, .unset]) rfl ?_
      show Steps p.tables e below (s₁.setTop (mkF m 19 #[.val (.int p1), .val (.int p2), .val (.int p3), .val (.int ((p1 &&& (2147483647 : Int32)) % (5 : Int32))), .val (.int (p2 &&& (7 : Int32))), .unset, .unset, .unset, .unset, .unset, .unset] [])) _
      refine XS.goto X0.here hx rfl (pc0 := 19) (pc' := 28) rfl (hb hby at_19) (by decide) (by decide) ?_
      exact uK
    exact own_t28 p1 p2 p3 _ (p2 &&& (7 : Int32)) h0 (own_n p1) (own_k1 p2) K X0 e0 N0 Z0
set_option maxRecDepth 65536 in
set_option maxHeartbeats 40000000 in
theorem comes_1 {Post : Tables → Env → Array Value → State → Outcome → State → Prop} (hpost : ∀ tb e args s v u, (limb_1_1.after args s (.returned v) u = true ∧ limb_1_2.after args s (.returned v) u = true ∧ True) → Jvm.D.FramedW s (.returned v) u (Jvm.fieldLocs frame_1_writes args s ++ Jvm.arrayLocs frame_1_arrays args s ++ Jvm.staticLocs frame_1_statics s) 24 1216 → Post tb e args s (.returned v) u) :
    ArmFor flags0 classFile x code maxLocals ret World_1 tables_1 room_1 Calls_1 rest_1 Pre_1 Post := by
  intro l hfl _ _ p e ha hc hk s m args below hf hA hF happ hP
  obtain ⟨hcalls, hrest, hpre⟩ := hP
  obtain ⟨-, -, -, hnamed, -, -, -, hat⟩ := (Spec.applies_iff hf).mp happ
  obtain ⟨hg, hn⟩ := and_e (Cond.before_iff.mp (show (Jvm.Cond.and given_1 narrow_1).before args s = true from hpre))
  obtain ⟨hcount, ha0⟩ := and_e hg
  obtain ⟨hv0, ha1⟩ := and_e ha0
  obtain ⟨hv1, ha2⟩ := and_e ha1
  have hv2 := ha2
  obtain ⟨w0, w1, w2, rfl⟩ : ∃ w0 w1 w2 : Value, args = #[w0, w1, w2] := by
    have hs : args.size = 3 := by simpa [Cond.value, given_1] using hcount
    obtain ⟨L⟩ := args
    match L, hs with
    | [w0, w1, w2], _ => exact ⟨w0, w1, w2, rfl⟩
  have hw := fun d (hd : d ∈ tables_1) => atoms_spec (ws := Jvm.Cond.code x code maxLocals ret :: tables_1) hat d (List.mem_cons_of_mem _ hd)
  obtain ⟨i0, ei0⟩ := is_v hv0
  obtain rfl : w0 = (.int i0) := Option.some.inj ei0
  obtain ⟨i1, ei1⟩ := is_v hv1
  obtain rfl : w1 = (.int i1) := Option.some.inj ei1
  obtain ⟨i2, ei2⟩ := is_v hv2
  obtain rfl : w2 = (.int i2) := Option.some.inj ei2
  obtain ⟨n, o, h1, h2, h3, _, L, rfl, ⟨rfl, N⟩, hq⟩ := rm0 l s _ hw tables_1 i0 i1 i2 s.heap s.heap.size (Nat.le_refl _) p e ha hc hk s m _ below hf ((Spec.applies_iff_loose hf).mp happ).1 ⟨rfl, State.Warmed39.refl s, rfl⟩ trivial
  refine ⟨n, _, h1, h2, h3, hpost _ _ _ _ _ _ ⟨Cond.after_iff.mpr rfl, Cond.after_iff.mpr (eq_i res_at (Term.int_eval (1)) rfl), trivial⟩ ⟨hq.1, hq.2.1, hq.2.2.1, (hq.2.2.2.sift fun y hy => Or.inr (N y hy)).mono (by decide) (by decide)⟩⟩
theorem main_1_1 : Claimed_1_1 := comes_1 fun _ _ _ _ _ _ h hF => ⟨h.1, hF⟩
theorem main_1_2 : Claimed_1_2 := comes_1 fun _ _ _ _ _ _ h hF => ⟨h.2.1, hF⟩
end Jvm.Pilot.@@N@@
namespace Jvm.Pilot.@@N@@
open Jvm Jvm.ClassFile Sem Op Lib Jvm.Free Jvm.Stand Jvm.Pilot.@@N@@.Jvm.D
/-! MADE BY PROGRAM (witnessworld.py) out of the Statement's table words and the real class files: 13 classes; the members and pool entries that the words name. The judged class is class 1, her method 1. -/
namespace start1
open Jvm.ClassFile
def u (s : String) : CpInfo := .utf8 (stringToUtf16 s)
/-- a pool by its gaps: so many unusable entries, then the entry; so many at the end -/
def gap : Nat → List CpInfo → List CpInfo
  | 0, r => r
  | n + 1, r => .unusable :: gap n r
def poolList (es : List (Nat × CpInfo)) (last : Nat) : List CpInfo := es.foldr (fun e r => gap e.1 (e.2 :: r)) (gap last [])
def pool (es : List (Nat × CpInfo)) (last : Nat) : Array CpInfo := ⟨poolList es last⟩
def fileOf (pool : Array CpInfo) (this : Nat) (attrs : Array Attribute := #[]) (ms : Array MethodInfo := #[]) (fl : Nat := 33) (sup : Nat := 0) (ifs : Array Nat := #[]) (fds : Array FieldInfo := #[]) : ClassFile where
  minorVersion := 0
  majorVersion := 65
  constantPool := pool
  accessFlags := fl
  thisClass := this
  superClass := sup
  interfaces := ifs
  fields := fds
  methods := ms
  attributes := attrs
def plain (name : String) (sup : Option ClassId) : Class where
  name := name
  kind := .ordinary
  loader := none
  accessFlags := 33
  super := sup
  interfaces := #[]
  cf := none
  fields := #[]
  methods := #[]
  instanceTypes := #[]
  staticTypes := #[]
  resolved := #[]
  callSites := []
  init := .initialized
  statics := none
  mirror := none

def pool0 : Array CpInfo := pool [(5, u "<init>"), (0, u "()V"), (1, .class_ 10), (1, u "java/lang/Object")] 113

def k0c0 : Code := { maxStack := 0, maxLocals := 1, code := object_method_1_code, exceptionTable := #[], attributes := #[] }
def k0m0 : Method := { name := "<init>", desc := "()V", sig := { parameters := [], returnType := none }, accessFlags := 1, code := some k0c0 }
/-- java/lang/Object -/
def k0 : Class := { plain "java/lang/Object" none with
  accessFlags := 33
  interfaces := #[]
  cf := some (fileOf pool0 8 #[] #[{ accessFlags := 1, nameIndex := 5, descriptorIndex := 6, attributes := #[] }] 33 0 #[] #[])
  fields := #[]
  methods := #[k0m0]
  instanceTypes := #[]
  staticTypes := #[]
  resolved := Array.replicate 124 none
  statics := none }

def pool1 : Array CpInfo := pool [(2, .class_ 4), (1, u "java/lang/Object"), (0, u "<init>"), (0, u "()V"), (0, .integer 2147483647), (0, .class_ 9), (0, u "com/example/liblockmode/liblockmode/core/TransactionLocks"), (0, .string 11), (0, u "t"), (0, .methodref 8 13), (0, .nameAndType 5 14), (0, u "(Ljava/lang/String;)V"), (0, .class_ 16), (0, u "com/example/liblockmode/liblockmode/core/Grant"), (0, .methodref 15 18), (0, .nameAndType 5 19), (0, u "(Lcom/example/liblockmode/liblockmode/core/LockedObject;Lcom/example/liblockmode/liblockmode/model/LockMode;)V"), (0, .methodref 8 21), (0, .nameAndType 22 23), (0, u "log"), (0, u "(Lcom/example/liblockmode/liblockmode/core/Grant;)V"), (0, .methodref 8 25), (0, .nameAndType 26 27), (0, u "grantAfter"), (0, u "(I)Lcom/example/liblockmode/liblockmode/core/Grant;"), (0, .class_ 29), (0, u "com/example/liblockmode/liblockmode/core/TransactionLocksGrantAfterPinLaw"), (2, u "law"), (0, u "(III)Z")] 3

def k1m0 : Method := { name := "<init>", desc := "()V", sig := { parameters := [], returnType := none }, accessFlags := 1, code := none }
def k1c1 : Code := { maxStack := 4, maxLocals := 11, code := code, exceptionTable := #[], attributes := #[] }
def k1m1 : Method := { name := "law", desc := "(III)Z", sig := { parameters := [.int, .int, .int], returnType := some .boolean }, accessFlags := 9, code := some k1c1 }
/-- com/example/liblockmode/liblockmode/core/TransactionLocksGrantAfterPinLaw -/
def k1 : Class := { plain "com/example/liblockmode/liblockmode/core/TransactionLocksGrantAfterPinLaw" (some 0) with
  accessFlags := 49
  interfaces := #[]
  cf := some (fileOf pool1 28 #[] #[{ accessFlags := 1, nameIndex := 5, descriptorIndex := 6, attributes := #[] }, { accessFlags := 9, nameIndex := 32, descriptorIndex := 33, attributes := #[] }] 49 2 #[] #[])
  fields := #[]
  methods := #[k1m0, k1m1]
  instanceTypes := #[]
  staticTypes := #[]
  resolved := Array.replicate 37 none
  statics := none }

def pool2 : Array CpInfo := pool [(1, .methodref 2 3), (0, .class_ 4), (0, .nameAndType 5 6), (0, u "java/lang/Object"), (0, u "<init>"), (0, u "()V"), (0, .fieldref 8 9), (0, .class_ 10), (0, .nameAndType 11 12), (0, u "com/example/liblockmode/liblockmode/core/TransactionLocks"), (0, u "name"), (0, u "Ljava/lang/String;"), (2, u "started"), (0, u "J"), (2, u "beginning"), (0, u "Lcom/example/liblockmode/liblockmode/clock/LockClock$Mark;"), (2, u "number"), (22, u "(Ljava/lang/String;)V"), (2, u "unsettled"), (0, u "Lcom/example/liblockmode/liblockmode/core/LockRequest;"), (2, u "waiting"), (0, .fieldref 8 55), (0, .nameAndType 56 57), (0, u "lastGrant"), (0, u "Lcom/example/liblockmode/liblockmode/core/Grant;"), (0, .fieldref 8 59), (0, .nameAndType 60 57), (0, u "firstGrant"), (0, .fieldref 62 63), (0, .class_ 64), (0, .nameAndType 65 57), (0, u "com/example/liblockmode/liblockmode/core/Grant"), (0, u "nextLogged"), (0, .fieldref 8 67), (0, .nameAndType 68 69), (0, u "grantCount"), (0, u "I"), (0, .fieldref 8 71), (0, .nameAndType 72 73), (0, u "modesByObject"), (0, u "Ljava/util/Map;"), (46, u "grantAfter"), (0, u "(I)Lcom/example/liblockmode/liblockmode/core/Grant;"), (4, u "SEARCHED_GRANTS"), (17, u "log"), (0, u "(Lcom/example/liblockmode/liblockmode/core/Grant;)V")] 42

def k2c0 : Code := { maxStack := 2, maxLocals := 2, code := prog_56_method_1_code, exceptionTable := #[], attributes := #[] }
def k2m0 : Method := { name := "<init>", desc := "(Ljava/lang/String;)V", sig := { parameters := [(.object "java/lang/String")], returnType := none }, accessFlags := 1, code := some k2c0 }
def k2c1 : Code := { maxStack := 4, maxLocals := 2, code := prog_56_method_13_code, exceptionTable := #[], attributes := #[] }
def k2m1 : Method := { name := "log", desc := "(Lcom/example/liblockmode/liblockmode/core/Grant;)V", sig := { parameters := [(.object "com/example/liblockmode/liblockmode/core/Grant")], returnType := none }, accessFlags := 0, code := some k2c1 }
def k2c2 : Code := { maxStack := 2, maxLocals := 4, code := prog_56_method_17_code, exceptionTable := #[], attributes := #[] }
def k2m2 : Method := { name := "grantAfter", desc := "(I)Lcom/example/liblockmode/liblockmode/core/Grant;", sig := { parameters := [.int], returnType := some (.object "com/example/liblockmode/liblockmode/core/Grant") }, accessFlags := 0, code := some k2c2 }
/-- com/example/liblockmode/liblockmode/core/TransactionLocks -/
def k2 : Class := { plain "com/example/liblockmode/liblockmode/core/TransactionLocks" (some 0) with
  accessFlags := 49
  interfaces := #[]
  cf := some (fileOf pool2 8 #[] #[{ accessFlags := 1, nameIndex := 5, descriptorIndex := 46, attributes := #[] }, { accessFlags := 0, nameIndex := 144, descriptorIndex := 145, attributes := #[] }, { accessFlags := 0, nameIndex := 120, descriptorIndex := 121, attributes := #[] }] 49 2 #[] #[{ accessFlags := 26, nameIndex := 126, descriptorIndex := 69, attributes := #[] }, { accessFlags := 18, nameIndex := 11, descriptorIndex := 12, attributes := #[] }, { accessFlags := 2, nameIndex := 60, descriptorIndex := 57, attributes := #[] }, { accessFlags := 2, nameIndex := 56, descriptorIndex := 57, attributes := #[] }, { accessFlags := 2, nameIndex := 68, descriptorIndex := 69, attributes := #[] }, { accessFlags := 2, nameIndex := 72, descriptorIndex := 73, attributes := #[] }, { accessFlags := 2, nameIndex := 53, descriptorIndex := 50, attributes := #[] }, { accessFlags := 66, nameIndex := 49, descriptorIndex := 50, attributes := #[] }, { accessFlags := 2, nameIndex := 15, descriptorIndex := 16, attributes := #[] }, { accessFlags := 2, nameIndex := 19, descriptorIndex := 20, attributes := #[] }, { accessFlags := 2, nameIndex := 23, descriptorIndex := 16, attributes := #[] }])
  fields := #[{ name := "SEARCHED_GRANTS", type := .int, accessFlags := 26, slot := 0, constantValue := 0 }, { name := "name", type := (.object "java/lang/String"), accessFlags := 18, slot := 0, constantValue := 0 }, { name := "firstGrant", type := (.object "com/example/liblockmode/liblockmode/core/Grant"), accessFlags := 2, slot := 1, constantValue := 0 }, { name := "lastGrant", type := (.object "com/example/liblockmode/liblockmode/core/Grant"), accessFlags := 2, slot := 2, constantValue := 0 }, { name := "grantCount", type := .int, accessFlags := 2, slot := 3, constantValue := 0 }, { name := "modesByObject", type := (.object "java/util/Map"), accessFlags := 2, slot := 4, constantValue := 0 }, { name := "waiting", type := (.object "com/example/liblockmode/liblockmode/core/LockRequest"), accessFlags := 2, slot := 5, constantValue := 0 }, { name := "unsettled", type := (.object "com/example/liblockmode/liblockmode/core/LockRequest"), accessFlags := 66, slot := 6, constantValue := 0 }, { name := "started", type := .long, accessFlags := 2, slot := 7, constantValue := 0 }, { name := "beginning", type := (.object "com/example/liblockmode/liblockmode/clock/LockClock$Mark"), accessFlags := 2, slot := 8, constantValue := 0 }, { name := "number", type := .long, accessFlags := 2, slot := 9, constantValue := 0 }]
  methods := #[k2m0, k2m1, k2m2]
  instanceTypes := #[(.object "java/lang/String"), (.object "com/example/liblockmode/liblockmode/core/Grant"), (.object "com/example/liblockmode/liblockmode/core/Grant"), .int, (.object "java/util/Map"), (.object "com/example/liblockmode/liblockmode/core/LockRequest"), (.object "com/example/liblockmode/liblockmode/core/LockRequest"), .long, (.object "com/example/liblockmode/liblockmode/clock/LockClock$Mark"), .long]
  staticTypes := #[.int]
  resolved := Array.replicate 188 none
  statics := none }

def pool3 : Array CpInfo := pool [(1, .class_ 2), (0, u "java/io/Serializable"), (0, .class_ 4), (0, u "java/lang/Object")] 2

/-- java/io/Serializable -/
def k3 : Class := { plain "java/io/Serializable" (some 0) with
  accessFlags := 1537
  interfaces := #[]
  cf := some (fileOf pool3 1 #[] #[] 1537 3 #[] #[])
  fields := #[]
  methods := #[]
  instanceTypes := #[]
  staticTypes := #[]
  resolved := Array.replicate 7 none
  statics := none }

def pool4 : Array CpInfo := pool [(1, .class_ 2), (0, u "java/lang/Comparable"), (0, .class_ 4), (0, u "java/lang/Object")] 7

/-- java/lang/Comparable -/
def k4 : Class := { plain "java/lang/Comparable" (some 0) with
  accessFlags := 1537
  interfaces := #[]
  cf := some (fileOf pool4 1 #[] #[] 1537 3 #[] #[])
  fields := #[]
  methods := #[]
  instanceTypes := #[]
  staticTypes := #[]
  resolved := Array.replicate 12 none
  statics := none }

def pool5 : Array CpInfo := pool [(2, .class_ 4), (1, u "java/lang/CharSequence"), (42, .class_ 48), (0, u "java/lang/CharSequence$1CodePointIterator"), (10, .class_ 60), (0, u "java/lang/CharSequence$1CharIterator"), (5, .class_ 67), (0, u "java/lang/Object")] 63

/-- java/lang/CharSequence -/
def k5 : Class := { plain "java/lang/CharSequence" (some 0) with
  accessFlags := 1537
  interfaces := #[]
  cf := some (fileOf pool5 2 #[.nestMembers #[47, 59]] #[] 1537 66 #[] #[])
  fields := #[]
  methods := #[]
  instanceTypes := #[]
  staticTypes := #[]
  resolved := Array.replicate 131 none
  statics := none }

def pool6 : Array CpInfo := pool [(1, .class_ 2), (0, u "java/lang/constant/Constable"), (0, .class_ 4), (0, u "java/lang/Object")] 6

/-- java/lang/constant/Constable -/
def k6 : Class := { plain "java/lang/constant/Constable" (some 0) with
  accessFlags := 1537
  interfaces := #[]
  cf := some (fileOf pool6 1 #[] #[] 1537 3 #[] #[])
  fields := #[]
  methods := #[]
  instanceTypes := #[]
  staticTypes := #[]
  resolved := Array.replicate 11 none
  statics := none }

def pool7 : Array CpInfo := pool [(1, .class_ 2), (0, u "java/lang/constant/ConstantDesc"), (0, .class_ 4), (0, u "java/lang/Object")] 32

/-- java/lang/constant/ConstantDesc -/
def k7 : Class := { plain "java/lang/constant/ConstantDesc" (some 0) with
  accessFlags := 1537
  interfaces := #[]
  cf := some (fileOf pool7 1 #[] #[] 1537 3 #[] #[])
  fields := #[]
  methods := #[]
  instanceTypes := #[]
  staticTypes := #[]
  resolved := Array.replicate 37 none
  statics := none }

def pool8 : Array CpInfo := pool [(2, .class_ 4), (1, u "java/lang/Object"), (0, u "<init>"), (0, u "()V"), (3, .class_ 12), (1, u "java/lang/String"), (0, u "value"), (0, u "[B"), (2, u "coder"), (0, u "B"), (2, u "hash"), (0, u "I"), (2, u "hashIsZero"), (0, u "Z"), (13, u "COMPACT_STRINGS"), (534, .class_ 576), (0, u "java/lang/CharSequence"), (22, u "CASE_INSENSITIVE_ORDER"), (0, u "Ljava/util/Comparator;"), (500, u "serialPersistentFields"), (0, u "[Ljava/io/ObjectStreamField;"), (0, .class_ 1104), (0, u "java/lang/String$CaseInsensitiveComparator"), (1, .class_ 1107), (0, u "java/io/Serializable"), (0, .class_ 1109), (0, u "java/lang/Comparable"), (0, .class_ 1111), (0, u "java/lang/constant/Constable"), (0, .class_ 1113), (0, u "java/lang/constant/ConstantDesc"), (2, u "serialVersionUID"), (0, u "J"), (3, u "REPL"), (0, u "C"), (2, u "LATIN1"), (1, u "UTF16")] 323

def k8m0 : Method := { name := "<init>", desc := "()V", sig := { parameters := [], returnType := none }, accessFlags := 1, code := none }
/-- java/lang/String -/
def k8 : Class := { plain "java/lang/String" (some 0) with
  accessFlags := 49
  interfaces := #[3, 4, 5, 6, 7]
  cf := some (fileOf pool8 10 #[.nestMembers #[1103]] #[{ accessFlags := 1, nameIndex := 5, descriptorIndex := 6, attributes := #[] }] 49 2 #[1106, 1108, 575, 1110, 1112] #[{ accessFlags := 18, nameIndex := 13, descriptorIndex := 14, attributes := #[] }, { accessFlags := 18, nameIndex := 17, descriptorIndex := 18, attributes := #[] }, { accessFlags := 2, nameIndex := 21, descriptorIndex := 22, attributes := #[] }, { accessFlags := 2, nameIndex := 25, descriptorIndex := 26, attributes := #[] }, { accessFlags := 26, nameIndex := 1116, descriptorIndex := 1117, attributes := #[] }, { accessFlags := 24, nameIndex := 40, descriptorIndex := 26, attributes := #[] }, { accessFlags := 26, nameIndex := 1101, descriptorIndex := 1102, attributes := #[] }, { accessFlags := 26, nameIndex := 1121, descriptorIndex := 1122, attributes := #[] }, { accessFlags := 25, nameIndex := 599, descriptorIndex := 600, attributes := #[] }, { accessFlags := 24, nameIndex := 1125, descriptorIndex := 18, attributes := #[] }, { accessFlags := 24, nameIndex := 1127, descriptorIndex := 18, attributes := #[] }])
  fields := #[{ name := "value", type := (.array .byte), accessFlags := 18, slot := 0, constantValue := 0 }, { name := "coder", type := .byte, accessFlags := 18, slot := 1, constantValue := 0 }, { name := "hash", type := .int, accessFlags := 2, slot := 2, constantValue := 0 }, { name := "hashIsZero", type := .boolean, accessFlags := 2, slot := 3, constantValue := 0 }, { name := "serialVersionUID", type := .long, accessFlags := 26, slot := 0, constantValue := 0 }, { name := "COMPACT_STRINGS", type := .boolean, accessFlags := 24, slot := 1, constantValue := 0 }, { name := "serialPersistentFields", type := (.array (.object "java/io/ObjectStreamField")), accessFlags := 26, slot := 2, constantValue := 0 }, { name := "REPL", type := .char, accessFlags := 26, slot := 3, constantValue := 0 }, { name := "CASE_INSENSITIVE_ORDER", type := (.object "java/util/Comparator"), accessFlags := 25, slot := 4, constantValue := 0 }, { name := "LATIN1", type := .byte, accessFlags := 24, slot := 5, constantValue := 0 }, { name := "UTF16", type := .byte, accessFlags := 24, slot := 6, constantValue := 0 }]
  methods := #[k8m0]
  instanceTypes := #[(.array .byte), .byte, .int, .boolean]
  staticTypes := #[.long, .boolean, (.array (.object "java/io/ObjectStreamField")), .char, (.object "java/util/Comparator"), .byte, .byte]
  resolved := Array.replicate 1451 none
  statics := none }

def pool9 : Array CpInfo := pool [(1, .methodref 2 3), (0, .class_ 4), (0, .nameAndType 5 6), (0, u "java/lang/Object"), (0, u "<init>"), (0, u "()V"), (0, .fieldref 8 9), (0, .class_ 10), (0, .nameAndType 11 12), (0, u "com/example/liblockmode/liblockmode/core/Grant"), (0, u "object"), (0, u "Lcom/example/liblockmode/liblockmode/core/LockedObject;"), (0, .fieldref 8 14), (0, .nameAndType 15 16), (0, u "mode"), (0, u "Lcom/example/liblockmode/liblockmode/model/LockMode;"), (26, u "holder"), (0, u "Lcom/example/liblockmode/liblockmode/core/TransactionLocks;"), (2, u "granted"), (0, u "Lcom/example/liblockmode/liblockmode/clock/LockClock$Mark;"), (8, u "cell"), (0, u "Lcom/example/liblockmode/liblockmode/core/LockedObject$Cell;"), (0, u "earlier"), (0, u "Lcom/example/liblockmode/liblockmode/core/Grant;"), (0, u "later"), (0, u "nextLogged"), (0, u "(Lcom/example/liblockmode/liblockmode/core/LockedObject;Lcom/example/liblockmode/liblockmode/model/LockMode;)V")] 44

def k9c0 : Code := { maxStack := 2, maxLocals := 3, code := prog_39_method_1_code, exceptionTable := #[], attributes := #[] }
def k9m0 : Method := { name := "<init>", desc := "(Lcom/example/liblockmode/liblockmode/core/LockedObject;Lcom/example/liblockmode/liblockmode/model/LockMode;)V", sig := { parameters := [(.object "com/example/liblockmode/liblockmode/core/LockedObject"), (.object "com/example/liblockmode/liblockmode/model/LockMode")], returnType := none }, accessFlags := 0, code := some k9c0 }
/-- com/example/liblockmode/liblockmode/core/Grant -/
def k9 : Class := { plain "com/example/liblockmode/liblockmode/core/Grant" (some 0) with
  accessFlags := 48
  interfaces := #[]
  cf := some (fileOf pool9 8 #[] #[{ accessFlags := 0, nameIndex := 5, descriptorIndex := 63, attributes := #[] }] 48 2 #[] #[{ accessFlags := 18, nameIndex := 11, descriptorIndex := 12, attributes := #[] }, { accessFlags := 18, nameIndex := 15, descriptorIndex := 16, attributes := #[] }, { accessFlags := 2, nameIndex := 43, descriptorIndex := 44, attributes := #[] }, { accessFlags := 2, nameIndex := 47, descriptorIndex := 48, attributes := #[] }, { accessFlags := 2, nameIndex := 57, descriptorIndex := 58, attributes := #[] }, { accessFlags := 0, nameIndex := 59, descriptorIndex := 60, attributes := #[] }, { accessFlags := 0, nameIndex := 61, descriptorIndex := 60, attributes := #[] }, { accessFlags := 0, nameIndex := 62, descriptorIndex := 60, attributes := #[] }])
  fields := #[{ name := "object", type := (.object "com/example/liblockmode/liblockmode/core/LockedObject"), accessFlags := 18, slot := 0, constantValue := 0 }, { name := "mode", type := (.object "com/example/liblockmode/liblockmode/model/LockMode"), accessFlags := 18, slot := 1, constantValue := 0 }, { name := "holder", type := (.object "com/example/liblockmode/liblockmode/core/TransactionLocks"), accessFlags := 2, slot := 2, constantValue := 0 }, { name := "granted", type := (.object "com/example/liblockmode/liblockmode/clock/LockClock$Mark"), accessFlags := 2, slot := 3, constantValue := 0 }, { name := "cell", type := (.object "com/example/liblockmode/liblockmode/core/LockedObject$Cell"), accessFlags := 2, slot := 4, constantValue := 0 }, { name := "earlier", type := (.object "com/example/liblockmode/liblockmode/core/Grant"), accessFlags := 0, slot := 5, constantValue := 0 }, { name := "later", type := (.object "com/example/liblockmode/liblockmode/core/Grant"), accessFlags := 0, slot := 6, constantValue := 0 }, { name := "nextLogged", type := (.object "com/example/liblockmode/liblockmode/core/Grant"), accessFlags := 0, slot := 7, constantValue := 0 }]
  methods := #[k9m0]
  instanceTypes := #[(.object "com/example/liblockmode/liblockmode/core/LockedObject"), (.object "com/example/liblockmode/liblockmode/model/LockMode"), (.object "com/example/liblockmode/liblockmode/core/TransactionLocks"), (.object "com/example/liblockmode/liblockmode/clock/LockClock$Mark"), (.object "com/example/liblockmode/liblockmode/core/LockedObject$Cell"), (.object "com/example/liblockmode/liblockmode/core/Grant"), (.object "com/example/liblockmode/liblockmode/core/Grant"), (.object "com/example/liblockmode/liblockmode/core/Grant")]
  staticTypes := #[]
  resolved := Array.replicate 108 none
  statics := none }

def pool10 : Array CpInfo := pool [(1, u "java/lang/Cloneable"), (0, .class_ 1), (0, u "java/lang/Object"), (0, .class_ 3)] 3

/-- java/lang/Cloneable -/
def k10 : Class := { plain "java/lang/Cloneable" (some 0) with
  accessFlags := 1537
  interfaces := #[]
  cf := some (fileOf pool10 2 #[] #[] 1537 4 #[] #[])
  fields := #[]
  methods := #[]
  instanceTypes := #[]
  staticTypes := #[]
  resolved := Array.replicate 8 none
  statics := none }

/-- the primitive byte -/
def k11 : Class := { plain "byte" none with kind := .primitive 'B', accessFlags := 0x411 }
/-- [B -/
def k12 : Class := { plain "[B" (some 0) with kind := .array 11 .byte, interfaces := #[10, 3], accessFlags := 1041 }

def heap : Heap := #[]
def classes : Array Class := #[k0, k1, k2, k3, k4, k5, k6, k7, k8, k9, k10, k11, k12]
def interned : List (Array UInt16 × Addr) := []
def slotsUsed : Nat := 0
def theMethod : MethodId := ⟨1, 1⟩
def args0 : Array Value := #[.int 3, .int 1, .int 1]
def aboutOver (below : List Frame) : State where
  vm := { classes := classes, interned := interned.toArray }
  heap := heap
  slotsUsed := slotsUsed
  threads := #[{ frames := .invoking theMethod args0 :: below }]
def below0 : List Frame := [.native { method := ⟨0, 0⟩, args := #[] }]
def about1 : State := aboutOver below0
def p0 : Program := .bare "" "" ""
def e0 : Env := launch0.env 0 0 0
theorem w_frames : about1.frames = Frame.invoking theMethod args0 :: below0 := rfl
set_option maxRecDepth 65536 in
theorem w_args : argsFit about1.vm theMethod args0 = true := by decide +kernel
set_option maxRecDepth 65536 in
theorem w_heap : heapFits about1 = true := by decide +kernel
set_option maxRecDepth 65536 in
theorem w_runnable : about1.curStatus? = some .runnable := by decide +kernel
set_option maxRecDepth 65536 in
theorem w_alone : about1.alone = true := by decide +kernel
set_option maxRecDepth 65536 in
theorem w_named : about1.methodNamed? x = some theMethod := by decide +kernel
set_option maxRecDepth 65536 in
theorem w_hears : about1.hears theMethod below0 = true := by decide +kernel
set_option maxRecDepth 65536 in
theorem w_ripe : about1.ripe theMethod args0 below0 = true := by decide +kernel
theorem w_running : about1.status = .running := rfl
set_option maxRecDepth 65536 in
theorem w_room : about1.hasRoom e0.platform room_1 = true :=
  launch0.hasRoom_least _ room_1 (by decide +kernel) (by decide +kernel) (by decide +kernel) (by decide +kernel) (by decide +kernel) (by decide +kernel)
theorem allAtoms_all (ts : List Jvm.Cond) (a : Array Jvm.Value) (st : Jvm.State) : (allAtoms ts).before a st = ts.all (fun c => c.before a st) := by
  induction ts with
  | nil => rfl
  | cons c t ih =>
    show (Jvm.Cond.and c (allAtoms t)).before a st = _
    rw [Jvm.Cond.before_and, ih, List.all_cons]
def words1 : List Jvm.Cond := Jvm.Cond.code x code maxLocals ret :: tables_1
/-- a 'code' word, met by the world's own term for the bytes: nothing is compared byte by byte -/
theorem code_word {y : MethodName} {bytes : ByteArray} {mx : Nat} {rt : Option FieldType} {a : Array Value} {s : State} {m : MethodId} {meth : Method} {c : Code} (h1 : s.methodNamed? y = some m) (h2 : s.vm.method? m = some meth) (h3 : meth.code = some c) (h4 : c.code = bytes)
    (h5 : (c.maxLocals == mx && c.exceptionTable.isEmpty && decide (c.maxStack ≤ mostOperands) && decide (meth.sig.returnType = rt) && !meth.locks && decide (parseMethodDescriptor y.desc = some meth.sig)) = true) : (Jvm.Cond.code y bytes mx rt).before a s = true := by
  simp only [Bool.and_eq_true, beq_iff_eq, Bool.not_eq_true', decide_eq_true_eq] at h5
  obtain ⟨⟨⟨⟨⟨g1, g2⟩, g3⟩, g4⟩, g5⟩, g6⟩ := h5
  simp [Cond.before, Cond.holds, Cond.value, h1, h2, h3, h4, g1, g2, g3, g4, g5, g6]
def isCode : Jvm.Cond → Bool
  | .code _ _ _ _ => true
  | _ => false
theorem all_split {L : List Jvm.Cond} {P : Jvm.Cond → Bool} (h1 : L.all (fun c => isCode c || P c) = true) (h2 : ∀ c ∈ L.filter isCode, P c = true) : L.all P = true := by
  refine List.all_eq_true.mpr fun c hc => ?_
  have h := List.all_eq_true.mp h1 c hc
  rcases Bool.eq_false_or_eq_true (isCode c) with hi | hi
  · exact h2 c (List.mem_filter.mpr ⟨hc, hi⟩)
  · simpa [hi] using h
set_option maxRecDepth 65536 in
theorem w_c0 : (Jvm.Cond.code x code maxLocals ret).before args0 about1 = true := code_word (m := ⟨1, 1⟩) (meth := k1m1) (c := k1c1) (by decide +kernel) rfl rfl rfl (by decide +kernel)
set_option maxRecDepth 65536 in
theorem w_c1 : (Jvm.Cond.code ({ cls := "com/example/liblockmode/liblockmode/core/TransactionLocks", name := "<init>", desc := "(Ljava/lang/String;)V" } : Jvm.MethodName) prog_56_method_1_code (2 : Nat) (Option.none : Option Jvm.ClassFile.FieldType)).before args0 about1 = true := code_word (m := ⟨2, 0⟩) (meth := k2m0) (c := k2c0) (by decide +kernel) rfl rfl rfl (by decide +kernel)
set_option maxRecDepth 65536 in
theorem w_c2 : (Jvm.Cond.code ({ cls := "java/lang/Object", name := "<init>", desc := "()V" } : Jvm.MethodName) object_method_1_code (1 : Nat) (Option.none : Option Jvm.ClassFile.FieldType)).before args0 about1 = true := code_word (m := ⟨0, 0⟩) (meth := k0m0) (c := k0c0) (by decide +kernel) rfl rfl rfl (by decide +kernel)
set_option maxRecDepth 65536 in
theorem w_c3 : (Jvm.Cond.code ({ cls := "com/example/liblockmode/liblockmode/core/Grant", name := "<init>", desc := "(Lcom/example/liblockmode/liblockmode/core/LockedObject;Lcom/example/liblockmode/liblockmode/model/LockMode;)V" } : Jvm.MethodName) prog_39_method_1_code (3 : Nat) (Option.none : Option Jvm.ClassFile.FieldType)).before args0 about1 = true := code_word (m := ⟨9, 0⟩) (meth := k9m0) (c := k9c0) (by decide +kernel) rfl rfl rfl (by decide +kernel)
set_option maxRecDepth 65536 in
theorem w_c4 : (Jvm.Cond.code ({ cls := "com/example/liblockmode/liblockmode/core/TransactionLocks", name := "grantAfter", desc := "(I)Lcom/example/liblockmode/liblockmode/core/Grant;" } : Jvm.MethodName) prog_56_method_17_code (4 : Nat) (Option.some (Jvm.ClassFile.FieldType.object "com/example/liblockmode/liblockmode/core/Grant"))).before args0 about1 = true := code_word (m := ⟨2, 2⟩) (meth := k2m2) (c := k2c2) (by decide +kernel) rfl rfl rfl (by decide +kernel)
set_option maxRecDepth 65536 in
theorem w_c5 : (Jvm.Cond.code ({ cls := "com/example/liblockmode/liblockmode/core/TransactionLocks", name := "log", desc := "(Lcom/example/liblockmode/liblockmode/core/Grant;)V" } : Jvm.MethodName) prog_56_method_13_code (2 : Nat) (Option.none : Option Jvm.ClassFile.FieldType)).before args0 about1 = true := code_word (m := ⟨2, 1⟩) (meth := k2m1) (c := k2c1) (by decide +kernel) rfl rfl rfl (by decide +kernel)
def codes1 : List Jvm.Cond := [Jvm.Cond.code x code maxLocals ret, Jvm.Cond.code ({ cls := "com/example/liblockmode/liblockmode/core/TransactionLocks", name := "<init>", desc := "(Ljava/lang/String;)V" } : Jvm.MethodName) prog_56_method_1_code (2 : Nat) (Option.none : Option Jvm.ClassFile.FieldType), Jvm.Cond.code ({ cls := "java/lang/Object", name := "<init>", desc := "()V" } : Jvm.MethodName) object_method_1_code (1 : Nat) (Option.none : Option Jvm.ClassFile.FieldType), Jvm.Cond.code ({ cls := "com/example/liblockmode/liblockmode/core/Grant", name := "<init>", desc := "(Lcom/example/liblockmode/liblockmode/core/LockedObject;Lcom/example/liblockmode/liblockmode/model/LockMode;)V" } : Jvm.MethodName) prog_39_method_1_code (3 : Nat) (Option.none : Option Jvm.ClassFile.FieldType), Jvm.Cond.code ({ cls := "com/example/liblockmode/liblockmode/core/TransactionLocks", name := "grantAfter", desc := "(I)Lcom/example/liblockmode/liblockmode/core/Grant;" } : Jvm.MethodName) prog_56_method_17_code (4 : Nat) (Option.some (Jvm.ClassFile.FieldType.object "com/example/liblockmode/liblockmode/core/Grant")), Jvm.Cond.code ({ cls := "com/example/liblockmode/liblockmode/core/TransactionLocks", name := "log", desc := "(Lcom/example/liblockmode/liblockmode/core/Grant;)V" } : Jvm.MethodName) prog_56_method_13_code (2 : Nat) (Option.none : Option Jvm.ClassFile.FieldType)]
set_option maxRecDepth 65536 in
theorem codes_eq : words1.filter isCode = codes1 := rfl
theorem w_codes : ∀ c ∈ words1.filter isCode, c.before args0 about1 = true := by
  rw [codes_eq]
  intro c hc
  simp only [codes1, List.mem_cons, List.not_mem_nil, or_false] at hc
  rcases hc with rfl | rfl | rfl | rfl | rfl | rfl
  · exact w_c0
  · exact w_c1
  · exact w_c2
  · exact w_c3
  · exact w_c4
  · exact w_c5
set_option maxRecDepth 65536 in
theorem w_t1 : (words1.take 24).all (fun c => isCode c || c.before args0 about1) = true := by decide +kernel
set_option maxRecDepth 65536 in
theorem w_t2 : ((words1.drop 24).take 24).all (fun c => isCode c || c.before args0 about1) = true := by decide +kernel
set_option maxRecDepth 65536 in
theorem w_t3 : ((words1.drop 24).drop 24).all (fun c => isCode c || c.before args0 about1) = true := by decide +kernel
theorem w_tables : (allAtoms (Jvm.Cond.code x code maxLocals ret :: tables_1)).before args0 about1 = true := by
  rw [allAtoms_all]
  show words1.all (fun c => c.before args0 about1) = true
  refine all_split ?_ w_codes
  rw [← List.take_append_drop 24 words1, List.all_append, w_t1, ← List.take_append_drop 24 (words1.drop 24), List.all_append, w_t2, w_t3]
  rfl
set_option maxRecDepth 65536 in
theorem w_case : (Jvm.Cond.and given_1 narrow_1).before args0 about1 = true := by decide +kernel
theorem w_applies : (headSpec (Jvm.Cond.code x code maxLocals ret :: tables_1) room_1).applies x e0.platform about1 = true :=
  (Spec.applies_iff w_frames).mpr ⟨w_running, w_runnable, w_alone, w_named, w_hears, w_ripe, w_room, w_tables⟩
theorem atStart : AtStart classFile x code maxLocals ret World_1 tables_1 room_1 Calls_1 rest_1 Pre_1 launch0 p0 e0 about1 theMethod args0 below0 :=
  ⟨lists_1, trivial, launch0.admits_env _ _ _, launch0.least_env, fairChoices_fair.cas, fairChoices_fair.clock, w_frames, w_args, w_heap, w_applies, trivial, trivial, w_case⟩
end start1
theorem witness_1 : WitnessClaimed_1 := ⟨start1.p0, start1.e0, start1.about1, start1.theMethod, start1.args0, start1.below0, start1.atStart⟩
end Jvm.Pilot.@@N@@
