import JvmDerived
import JvmDerived.Pilot.@@N@@Statement
import JvmDerived.Pilot.@@N@@Code
set_option linter.unusedVariables false
set_option linter.unusedSimpArgs false
@@BLOCK:NumsL.lean.txt@@
namespace Jvm.Pilot.@@N@@
open Jvm Jvm.ClassFile Sem Op Lib Jvm.Free Jvm.Stand Jvm.LawKit Jvm.RoadKit Bundle Jvm.Pilot.@@N@@.Jvm.D
/-! OwnGo: from here the run ends, returning as Q says -/
def OwnGo (p : Program) (e : Env) (below : List Frame) (s : State) (C S : Nat) (Q : Option Value → Heap → List Loc → Prop) (T : State) (g : JFrame) : Prop :=
  ∃ s₂ o, Steps p.tables e below (T.setTop g) s₂ ∧ s₂.status = .running ∧ Ended s₂ below o ∧ ∃ v L, o = .returned v ∧ Q v s₂.heap L ∧ FrameEnd s o s₂ L C S
section OwnBase
variable {p : Program} {l : Launch} {e : Env} {R : Room} {s : State} {m : MethodId} {args : Array Value} {below : List Frame} {meth : Method} {c : Code} {T T' : State} {locs : List Loc} {cells slots C S : Nat} {Q : Option Value → Heap → List Loc → Prop} {g g' : JFrame}
theorem own_st (k : ∀ t, Steps p.tables e below (T'.setTop g') t → Steps p.tables e below (T.setTop g) t) (h : OwnGo p e below s C S Q T' g') : OwnGo p e below s C S Q T g := by
  obtain ⟨s₂, o, h1, h2⟩ := h
  exact ⟨s₂, o, k _ h1, h2⟩
theorem own_tr (k : Steps p.tables e below (T.setTop g) (T'.setTop g')) (h : OwnGo p e below s C S Q T' g') : OwnGo p e below s C S Q T g := by
  obtain ⟨s₂, o, h1, h2⟩ := h
  exact ⟨s₂, o, k.trans h1, h2⟩
theorem own_cast (q : g = g') (h : OwnGo p e below s C S Q T g') : OwnGo p e below s C S Q T g := q ▸ h
theorem own_ret {v : Option Value} (X : Stand p l e R s m args below meth c T locs cells slots) (hlk : meth.locks = false) (hv : meth.sig.returnType = none → v = none)
    (step : ∀ fs, (∀ (f : JFrame) (acts : List Action), f.method = m → f.locked = none → f.entered = [] → (doReturn e (T.setTop f) acts v).1 = T.setFrames fs) → Steps p.tables e below (T.setTop g) (T.setFrames fs))
    (hQ : Q v T.heap locs) (hc : cells ≤ C) (hs : slots ≤ S) : OwnGo p e below s C S Q T g := by
  obtain ⟨fs, hr, hrun, hended, hW, hsame⟩ := X.leave (v := v) hv hlk
  exact ⟨_, _, step fs hr, hrun, hended, v, locs, rfl, hQ, ⟨_, rfl⟩, hW, hsame.mono hc hs⟩
end OwnBase

def OwnGoW (p : Program) (e : Env) (below : List Frame) (s : State) (C S : Nat) (Q : Option Value → Heap → List Loc → Prop) (T : State) (g : JFrame) : Prop :=
  ∃ s₂ o, Steps p.tables e below (T.setTop g) s₂ ∧ s₂.status = .running ∧ Ended s₂ below o ∧ ∃ v L, o = .returned v ∧ Q v s₂.heap L ∧ ReturnedEndW s o s₂ L C S
section OwnBaseW
variable {p : Program} {l : Launch} {e : Env} {R : Room} {s : State} {m : MethodId} {args : Array Value} {below : List Frame} {meth : Method} {c : Code} {T T' : State} {locs : List Loc} {cells slots C S : Nat} {Q : Option Value → Heap → List Loc → Prop} {g g' : JFrame}
theorem own_stW (k : ∀ t, Steps p.tables e below (T'.setTop g') t → Steps p.tables e below (T.setTop g) t) (h : OwnGoW p e below s C S Q T' g') : OwnGoW p e below s C S Q T g := by
  obtain ⟨s₂, o, h1, h2⟩ := h
  exact ⟨s₂, o, k _ h1, h2⟩
theorem own_trW (k : Steps p.tables e below (T.setTop g) (T'.setTop g')) (h : OwnGoW p e below s C S Q T' g') : OwnGoW p e below s C S Q T g := by
  obtain ⟨s₂, o, h1, h2⟩ := h
  exact ⟨s₂, o, k.trans h1, h2⟩
theorem own_castW (q : g = g') (h : OwnGoW p e below s C S Q T g') : OwnGoW p e below s C S Q T g := q ▸ h
theorem own_retW {v : Option Value} {vm1 : Vm} {k1 : Nat} (X : Stand p l e R (s.setVm vm1) m args below meth c T locs cells slots) (hS : s.Since vm1 k1) (hk : k1 ≤ T.heap.size) (hlk : meth.locks = false) (hv : meth.sig.returnType = none → v = none)
    (step : ∀ fs, (∀ (f : JFrame) (acts : List Action), f.method = m → f.locked = none → f.entered = [] → (doReturn e (T.setTop f) acts v).1 = T.setFrames fs) → Steps p.tables e below (T.setTop g) (T.setFrames fs))
    (hQ : Q v T.heap locs) (hc : cells ≤ C) (hs : slots ≤ S) : OwnGoW p e below s C S Q T g := by
  obtain ⟨fs, hr, hrun, hended, q1, q2, q3, q4⟩ := X.leaveW hS hk (v := v) hv hlk
  exact ⟨_, _, step fs hr, hrun, hended, v, locs, rfl, hQ, q1, q2, q3, q4.mono hc hs⟩
end OwnBaseW
theorem own_wS {a0 : Array Value} {Z : State} (hw : ∀ d ∈ tables_1, d.before a0 Z = true) : ∀ d ∈ Bundle.stringAtoms, d.before a0 Z = true := by
  have q : ∀ d ∈ [Jvm.Cond.initialized "java/lang/String", .instantiable "java/lang/String" 4, .arrayClass .byte, .laysFinal "java/lang/String" "java/lang/String" "value" "[B", .laysFinal "java/lang/String" "java/lang/String" "coder" "B", .soleField "java/lang/String" "value", .soleField "java/lang/String" "coder"], d.before a0 Z = true := by
    intro d hd
    simp only [List.mem_cons, List.not_mem_nil, or_false] at hd
    rcases hd with rfl | rfl | rfl | rfl | rfl | rfl | rfl
    · exact hw _ (List.mem_of_getElem? (i := 17) rfl)
    · exact hw _ (List.mem_of_getElem? (i := 18) rfl)
    · exact hw _ (List.mem_of_getElem? (i := 19) rfl)
    · exact hw _ (List.mem_of_getElem? (i := 20) rfl)
    · exact hw _ (List.mem_of_getElem? (i := 21) rfl)
    · exact hw _ (List.mem_of_getElem? (i := 22) rfl)
    · exact hw _ (List.mem_of_getElem? (i := 23) rfl)
  exact q
def own_ev (k i o : Addr) : Int32 := if k = i then 1 else if k = o then 1 else 0
theorem own_ev_i (i o : Addr) : own_ev i i o = 1 := by rw [own_ev, if_pos rfl]
theorem own_ev_o (i o : Addr) : own_ev o i o = 1 := by
  by_cases h : o = i
  · rw [own_ev, if_pos h]
  · rw [own_ev, if_neg h, if_pos rfl]
theorem own_ev_no {k i o : Addr} (h1 : k ≠ i) (h2 : k ≠ o) : own_ev k i o = 0 := by rw [own_ev, if_neg h1, if_neg h2]
theorem own_and3 (p : Int32) : (p &&& 3) = 0 ∨ (p &&& 3) = 1 ∨ (p &&& 3) = 2 ∨ (p &&& 3) = 3 := by
  have e1 : (p &&& 3).toInt = p.toInt % 2 ^ 2 := Jvm.Kit.i32_mask p 3 (k := 2) (by decide) (by decide)
  generalize (p &&& 3) = n at *
  have h : n.toInt = 0 ∨ n.toInt = 1 ∨ n.toInt = 2 ∨ n.toInt = 3 := by omega
  rcases h with h | h | h | h
  · exact Or.inl (Int32.toInt_inj.mp h)
  · exact Or.inr (Or.inl (Int32.toInt_inj.mp h))
  · exact Or.inr (Or.inr (Or.inl (Int32.toInt_inj.mp h)))
  · exact Or.inr (Or.inr (Or.inr (Int32.toInt_inj.mp h)))
theorem own_arv_ne {Z : State} {h : Heap} {a b : Addr} {k k' : ClassId} {ty ty' : FieldType} {z z' : Int32} {vs vs' : List Value} {d d' : Value} (F : Arv Z h a k ty z vs d) (G : Arv Z h b k' ty' z' vs' d') (hz : z.toNatClampNeg ≠ z'.toNatClampNeg) : a ≠ b := by
  rintro rfl
  obtain ⟨c, A, -, S, -⟩ := F
  obtain ⟨c', A', -, S', -⟩ := G
  cases A.1.symm.trans A'.1
  exact hz (S.symm.trans S')
theorem own_lenS {t : Term} {args : Array Value} {first s : State} {o : Option Outcome} {idx : List Nat} {v : Value} {x : Addr} {cl : Cell} (h : (Term.length t).eval args first o idx s = some v) (ht : t.eval args first o idx s = some (.ref x)) (ha : s.arrayAt? x = some cl) : cl.slots.size < 2 ^ 31 := by
  by_cases q : cl.slots.size < 2 ^ 31
  · exact q
  · simp [Term.eval, ht, ha, q] at h
theorem own_eq_int {t : Term} {n : Int32} {args : Array Value} {s : State} (h : (Jvm.Cond.eq t (.int n)).value args s none s [] = some true) : t.eval args s none [] s = some (.int n) := Jvm.Free.NT.SwA.eq_int (Cond.before_iff.mpr h)
theorem own_eq_ref {t u : Term} {args : Array Value} {s : State} {b : Addr} (h : (Jvm.Cond.eq t u).value args s none s [] = some true) (hu : u.eval args s none [] s = some (.ref b)) : t.eval args s none [] s = some (.ref b) := by
  obtain ⟨x, y, e1, e2, k1, k2⟩ := cmp_v (Or.inl h)
  cases hu.symm.trans e2
  have hx : x.isRef = true := by cases x <;> simp_all [Kin, Value.isRef]
  have := gotT (eq_R e1 e2 hx rfl) h
  rw [e1, this]
theorem pn_0 : plainName "com/example/chartwright/chartwright/chart/KindEventPinLaw" = true := by first | (simp [plainName, overriddenIn]; done) | decide +kernel
def Ctx0 (p : Program) (s : State) (m : MethodId) (meth : Method) (c : Code) (Z : State) (a0 : Array Value) : Prop := p.tables.exec = Jvm.exec ∧ Z.Warmed39 s.vm ∧ (∀ d ∈ tables_1, d.before a0 Z = true) ∧ c.code = code ∧ c.maxLocals = 5 ∧ s.vm.findClass "com/example/chartwright/chartwright/chart/KindEventPinLaw" = some m.cls ∧ meth.sig.returnType = ret ∧ meth.locks = false ∧ meth.name = "law"
theorem d1_0 : decode prog_40_method_6_code 0 = .ok (.aload_n 0, 1) := by decide +kernel
theorem d1_1 : decode prog_40_method_6_code 1 = .ok (.getstatic 3, 3) := by decide +kernel
theorem d1_4 : decode prog_40_method_6_code 4 = .ok (.if_acmp .eq 10, 3) := by decide +kernel
theorem d1_7 : decode prog_40_method_6_code 7 = .ok (.aload_n 0, 1) := by decide +kernel
theorem d1_8 : decode prog_40_method_6_code 8 = .ok (.getstatic 7, 3) := by decide +kernel
theorem d1_11 : decode prog_40_method_6_code 11 = .ok (.if_acmp .ne 7, 3) := by decide +kernel
theorem d1_14 : decode prog_40_method_6_code 14 = .ok (.iconst 1, 1) := by decide +kernel
theorem d1_15 : decode prog_40_method_6_code 15 = .ok (.goto 4, 3) := by decide +kernel
theorem d1_18 : decode prog_40_method_6_code 18 = .ok (.iconst 0, 1) := by decide +kernel
theorem d1_19 : decode prog_40_method_6_code 19 = .ok (.ireturn, 1) := by decide +kernel
theorem pn_1 : plainName "com/example/chartwright/chartwright/chart/ChartSyntax$Member$Kind" = true := by first | (simp [plainName, overriddenIn]; done) | decide +kernel
def Ctx1 (p : Program) (s : State) (m : MethodId) (meth : Method) (c : Code) (Z : State) (a0 : Array Value) : Prop := p.tables.exec = Jvm.exec ∧ Z.Warmed39 s.vm ∧ (∀ d ∈ tables_1, d.before a0 Z = true) ∧ c.code = prog_40_method_6_code ∧ c.maxLocals = 1 ∧ s.vm.findClass "com/example/chartwright/chartwright/chart/ChartSyntax$Member$Kind" = some m.cls ∧ meth.sig.returnType = (some .boolean) ∧ meth.locks = false ∧ meth.name = "event"
theorem d2_0 : decode prog_40_method_4_code 0 = .ok (.aload_n 0, 1) := by decide +kernel
theorem d2_1 : decode prog_40_method_4_code 1 = .ok (.getfield 35, 3) := by decide +kernel
theorem d2_4 : decode prog_40_method_4_code 4 = .ok (.areturn, 1) := by decide +kernel
theorem pn_2 : plainName "com/example/chartwright/chartwright/chart/ChartSyntax$Member$Kind" = true := by first | (simp [plainName, overriddenIn]; done) | decide +kernel
def Ctx2 (p : Program) (s : State) (m : MethodId) (meth : Method) (c : Code) (Z : State) (a0 : Array Value) : Prop := p.tables.exec = Jvm.exec ∧ Z.Warmed39 s.vm ∧ (∀ d ∈ tables_1, d.before a0 Z = true) ∧ c.code = prog_40_method_4_code ∧ c.maxLocals = 1 ∧ s.vm.findClass "com/example/chartwright/chartwright/chart/ChartSyntax$Member$Kind" = some m.cls ∧ meth.sig.returnType = (some (.object "java/lang/String")) ∧ meth.locks = false ∧ meth.name = "noun"
theorem d3_0 : decode jdk_42_method_66_code 0 = .ok (.aload_n 0, 1) := by decide +kernel
theorem d3_1 : decode jdk_42_method_66_code 1 = .ok (.aload_n 1, 1) := by decide +kernel
theorem d3_2 : decode jdk_42_method_66_code 2 = .ok (.if_acmp .ne 5, 3) := by decide +kernel
theorem d3_5 : decode jdk_42_method_66_code 5 = .ok (.iconst 1, 1) := by decide +kernel
theorem d3_6 : decode jdk_42_method_66_code 6 = .ok (.ireturn, 1) := by decide +kernel
theorem d3_7 : decode jdk_42_method_66_code 7 = .ok (.aload_n 1, 1) := by decide +kernel
theorem d3_8 : decode jdk_42_method_66_code 8 = .ok (.instanceof 10, 3) := by decide +kernel
theorem d3_11 : decode jdk_42_method_66_code 11 = .ok (.ifCond .eq 43, 3) := by decide +kernel
theorem d3_14 : decode jdk_42_method_66_code 14 = .ok (.aload_n 1, 1) := by decide +kernel
theorem d3_15 : decode jdk_42_method_66_code 15 = .ok (.checkcast 10, 3) := by decide +kernel
theorem d3_18 : decode jdk_42_method_66_code 18 = .ok (.astore_n 2, 1) := by decide +kernel
theorem d3_19 : decode jdk_42_method_66_code 19 = .ok (.getstatic 38, 3) := by decide +kernel
theorem d3_22 : decode jdk_42_method_66_code 22 = .ok (.ifCond .eq 14, 3) := by decide +kernel
theorem d3_25 : decode jdk_42_method_66_code 25 = .ok (.aload_n 0, 1) := by decide +kernel
theorem d3_26 : decode jdk_42_method_66_code 26 = .ok (.getfield 15, 3) := by decide +kernel
theorem d3_29 : decode jdk_42_method_66_code 29 = .ok (.aload_n 2, 1) := by decide +kernel
theorem d3_30 : decode jdk_42_method_66_code 30 = .ok (.getfield 15, 3) := by decide +kernel
theorem d3_33 : decode jdk_42_method_66_code 33 = .ok (.if_icmp .ne 21, 3) := by decide +kernel
theorem d3_36 : decode jdk_42_method_66_code 36 = .ok (.aload_n 0, 1) := by decide +kernel
theorem d3_37 : decode jdk_42_method_66_code 37 = .ok (.getfield 9, 3) := by decide +kernel
theorem d3_40 : decode jdk_42_method_66_code 40 = .ok (.aload_n 2, 1) := by decide +kernel
theorem d3_41 : decode jdk_42_method_66_code 41 = .ok (.getfield 9, 3) := by decide +kernel
theorem d3_44 : decode jdk_42_method_66_code 44 = .ok (.invokestatic 541, 3) := by decide +kernel
theorem d3_47 : decode jdk_42_method_66_code 47 = .ok (.ifCond .eq 7, 3) := by decide +kernel
theorem d3_50 : decode jdk_42_method_66_code 50 = .ok (.iconst 1, 1) := by decide +kernel
theorem d3_51 : decode jdk_42_method_66_code 51 = .ok (.goto 4, 3) := by decide +kernel
theorem d3_54 : decode jdk_42_method_66_code 54 = .ok (.iconst 0, 1) := by decide +kernel
theorem d3_55 : decode jdk_42_method_66_code 55 = .ok (.ireturn, 1) := by decide +kernel
theorem pn_3 : plainName "java/lang/String" = true := by first | (simp [plainName, overriddenIn]; done) | decide +kernel
def Ctx3 (p : Program) (s : State) (m : MethodId) (meth : Method) (c : Code) (Z : State) (a0 : Array Value) : Prop := p.tables.exec = Jvm.exec ∧ Z.Warmed39 s.vm ∧ (∀ d ∈ tables_1, d.before a0 Z = true) ∧ c.code = jdk_42_method_66_code ∧ c.maxLocals = 3 ∧ s.vm.findClass "java/lang/String" = some m.cls ∧ meth.sig.returnType = (some .boolean) ∧ meth.locks = false ∧ meth.name = "equals"
theorem d4_0 : decode jdk_43_method_13_code 0 = .ok (.aload_n 0, 1) := by decide +kernel
theorem d4_1 : decode jdk_43_method_13_code 1 = .ok (.arraylength, 1) := by decide +kernel
theorem d4_2 : decode jdk_43_method_13_code 2 = .ok (.aload_n 1, 1) := by decide +kernel
theorem d4_3 : decode jdk_43_method_13_code 3 = .ok (.arraylength, 1) := by decide +kernel
theorem d4_4 : decode jdk_43_method_13_code 4 = .ok (.if_icmp .ne 30, 3) := by decide +kernel
theorem d4_7 : decode jdk_43_method_13_code 7 = .ok (.iconst 0, 1) := by decide +kernel
theorem d4_8 : decode jdk_43_method_13_code 8 = .ok (.istore_n 2, 1) := by decide +kernel
theorem d4_9 : decode jdk_43_method_13_code 9 = .ok (.iload_n 2, 1) := by decide +kernel
theorem d4_10 : decode jdk_43_method_13_code 10 = .ok (.aload_n 0, 1) := by decide +kernel
theorem d4_11 : decode jdk_43_method_13_code 11 = .ok (.arraylength, 1) := by decide +kernel
theorem d4_12 : decode jdk_43_method_13_code 12 = .ok (.if_icmp .ge 20, 3) := by decide +kernel
theorem d4_15 : decode jdk_43_method_13_code 15 = .ok (.aload_n 0, 1) := by decide +kernel
theorem d4_16 : decode jdk_43_method_13_code 16 = .ok (.iload_n 2, 1) := by decide +kernel
theorem d4_17 : decode jdk_43_method_13_code 17 = .ok (.baload, 1) := by decide +kernel
theorem d4_18 : decode jdk_43_method_13_code 18 = .ok (.aload_n 1, 1) := by decide +kernel
theorem d4_19 : decode jdk_43_method_13_code 19 = .ok (.iload_n 2, 1) := by decide +kernel
theorem d4_20 : decode jdk_43_method_13_code 20 = .ok (.baload, 1) := by decide +kernel
theorem d4_21 : decode jdk_43_method_13_code 21 = .ok (.if_icmp .eq 5, 3) := by decide +kernel
theorem d4_24 : decode jdk_43_method_13_code 24 = .ok (.iconst 0, 1) := by decide +kernel
theorem d4_25 : decode jdk_43_method_13_code 25 = .ok (.ireturn, 1) := by decide +kernel
theorem d4_26 : decode jdk_43_method_13_code 26 = .ok (.iinc 2 1, 3) := by decide +kernel
theorem d4_29 : decode jdk_43_method_13_code 29 = .ok (.goto (-20), 3) := by decide +kernel
theorem d4_32 : decode jdk_43_method_13_code 32 = .ok (.iconst 1, 1) := by decide +kernel
theorem d4_33 : decode jdk_43_method_13_code 33 = .ok (.ireturn, 1) := by decide +kernel
theorem d4_34 : decode jdk_43_method_13_code 34 = .ok (.iconst 0, 1) := by decide +kernel
theorem d4_35 : decode jdk_43_method_13_code 35 = .ok (.ireturn, 1) := by decide +kernel
theorem pn_4 : plainName "java/lang/StringLatin1" = true := by first | (simp [plainName, overriddenIn]; done) | decide +kernel
def Ctx4 (p : Program) (s : State) (m : MethodId) (meth : Method) (c : Code) (Z : State) (a0 : Array Value) : Prop := p.tables.exec = Jvm.exec ∧ Z.Warmed39 s.vm ∧ (∀ d ∈ tables_1, d.before a0 Z = true) ∧ c.code = jdk_43_method_13_code ∧ c.maxLocals = 3 ∧ s.vm.findClass "java/lang/StringLatin1" = some m.cls ∧ meth.sig.returnType = (some .boolean) ∧ meth.locks = false ∧ meth.name = "equals"
theorem own_pd0 : parseMethodDescriptor "([B[B)Z" = some ⟨[(.array .byte), (.array .byte)], some .boolean⟩ := by decide +kernel
theorem own_pd1 : parseMethodDescriptor "()Z" = some ⟨[], some .boolean⟩ := by decide +kernel
theorem own_pd2 : parseMethodDescriptor "()Ljava/lang/String;" = some ⟨[], some (.object "java/lang/String")⟩ := by decide +kernel
theorem own_pd3 : parseMethodDescriptor "(Ljava/lang/Object;)Z" = some ⟨[(.object "java/lang/Object")], some .boolean⟩ := by decide +kernel
def Q1 (Z : State) (k : Addr) (i : Addr) (o : Addr) (h0 : Heap) (n0 : Nat) (v : Option Value) (h : Heap) (L : List Loc) : Prop := v = some (.int (own_ev k i o)) ∧ Fr n0 L ∧ h = h0
theorem own_ef_rm1 (m : MethodId) (x0 : Addr) : entryFrame m #[(.ref x0)] 1 = mkF m 0 #[.val (.ref x0)] [] := by first | (simp [entryFrame, mkF, argsToLocals, Value.category]; done) | rfl
set_option maxRecDepth 65536 in
set_option maxHeartbeats 40000000 in
theorem rm1 (l : Launch) (Z : State) (a0 : Array Value) (hw : ∀ d ∈ tables_1, d.before a0 Z = true) (ws : List Jvm.Cond) (k : Addr) (i : Addr) (o : Addr) (h0 : Heap) (n0 : Nat) (Z0 : n0 ≤ h0.size) (S_i : Sta Z h0 "com/example/chartwright/chartwright/chart/ChartSyntax$Member$Kind" "IN_EVENT" "Lcom/example/chartwright/chartwright/chart/ChartSyntax$Member$Kind;" (.ref i)) (S_o : Sta Z h0 "com/example/chartwright/chartwright/chart/ChartSyntax$Member$Kind" "OUT_EVENT" "Lcom/example/chartwright/chartwright/chart/ChartSyntax$Member$Kind;" (.ref o)) :
    MetFree l (⟨"com/example/chartwright/chartwright/chart/ChartSyntax$Member$Kind", "event", "()Z"⟩ : MethodName) (head1 (Jvm.Cond.code (⟨"com/example/chartwright/chartwright/chart/ChartSyntax$Member$Kind", "event", "()Z"⟩ : MethodName) prog_40_method_6_code 1 (some .boolean) :: ws) ({ frames := 0, cells := 0, slots := 0, locals := 0 } : Room)) (fun aQ UQ => aQ = #[(.ref k)] ∧ Z.Warmed39 UQ.vm ∧ UQ.heap = h0) (fun _ _ _ _ _ => True) (fun _ UQ oQ UR => ∃ vQ LQ, oQ = .returned vQ ∧ Q1 Z k i o h0 n0 vQ UR.heap LQ ∧ FrameEnd UQ oQ UR LQ ({ frames := 0, cells := 0, slots := 0, locals := 0 } : Room).cells ({ frames := 0, cells := 0, slots := 0, locals := 0 } : Room).slots) := by
  refine MetFree.of_bodySF (plainFor_of_name pn_1) hisR ?_
  intro p e s m args below meth c s₁ Bd hml0 hP hK
  obtain ⟨rfl, hZ, hh⟩ := hP
  have hx := Bd.exec
  have hby := Bd.bytes
  have hml : c.maxLocals = 1 := hml0
  have hown : s.vm.findClass "com/example/chartwright/chartwright/chart/ChartSyntax$Member$Kind" = some m.cls := findClass_of_methodNamed Bd.named
  have hnm := (name_of_methodNamed Bd.named Bd.method).1
  have hret := Bd.returns
  have hlk : meth.locks = false := Bd.notSynchronized
  have X0 : Stand p l e ({ frames := 0, cells := 0, slots := 0, locals := 0 } : Room) s m #[(.ref k)] below meth c s₁ [] 0 0 := Stand.of_body Bd
  have e0 : s₁.heap = h0 := by rw [← hh, Bd.state]; rfl
  have N0 := Fr.nil n0
  have K : Ctx1 p s m meth c Z a0 := ⟨hx, hZ, hw, hby, hml, hown, hret, hlk, hnm⟩
  show OwnGo p e below s ({ frames := 0, cells := 0, slots := 0, locals := 0 } : Room).cells ({ frames := 0, cells := 0, slots := 0, locals := 0 } : Room).slots (Q1 Z k i o h0 n0) s₁ (entryFrame m #[(.ref k)] 1)
  refine own_cast (own_ef_rm1 m k) ?_
  show OwnGo p e below s _ _ _ s₁ (mkF m 0 #[.val (.ref k)] [])
  refine own_st (T' := s₁) (g' := (mkF m 1 #[.val (.ref k)] [(.ref k)])) (fun uT uK => ?_) ?_
  · show Steps p.tables e below (s₁.setTop (mkF m 0 #[.val (.ref k)] [])) _
    refine XS.aloadN X0.here hx rfl (hb hby d1_0) rfl rfl ?_
    exact uK
  obtain ⟨T1, X1, e1, st1⟩ := getS2 X0 hx hZ hown (host := "") (Or.inl (hw _ (List.mem_of_getElem? (i := 8) rfl))) Via.refl e0 S_i (g := (mkF m 1 #[.val (.ref k)] [(.ref k)])) rfl (hb hby d1_1)
  refine own_st st1 ?_
  show OwnGo p e below s _ _ _ T1 (mkF m 4 #[.val (.ref k)] [(.ref i), (.ref k)])
  by_cases hc4 : k = i
  · refine own_st (T' := T1) (g' := (mkF m 19 #[.val (.ref k)] [(.int (1 : Int32))])) (fun uT uK => ?_) ?_
    · show Steps p.tables e below (T1.setTop (mkF m 4 #[.val (.ref k)] [(.ref i), (.ref k)])) _
      refine Jvm.RoadKit.acmp (g := (mkF m 4 #[.val (.ref k)] [(.ref i), (.ref k)])) X1 hx rfl rfl rfl (pc0 := 4) (pc' := 14) (same := true) rfl (hb hby d1_4) rfl (decide_eq_true (congrArg Value.ref hc4)) (by decide) (by decide) ?_
      show Steps p.tables e below (T1.setTop (mkF m 14 #[.val (.ref k)] [])) _
      refine XS.iconst X1.here hx rfl (hb hby d1_14) ?_
      show Steps p.tables e below (T1.setTop (mkF m 15 #[.val (.ref k)] [(.int (1 : Int32))])) _
      refine XS.goto X1.here hx rfl (pc0 := 15) (pc' := 19) rfl (hb hby d1_15) (by decide) (by decide) ?_
      exact uK
    exact own_ret (v := some (.int (1 : Int32))) X1 hlk (fun h => by rw [hret] at h; cases h) (fun fs hr => retOut X1 hx hret rfl (Or.inl ⟨rfl, by simp, _, rfl⟩) (hb hby d1_19) hr) (by rw [e1]; exact ⟨by first | rw [own_ev, if_pos hc4] | rw [own_ev, if_neg hc4, if_pos hc11] | rw [own_ev, if_neg hc4, if_neg hc11], N0, rfl⟩) (by decide) (by decide)
  · refine own_st (T' := T1) (g' := (mkF m 8 #[.val (.ref k)] [(.ref k)])) (fun uT uK => ?_) ?_
    · show Steps p.tables e below (T1.setTop (mkF m 4 #[.val (.ref k)] [(.ref i), (.ref k)])) _
      refine Jvm.RoadKit.acmp (g := (mkF m 4 #[.val (.ref k)] [(.ref i), (.ref k)])) X1 hx rfl rfl rfl (pc0 := 4) (pc' := 7) (same := false) rfl (hb hby d1_4) rfl (decide_eq_false (fun q => hc4 (Value.ref.inj q))) (by decide) (by decide) ?_
      show Steps p.tables e below (T1.setTop (mkF m 7 #[.val (.ref k)] [])) _
      refine XS.aloadN X1.here hx rfl (hb hby d1_7) rfl rfl ?_
      exact uK
    obtain ⟨T2, X2, e2, st2⟩ := getS2 X1 hx hZ hown (host := "") (Or.inl (hw _ (List.mem_of_getElem? (i := 40) rfl))) Via.refl e1 S_o (g := (mkF m 8 #[.val (.ref k)] [(.ref k)])) rfl (hb hby d1_8)
    refine own_st st2 ?_
    show OwnGo p e below s _ _ _ T2 (mkF m 11 #[.val (.ref k)] [(.ref o), (.ref k)])
    by_cases hc11 : k = o
    · refine own_st (T' := T2) (g' := (mkF m 19 #[.val (.ref k)] [(.int (1 : Int32))])) (fun uT uK => ?_) ?_
      · show Steps p.tables e below (T2.setTop (mkF m 11 #[.val (.ref k)] [(.ref o), (.ref k)])) _
        refine Jvm.RoadKit.acmp (g := (mkF m 11 #[.val (.ref k)] [(.ref o), (.ref k)])) X2 hx rfl rfl rfl (pc0 := 11) (pc' := 14) (same := true) rfl (hb hby d1_11) rfl (decide_eq_true (congrArg Value.ref hc11)) (by decide) (by decide) ?_
        show Steps p.tables e below (T2.setTop (mkF m 14 #[.val (.ref k)] [])) _
        refine XS.iconst X2.here hx rfl (hb hby d1_14) ?_
        show Steps p.tables e below (T2.setTop (mkF m 15 #[.val (.ref k)] [(.int (1 : Int32))])) _
        refine XS.goto X2.here hx rfl (pc0 := 15) (pc' := 19) rfl (hb hby d1_15) (by decide) (by decide) ?_
        exact uK
      exact own_ret (v := some (.int (1 : Int32))) X2 hlk (fun h => by rw [hret] at h; cases h) (fun fs hr => retOut X2 hx hret rfl (Or.inl ⟨rfl, by simp, _, rfl⟩) (hb hby d1_19) hr) (by rw [e2]; exact ⟨by first | rw [own_ev, if_pos hc4] | rw [own_ev, if_neg hc4, if_pos hc11] | rw [own_ev, if_neg hc4, if_neg hc11], N0, rfl⟩) (by decide) (by decide)
    · refine own_st (T' := T2) (g' := (mkF m 19 #[.val (.ref k)] [(.int (0 : Int32))])) (fun uT uK => ?_) ?_
      · show Steps p.tables e below (T2.setTop (mkF m 11 #[.val (.ref k)] [(.ref o), (.ref k)])) _
        refine Jvm.RoadKit.acmp (g := (mkF m 11 #[.val (.ref k)] [(.ref o), (.ref k)])) X2 hx rfl rfl rfl (pc0 := 11) (pc' := 18) (same := false) rfl (hb hby d1_11) rfl (decide_eq_false (fun q => hc11 (Value.ref.inj q))) (by decide) (by decide) ?_
        show Steps p.tables e below (T2.setTop (mkF m 18 #[.val (.ref k)] [])) _
        refine XS.iconst X2.here hx rfl (hb hby d1_18) ?_
        exact uK
      exact own_ret (v := some (.int (0 : Int32))) X2 hlk (fun h => by rw [hret] at h; cases h) (fun fs hr => retOut X2 hx hret rfl (Or.inl ⟨rfl, by simp, _, rfl⟩) (hb hby d1_19) hr) (by rw [e2]; exact ⟨by first | rw [own_ev, if_pos hc4] | rw [own_ev, if_neg hc4, if_pos hc11] | rw [own_ev, if_neg hc4, if_neg hc11], N0, rfl⟩) (by decide) (by decide)
def Q2 (Z : State) (k : Addr) (n : Addr) (h0 : Heap) (n0 : Nat) (v : Option Value) (h : Heap) (L : List Loc) : Prop := v = some (.ref n) ∧ Fr n0 L ∧ h = h0
theorem own_ef_rm2 (m : MethodId) (x0 : Addr) : entryFrame m #[(.ref x0)] 1 = mkF m 0 #[.val (.ref x0)] [] := by first | (simp [entryFrame, mkF, argsToLocals, Value.category]; done) | rfl
set_option maxRecDepth 65536 in
set_option maxHeartbeats 40000000 in
theorem rm2 (l : Launch) (Z : State) (a0 : Array Value) (hw : ∀ d ∈ tables_1, d.before a0 Z = true) (ws : List Jvm.Cond) (k : Addr) (n : Addr) (h0 : Heap) (n0 : Nat) (Z0 : n0 ≤ h0.size) (F_n : Fld Z h0 k "com/example/chartwright/chartwright/chart/ChartSyntax$Member$Kind" "noun" "Ljava/lang/String;" (.ref n)) :
    MetFree l (⟨"com/example/chartwright/chartwright/chart/ChartSyntax$Member$Kind", "noun", "()Ljava/lang/String;"⟩ : MethodName) (head1 (Jvm.Cond.code (⟨"com/example/chartwright/chartwright/chart/ChartSyntax$Member$Kind", "noun", "()Ljava/lang/String;"⟩ : MethodName) prog_40_method_4_code 1 (some (.object "java/lang/String")) :: ws) ({ frames := 0, cells := 0, slots := 0, locals := 0 } : Room)) (fun aQ UQ => aQ = #[(.ref k)] ∧ Z.Warmed39 UQ.vm ∧ UQ.heap = h0) (fun _ _ _ _ _ => True) (fun _ UQ oQ UR => ∃ vQ LQ, oQ = .returned vQ ∧ Q2 Z k n h0 n0 vQ UR.heap LQ ∧ FrameEnd UQ oQ UR LQ ({ frames := 0, cells := 0, slots := 0, locals := 0 } : Room).cells ({ frames := 0, cells := 0, slots := 0, locals := 0 } : Room).slots) := by
  refine MetFree.of_bodySF (plainFor_of_name pn_2) hisR ?_
  intro p e s m args below meth c s₁ Bd hml0 hP hK
  obtain ⟨rfl, hZ, hh⟩ := hP
  have hx := Bd.exec
  have hby := Bd.bytes
  have hml : c.maxLocals = 1 := hml0
  have hown : s.vm.findClass "com/example/chartwright/chartwright/chart/ChartSyntax$Member$Kind" = some m.cls := findClass_of_methodNamed Bd.named
  have hnm := (name_of_methodNamed Bd.named Bd.method).1
  have hret := Bd.returns
  have hlk : meth.locks = false := Bd.notSynchronized
  have X0 : Stand p l e ({ frames := 0, cells := 0, slots := 0, locals := 0 } : Room) s m #[(.ref k)] below meth c s₁ [] 0 0 := Stand.of_body Bd
  have e0 : s₁.heap = h0 := by rw [← hh, Bd.state]; rfl
  have N0 := Fr.nil n0
  have K : Ctx2 p s m meth c Z a0 := ⟨hx, hZ, hw, hby, hml, hown, hret, hlk, hnm⟩
  show OwnGo p e below s ({ frames := 0, cells := 0, slots := 0, locals := 0 } : Room).cells ({ frames := 0, cells := 0, slots := 0, locals := 0 } : Room).slots (Q2 Z k n h0 n0) s₁ (entryFrame m #[(.ref k)] 1)
  refine own_cast (own_ef_rm2 m k) ?_
  show OwnGo p e below s _ _ _ s₁ (mkF m 0 #[.val (.ref k)] [])
  refine own_st (T' := s₁) (g' := (mkF m 1 #[.val (.ref k)] [(.ref k)])) (fun uT uK => ?_) ?_
  · show Steps p.tables e below (s₁.setTop (mkF m 0 #[.val (.ref k)] [])) _
    refine XS.aloadN X0.here hx rfl (hb hby d2_0) rfl rfl ?_
    exact uK
  obtain ⟨T1, X1, e1, st1⟩ := getF X0 hx hZ hown (host := "") (Or.inl (hw _ (List.mem_of_getElem? (i := 14) rfl))) Via.refl e0 F_n (g := (mkF m 1 #[.val (.ref k)] [(.ref k)])) rfl rfl (hb hby d2_1)
  refine own_st st1 ?_
  show OwnGo p e below s _ _ _ T1 (mkF m 4 #[.val (.ref k)] [(.ref n)])
  exact own_ret (v := some (.ref n)) X1 hlk (fun h => by rw [hret] at h; cases h) (fun fs hr => retOut X1 hx hret rfl (Or.inr (Or.inr (Or.inr (Or.inr ⟨rfl, rfl, rfl⟩)))) (hb hby d2_4) hr) (by rw [e1]; exact ⟨rfl, N0, rfl⟩) (by decide) (by decide)
def Q4a (Z : State) (b1 : Addr) (b2 : Addr) (k1 : ClassId) (k2 : ClassId) (z1 : Int32) (z2 : Int32) (vs1 : List Value) (vs2 : List Value) (h0 : Heap) (n0 : Nat) (v : Option Value) (h : Heap) (L : List Loc) : Prop := v = some (.int 0) ∧ Fr n0 L ∧ h = h0
theorem own_ef_rm4a (m : MethodId) (x0 : Addr) (x1 : Addr) : entryFrame m #[(.ref x0), (.ref x1)] 3 = mkF m 0 #[.val (.ref x0), .val (.ref x1), .unset] [] := by first | (simp [entryFrame, mkF, argsToLocals, Value.category]; done) | rfl
set_option maxRecDepth 65536 in
set_option maxHeartbeats 40000000 in
theorem rm4a (l : Launch) (Z : State) (a0 : Array Value) (hw : ∀ d ∈ tables_1, d.before a0 Z = true) (ws : List Jvm.Cond) (b1 : Addr) (b2 : Addr) (k1 : ClassId) (k2 : ClassId) (z1 : Int32) (z2 : Int32) (vs1 : List Value) (vs2 : List Value) (h0 : Heap) (n0 : Nat) (Z0 : n0 ≤ h0.size) (V_1 : Arv Z h0 b1 k1 .byte z1 vs1 (.int 0)) (V_2 : Arv Z h0 b2 k2 .byte z2 vs2 (.int 0)) (hz : ¬ z1 = z2) :
    MetFree l (⟨"java/lang/StringLatin1", "equals", "([B[B)Z"⟩ : MethodName) (head1 (Jvm.Cond.code (⟨"java/lang/StringLatin1", "equals", "([B[B)Z"⟩ : MethodName) jdk_43_method_13_code 3 (some .boolean) :: ws) ({ frames := 0, cells := 0, slots := 0, locals := 0 } : Room)) (fun aQ UQ => aQ = #[(.ref b1), (.ref b2)] ∧ Z.Warmed39 UQ.vm ∧ UQ.heap = h0) (fun _ _ _ _ _ => True) (fun _ UQ oQ UR => ∃ vQ LQ, oQ = .returned vQ ∧ Q4a Z b1 b2 k1 k2 z1 z2 vs1 vs2 h0 n0 vQ UR.heap LQ ∧ FrameEnd UQ oQ UR LQ ({ frames := 0, cells := 0, slots := 0, locals := 0 } : Room).cells ({ frames := 0, cells := 0, slots := 0, locals := 0 } : Room).slots) := by
  obtain ⟨c_1, A_1, q_1, S_1, N_1, H_1, G_1⟩ := V_1
  obtain ⟨c_2, A_2, q_2, S_2, N_2, H_2, G_2⟩ := V_2
  refine MetFree.of_bodySF (plainFor_of_name pn_4) hisR ?_
  intro p e s m args below meth c s₁ Bd hml0 hP hK
  obtain ⟨rfl, hZ, hh⟩ := hP
  have hx := Bd.exec
  have hby := Bd.bytes
  have hml : c.maxLocals = 3 := hml0
  have hown : s.vm.findClass "java/lang/StringLatin1" = some m.cls := findClass_of_methodNamed Bd.named
  have hnm := (name_of_methodNamed Bd.named Bd.method).1
  have hret := Bd.returns
  have hlk : meth.locks = false := Bd.notSynchronized
  have X0 : Stand p l e ({ frames := 0, cells := 0, slots := 0, locals := 0 } : Room) s m #[(.ref b1), (.ref b2)] below meth c s₁ [] 0 0 := Stand.of_body Bd
  have e0 : s₁.heap = h0 := by rw [← hh, Bd.state]; rfl
  have N0 := Fr.nil n0
  have K : Ctx4 p s m meth c Z a0 := ⟨hx, hZ, hw, hby, hml, hown, hret, hlk, hnm⟩
  show OwnGo p e below s ({ frames := 0, cells := 0, slots := 0, locals := 0 } : Room).cells ({ frames := 0, cells := 0, slots := 0, locals := 0 } : Room).slots (Q4a Z b1 b2 k1 k2 z1 z2 vs1 vs2 h0 n0) s₁ (entryFrame m #[(.ref b1), (.ref b2)] 3)
  refine own_cast (own_ef_rm4a m b1 b2) ?_
  show OwnGo p e below s _ _ _ s₁ (mkF m 0 #[.val (.ref b1), .val (.ref b2), .unset] [])
  refine own_st (T' := s₁) (g' := (mkF m 35 #[.val (.ref b1), .val (.ref b2), .unset] [(.int (0 : Int32))])) (fun uT uK => ?_) ?_
  · show Steps p.tables e below (s₁.setTop (mkF m 0 #[.val (.ref b1), .val (.ref b2), .unset] [])) _
    refine XS.aloadN X0.here hx rfl (hb hby d4_0) rfl rfl ?_
    show Steps p.tables e below (s₁.setTop (mkF m 1 #[.val (.ref b1), .val (.ref b2), .unset] [(.ref b1)])) _
    refine X0.arraylength hx (by rw [e0]; exact A_1.1) (State.isArrayOf_alike hZ.alike A_1.2.1) (g := (mkF m 1 #[.val (.ref b1), .val (.ref b2), .unset] [(.ref b1)])) rfl rfl (hb hby d4_1) _ ?_; rw [len_of S_1 N_1]
    show Steps p.tables e below (s₁.setTop (mkF m 2 #[.val (.ref b1), .val (.ref b2), .unset] [(.int z1)])) _
    refine XS.aloadN X0.here hx rfl (hb hby d4_2) rfl rfl ?_
    show Steps p.tables e below (s₁.setTop (mkF m 3 #[.val (.ref b1), .val (.ref b2), .unset] [(.ref b2), (.int z1)])) _
    refine X0.arraylength hx (by rw [e0]; exact A_2.1) (State.isArrayOf_alike hZ.alike A_2.2.1) (g := (mkF m 3 #[.val (.ref b1), .val (.ref b2), .unset] [(.ref b2), (.int z1)])) rfl rfl (hb hby d4_3) _ ?_; rw [len_of S_2 N_2]
    show Steps p.tables e below (s₁.setTop (mkF m 4 #[.val (.ref b1), .val (.ref b2), .unset] [(.int z2), (.int z1)])) _
    refine XS.icmpYes X0.here hx rfl (pc0 := 4) (pc' := 34) rfl (hb hby d4_4) rfl (XT.ii_ne_t hz) (by decide) (by decide) ?_
    show Steps p.tables e below (s₁.setTop (mkF m 34 #[.val (.ref b1), .val (.ref b2), .unset] [])) _
    refine XS.iconst X0.here hx rfl (hb hby d4_34) ?_
    exact uK
  exact own_ret (v := some (.int (0 : Int32))) X0 hlk (fun h => by rw [hret] at h; cases h) (fun fs hr => retOut X0 hx hret rfl (Or.inl ⟨rfl, by simp, _, rfl⟩) (hb hby d4_35) hr) (by rw [e0]; exact ⟨rfl, N0, rfl⟩) (by decide) (by decide)
def Q4b (Z : State) (b1 : Addr) (b2 : Addr) (k1 : ClassId) (k2 : ClassId) (h0 : Heap) (n0 : Nat) (v : Option Value) (h : Heap) (L : List Loc) : Prop := v = some (.int 1) ∧ Fr n0 L ∧ h = h0
theorem own_ef_rm4b (m : MethodId) (x0 : Addr) (x1 : Addr) : entryFrame m #[(.ref x0), (.ref x1)] 3 = mkF m 0 #[.val (.ref x0), .val (.ref x1), .unset] [] := by first | (simp [entryFrame, mkF, argsToLocals, Value.category]; done) | rfl
set_option maxRecDepth 65536 in
set_option maxHeartbeats 40000000 in
theorem rm4b (l : Launch) (Z : State) (a0 : Array Value) (hw : ∀ d ∈ tables_1, d.before a0 Z = true) (ws : List Jvm.Cond) (b1 : Addr) (b2 : Addr) (k1 : ClassId) (k2 : ClassId) (h0 : Heap) (n0 : Nat) (Z0 : n0 ≤ h0.size) (V_1 : Arv Z h0 b1 k1 .byte 5 [.int (101 : Int32), .int (118 : Int32), .int (101 : Int32), .int (110 : Int32), .int (116 : Int32)] (.int 0)) (V_2 : Arv Z h0 b2 k2 .byte 5 [.int (101 : Int32), .int (118 : Int32), .int (101 : Int32), .int (110 : Int32), .int (116 : Int32)] (.int 0)) :
    MetFree l (⟨"java/lang/StringLatin1", "equals", "([B[B)Z"⟩ : MethodName) (head1 (Jvm.Cond.code (⟨"java/lang/StringLatin1", "equals", "([B[B)Z"⟩ : MethodName) jdk_43_method_13_code 3 (some .boolean) :: ws) ({ frames := 0, cells := 0, slots := 0, locals := 0 } : Room)) (fun aQ UQ => aQ = #[(.ref b1), (.ref b2)] ∧ Z.Warmed39 UQ.vm ∧ UQ.heap = h0) (fun _ _ _ _ _ => True) (fun _ UQ oQ UR => ∃ vQ LQ, oQ = .returned vQ ∧ Q4b Z b1 b2 k1 k2 h0 n0 vQ UR.heap LQ ∧ FrameEnd UQ oQ UR LQ ({ frames := 0, cells := 0, slots := 0, locals := 0 } : Room).cells ({ frames := 0, cells := 0, slots := 0, locals := 0 } : Room).slots) := by
  obtain ⟨c_1, A_1, q_1, S_1, N_1, H_1, G_1⟩ := V_1
  obtain ⟨c_2, A_2, q_2, S_2, N_2, H_2, G_2⟩ := V_2
  refine MetFree.of_bodySF (plainFor_of_name pn_4) hisR ?_
  intro p e s m args below meth c s₁ Bd hml0 hP hK
  obtain ⟨rfl, hZ, hh⟩ := hP
  have hx := Bd.exec
  have hby := Bd.bytes
  have hml : c.maxLocals = 3 := hml0
  have hown : s.vm.findClass "java/lang/StringLatin1" = some m.cls := findClass_of_methodNamed Bd.named
  have hnm := (name_of_methodNamed Bd.named Bd.method).1
  have hret := Bd.returns
  have hlk : meth.locks = false := Bd.notSynchronized
  have X0 : Stand p l e ({ frames := 0, cells := 0, slots := 0, locals := 0 } : Room) s m #[(.ref b1), (.ref b2)] below meth c s₁ [] 0 0 := Stand.of_body Bd
  have e0 : s₁.heap = h0 := by rw [← hh, Bd.state]; rfl
  have N0 := Fr.nil n0
  have K : Ctx4 p s m meth c Z a0 := ⟨hx, hZ, hw, hby, hml, hown, hret, hlk, hnm⟩
  show OwnGo p e below s ({ frames := 0, cells := 0, slots := 0, locals := 0 } : Room).cells ({ frames := 0, cells := 0, slots := 0, locals := 0 } : Room).slots (Q4b Z b1 b2 k1 k2 h0 n0) s₁ (entryFrame m #[(.ref b1), (.ref b2)] 3)
  refine own_cast (own_ef_rm4b m b1 b2) ?_
  show OwnGo p e below s _ _ _ s₁ (mkF m 0 #[.val (.ref b1), .val (.ref b2), .unset] [])
  refine own_st (T' := s₁) (g' := (mkF m 33 #[.val (.ref b1), .val (.ref b2), .val (.int (5 : Int32))] [(.int (1 : Int32))])) (fun uT uK => ?_) ?_
  · show Steps p.tables e below (s₁.setTop (mkF m 0 #[.val (.ref b1), .val (.ref b2), .unset] [])) _
    refine XS.aloadN X0.here hx rfl (hb hby d4_0) rfl rfl ?_
    show Steps p.tables e below (s₁.setTop (mkF m 1 #[.val (.ref b1), .val (.ref b2), .unset] [(.ref b1)])) _
    refine X0.arraylength hx (by rw [e0]; exact A_1.1) (State.isArrayOf_alike hZ.alike A_1.2.1) (g := (mkF m 1 #[.val (.ref b1), .val (.ref b2), .unset] [(.ref b1)])) rfl rfl (hb hby d4_1) _ ?_; rw [len_of S_1 N_1]
    show Steps p.tables e below (s₁.setTop (mkF m 2 #[.val (.ref b1), .val (.ref b2), .unset] [(.int (5 : Int32))])) _
    refine XS.aloadN X0.here hx rfl (hb hby d4_2) rfl rfl ?_
    show Steps p.tables e below (s₁.setTop (mkF m 3 #[.val (.ref b1), .val (.ref b2), .unset] [(.ref b2), (.int (5 : Int32))])) _
    refine X0.arraylength hx (by rw [e0]; exact A_2.1) (State.isArrayOf_alike hZ.alike A_2.2.1) (g := (mkF m 3 #[.val (.ref b1), .val (.ref b2), .unset] [(.ref b2), (.int (5 : Int32))])) rfl rfl (hb hby d4_3) _ ?_; rw [len_of S_2 N_2]
    show Steps p.tables e below (s₁.setTop (mkF m 4 #[.val (.ref b1), .val (.ref b2), .unset] [(.int (5 : Int32)), (.int (5 : Int32))])) _
    refine XS.icmpNo X0.here hx rfl (hb hby d4_4) rfl (XT.ii_ne_f (by decide)) ?_
    show Steps p.tables e below (s₁.setTop (mkF m 7 #[.val (.ref b1), .val (.ref b2), .unset] [])) _
    refine XS.iconst X0.here hx rfl (hb hby d4_7) ?_
    show Steps p.tables e below (s₁.setTop (mkF m 8 #[.val (.ref b1), .val (.ref b2), .unset] [(.int (0 : Int32))])) _
    refine XS.istoreN X0.here hx rfl (hb hby d4_8) rfl (l' := #[.val (.ref b1), .val (.ref b2), .val (.int (0 : Int32))]) rfl ?_
    show Steps p.tables e below (s₁.setTop (mkF m 9 #[.val (.ref b1), .val (.ref b2), .val (.int (0 : Int32))] [])) _
    refine XS.iloadN X0.here hx rfl (hb hby d4_9) rfl ?_
    show Steps p.tables e below (s₁.setTop (mkF m 10 #[.val (.ref b1), .val (.ref b2), .val (.int (0 : Int32))] [(.int (0 : Int32))])) _
    refine XS.aloadN X0.here hx rfl (hb hby d4_10) rfl rfl ?_
    show Steps p.tables e below (s₁.setTop (mkF m 11 #[.val (.ref b1), .val (.ref b2), .val (.int (0 : Int32))] [(.ref b1), (.int (0 : Int32))])) _
    refine X0.arraylength hx (by rw [e0]; exact A_1.1) (State.isArrayOf_alike hZ.alike A_1.2.1) (g := (mkF m 11 #[.val (.ref b1), .val (.ref b2), .val (.int (0 : Int32))] [(.ref b1), (.int (0 : Int32))])) rfl rfl (hb hby d4_11) _ ?_; rw [len_of S_1 N_1]
    show Steps p.tables e below (s₁.setTop (mkF m 12 #[.val (.ref b1), .val (.ref b2), .val (.int (0 : Int32))] [(.int (5 : Int32)), (.int (0 : Int32))])) _
    refine XS.icmpNo X0.here hx rfl (hb hby d4_12) rfl (XT.ii_ge_f (by decide)) ?_
    show Steps p.tables e below (s₁.setTop (mkF m 15 #[.val (.ref b1), .val (.ref b2), .val (.int (0 : Int32))] [])) _
    refine XS.aloadN X0.here hx rfl (hb hby d4_15) rfl rfl ?_
    show Steps p.tables e below (s₁.setTop (mkF m 16 #[.val (.ref b1), .val (.ref b2), .val (.int (0 : Int32))] [(.ref b1)])) _
    refine XS.iloadN X0.here hx rfl (hb hby d4_16) rfl ?_
    show Steps p.tables e below (s₁.setTop (mkF m 17 #[.val (.ref b1), .val (.ref b2), .val (.int (0 : Int32))] [(.int (0 : Int32)), (.ref b1)])) _
    refine X0.baloadBytes hx (j := (0 : Int32)) (v := .int (101 : Int32)) (by rw [e0]; exact A_1.1) (State.isArrayOf_alike hZ.alike A_1.2.1) A_1.2.2 (inb_of S_1 ⟨by decide, by decide⟩) (Has.at H_1 (inb_of S_1 ⟨by decide, by decide⟩) rfl) (g := (mkF m 17 #[.val (.ref b1), .val (.ref b2), .val (.int (0 : Int32))] [(.int (0 : Int32)), (.ref b1)])) rfl rfl (hb hby d4_17) _ ?_
    show Steps p.tables e below (s₁.setTop (mkF m 18 #[.val (.ref b1), .val (.ref b2), .val (.int (0 : Int32))] [(.int (101 : Int32))])) _
    refine XS.aloadN X0.here hx rfl (hb hby d4_18) rfl rfl ?_
    show Steps p.tables e below (s₁.setTop (mkF m 19 #[.val (.ref b1), .val (.ref b2), .val (.int (0 : Int32))] [(.ref b2), (.int (101 : Int32))])) _
    refine XS.iloadN X0.here hx rfl (hb hby d4_19) rfl ?_
    show Steps p.tables e below (s₁.setTop (mkF m 20 #[.val (.ref b1), .val (.ref b2), .val (.int (0 : Int32))] [(.int (0 : Int32)), (.ref b2), (.int (101 : Int32))])) _
    refine X0.baloadBytes hx (j := (0 : Int32)) (v := .int (101 : Int32)) (by rw [e0]; exact A_2.1) (State.isArrayOf_alike hZ.alike A_2.2.1) A_2.2.2 (inb_of S_2 ⟨by decide, by decide⟩) (Has.at H_2 (inb_of S_2 ⟨by decide, by decide⟩) rfl) (g := (mkF m 20 #[.val (.ref b1), .val (.ref b2), .val (.int (0 : Int32))] [(.int (0 : Int32)), (.ref b2), (.int (101 : Int32))])) rfl rfl (hb hby d4_20) _ ?_
    show Steps p.tables e below (s₁.setTop (mkF m 21 #[.val (.ref b1), .val (.ref b2), .val (.int (0 : Int32))] [(.int (101 : Int32)), (.int (101 : Int32))])) _
    refine XS.icmpYes X0.here hx rfl (pc0 := 21) (pc' := 26) rfl (hb hby d4_21) rfl (XT.ii_eq_t (by decide)) (by decide) (by decide) ?_
    show Steps p.tables e below (s₁.setTop (mkF m 26 #[.val (.ref b1), .val (.ref b2), .val (.int (0 : Int32))] [])) _
    refine XS.iinc X0.here hx rfl (hb hby d4_26) rfl (l' := #[.val (.ref b1), .val (.ref b2), .val (.int (1 : Int32))]) rfl ?_
    show Steps p.tables e below (s₁.setTop (mkF m 29 #[.val (.ref b1), .val (.ref b2), .val (.int (1 : Int32))] [])) _
    refine XS.goto X0.here hx rfl (pc0 := 29) (pc' := 9) rfl (hb hby d4_29) (by decide) (by decide) ?_
    show Steps p.tables e below (s₁.setTop (mkF m 9 #[.val (.ref b1), .val (.ref b2), .val (.int (1 : Int32))] [])) _
    refine XS.iloadN X0.here hx rfl (hb hby d4_9) rfl ?_
    show Steps p.tables e below (s₁.setTop (mkF m 10 #[.val (.ref b1), .val (.ref b2), .val (.int (1 : Int32))] [(.int (1 : Int32))])) _
    refine XS.aloadN X0.here hx rfl (hb hby d4_10) rfl rfl ?_
    show Steps p.tables e below (s₁.setTop (mkF m 11 #[.val (.ref b1), .val (.ref b2), .val (.int (1 : Int32))] [(.ref b1), (.int (1 : Int32))])) _
    refine X0.arraylength hx (by rw [e0]; exact A_1.1) (State.isArrayOf_alike hZ.alike A_1.2.1) (g := (mkF m 11 #[.val (.ref b1), .val (.ref b2), .val (.int (1 : Int32))] [(.ref b1), (.int (1 : Int32))])) rfl rfl (hb hby d4_11) _ ?_; rw [len_of S_1 N_1]
    show Steps p.tables e below (s₁.setTop (mkF m 12 #[.val (.ref b1), .val (.ref b2), .val (.int (1 : Int32))] [(.int (5 : Int32)), (.int (1 : Int32))])) _
    refine XS.icmpNo X0.here hx rfl (hb hby d4_12) rfl (XT.ii_ge_f (by decide)) ?_
    show Steps p.tables e below (s₁.setTop (mkF m 15 #[.val (.ref b1), .val (.ref b2), .val (.int (1 : Int32))] [])) _
    refine XS.aloadN X0.here hx rfl (hb hby d4_15) rfl rfl ?_
    show Steps p.tables e below (s₁.setTop (mkF m 16 #[.val (.ref b1), .val (.ref b2), .val (.int (1 : Int32))] [(.ref b1)])) _
    refine XS.iloadN X0.here hx rfl (hb hby d4_16) rfl ?_
    show Steps p.tables e below (s₁.setTop (mkF m 17 #[.val (.ref b1), .val (.ref b2), .val (.int (1 : Int32))] [(.int (1 : Int32)), (.ref b1)])) _
    refine X0.baloadBytes hx (j := (1 : Int32)) (v := .int (118 : Int32)) (by rw [e0]; exact A_1.1) (State.isArrayOf_alike hZ.alike A_1.2.1) A_1.2.2 (inb_of S_1 ⟨by decide, by decide⟩) (Has.at H_1 (inb_of S_1 ⟨by decide, by decide⟩) rfl) (g := (mkF m 17 #[.val (.ref b1), .val (.ref b2), .val (.int (1 : Int32))] [(.int (1 : Int32)), (.ref b1)])) rfl rfl (hb hby d4_17) _ ?_
    show Steps p.tables e below (s₁.setTop (mkF m 18 #[.val (.ref b1), .val (.ref b2), .val (.int (1 : Int32))] [(.int (118 : Int32))])) _
    refine XS.aloadN X0.here hx rfl (hb hby d4_18) rfl rfl ?_
    show Steps p.tables e below (s₁.setTop (mkF m 19 #[.val (.ref b1), .val (.ref b2), .val (.int (1 : Int32))] [(.ref b2), (.int (118 : Int32))])) _
    refine XS.iloadN X0.here hx rfl (hb hby d4_19) rfl ?_
    show Steps p.tables e below (s₁.setTop (mkF m 20 #[.val (.ref b1), .val (.ref b2), .val (.int (1 : Int32))] [(.int (1 : Int32)), (.ref b2), (.int (118 : Int32))])) _
    refine X0.baloadBytes hx (j := (1 : Int32)) (v := .int (118 : Int32)) (by rw [e0]; exact A_2.1) (State.isArrayOf_alike hZ.alike A_2.2.1) A_2.2.2 (inb_of S_2 ⟨by decide, by decide⟩) (Has.at H_2 (inb_of S_2 ⟨by decide, by decide⟩) rfl) (g := (mkF m 20 #[.val (.ref b1), .val (.ref b2), .val (.int (1 : Int32))] [(.int (1 : Int32)), (.ref b2), (.int (118 : Int32))])) rfl rfl (hb hby d4_20) _ ?_
    show Steps p.tables e below (s₁.setTop (mkF m 21 #[.val (.ref b1), .val (.ref b2), .val (.int (1 : Int32))] [(.int (118 : Int32)), (.int (118 : Int32))])) _
    refine XS.icmpYes X0.here hx rfl (pc0 := 21) (pc' := 26) rfl (hb hby d4_21) rfl (XT.ii_eq_t (by decide)) (by decide) (by decide) ?_
    show Steps p.tables e below (s₁.setTop (mkF m 26 #[.val (.ref b1), .val (.ref b2), .val (.int (1 : Int32))] [])) _
    refine XS.iinc X0.here hx rfl (hb hby d4_26) rfl (l' := #[.val (.ref b1), .val (.ref b2), .val (.int (2 : Int32))]) rfl ?_
    show Steps p.tables e below (s₁.setTop (mkF m 29 #[.val (.ref b1), .val (.ref b2), .val (.int (2 : Int32))] [])) _
    refine XS.goto X0.here hx rfl (pc0 := 29) (pc' := 9) rfl (hb hby d4_29) (by decide) (by decide) ?_
    show Steps p.tables e below (s₁.setTop (mkF m 9 #[.val (.ref b1), .val (.ref b2), .val (.int (2 : Int32))] [])) _
    refine XS.iloadN X0.here hx rfl (hb hby d4_9) rfl ?_
    show Steps p.tables e below (s₁.setTop (mkF m 10 #[.val (.ref b1), .val (.ref b2), .val (.int (2 : Int32))] [(.int (2 : Int32))])) _
    refine XS.aloadN X0.here hx rfl (hb hby d4_10) rfl rfl ?_
    show Steps p.tables e below (s₁.setTop (mkF m 11 #[.val (.ref b1), .val (.ref b2), .val (.int (2 : Int32))] [(.ref b1), (.int (2 : Int32))])) _
    refine X0.arraylength hx (by rw [e0]; exact A_1.1) (State.isArrayOf_alike hZ.alike A_1.2.1) (g := (mkF m 11 #[.val (.ref b1), .val (.ref b2), .val (.int (2 : Int32))] [(.ref b1), (.int (2 : Int32))])) rfl rfl (hb hby d4_11) _ ?_; rw [len_of S_1 N_1]
    show Steps p.tables e below (s₁.setTop (mkF m 12 #[.val (.ref b1), .val (.ref b2), .val (.int (2 : Int32))] [(.int (5 : Int32)), (.int (2 : Int32))])) _
    refine XS.icmpNo X0.here hx rfl (hb hby d4_12) rfl (XT.ii_ge_f (by decide)) ?_
    show Steps p.tables e below (s₁.setTop (mkF m 15 #[.val (.ref b1), .val (.ref b2), .val (.int (2 : Int32))] [])) _
    refine XS.aloadN X0.here hx rfl (hb hby d4_15) rfl rfl ?_
    show Steps p.tables e below (s₁.setTop (mkF m 16 #[.val (.ref b1), .val (.ref b2), .val (.int (2 : Int32))] [(.ref b1)])) _
    refine XS.iloadN X0.here hx rfl (hb hby d4_16) rfl ?_
    show Steps p.tables e below (s₁.setTop (mkF m 17 #[.val (.ref b1), .val (.ref b2), .val (.int (2 : Int32))] [(.int (2 : Int32)), (.ref b1)])) _
    refine X0.baloadBytes hx (j := (2 : Int32)) (v := .int (101 : Int32)) (by rw [e0]; exact A_1.1) (State.isArrayOf_alike hZ.alike A_1.2.1) A_1.2.2 (inb_of S_1 ⟨by decide, by decide⟩) (Has.at H_1 (inb_of S_1 ⟨by decide, by decide⟩) rfl) (g := (mkF m 17 #[.val (.ref b1), .val (.ref b2), .val (.int (2 : Int32))] [(.int (2 : Int32)), (.ref b1)])) rfl rfl (hb hby d4_17) _ ?_
    show Steps p.tables e below (s₁.setTop (mkF m 18 #[.val (.ref b1), .val (.ref b2), .val (.int (2 : Int32))] [(.int (101 : Int32))])) _
    refine XS.aloadN X0.here hx rfl (hb hby d4_18) rfl rfl ?_
    show Steps p.tables e below (s₁.setTop (mkF m 19 #[.val (.ref b1), .val (.ref b2), .val (.int (2 : Int32))] [(.ref b2), (.int (101 : Int32))])) _
    refine XS.iloadN X0.here hx rfl (hb hby d4_19) rfl ?_
    show Steps p.tables e below (s₁.setTop (mkF m 20 #[.val (.ref b1), .val (.ref b2), .val (.int (2 : Int32))] [(.int (2 : Int32)), (.ref b2), (.int (101 : Int32))])) _
    refine X0.baloadBytes hx (j := (2 : Int32)) (v := .int (101 : Int32)) (by rw [e0]; exact A_2.1) (State.isArrayOf_alike hZ.alike A_2.2.1) A_2.2.2 (inb_of S_2 ⟨by decide, by decide⟩) (Has.at H_2 (inb_of S_2 ⟨by decide, by decide⟩) rfl) (g := (mkF m 20 #[.val (.ref b1), .val (.ref b2), .val (.int (2 : Int32))] [(.int (2 : Int32)), (.ref b2), (.int (101 : Int32))])) rfl rfl (hb hby d4_20) _ ?_
    show Steps p.tables e below (s₁.setTop (mkF m 21 #[.val (.ref b1), .val (.ref b2), .val (.int (2 : Int32))] [(.int (101 : Int32)), (.int (101 : Int32))])) _
    refine XS.icmpYes X0.here hx rfl (pc0 := 21) (pc' := 26) rfl (hb hby d4_21) rfl (XT.ii_eq_t (by decide)) (by decide) (by decide) ?_
    show Steps p.tables e below (s₁.setTop (mkF m 26 #[.val (.ref b1), .val (.ref b2), .val (.int (2 : Int32))] [])) _
    refine XS.iinc X0.here hx rfl (hb hby d4_26) rfl (l' := #[.val (.ref b1), .val (.ref b2), .val (.int (3 : Int32))]) rfl ?_
    show Steps p.tables e below (s₁.setTop (mkF m 29 #[.val (.ref b1), .val (.ref b2), .val (.int (3 : Int32))] [])) _
    refine XS.goto X0.here hx rfl (pc0 := 29) (pc' := 9) rfl (hb hby d4_29) (by decide) (by decide) ?_
    show Steps p.tables e below (s₁.setTop (mkF m 9 #[.val (.ref b1), .val (.ref b2), .val (.int (3 : Int32))] [])) _
    refine XS.iloadN X0.here hx rfl (hb hby d4_9) rfl ?_
    show Steps p.tables e below (s₁.setTop (mkF m 10 #[.val (.ref b1), .val (.ref b2), .val (.int (3 : Int32))] [(.int (3 : Int32))])) _
    refine XS.aloadN X0.here hx rfl (hb hby d4_10) rfl rfl ?_
    show Steps p.tables e below (s₁.setTop (mkF m 11 #[.val (.ref b1), .val (.ref b2), .val (.int (3 : Int32))] [(.ref b1), (.int (3 : Int32))])) _
    refine X0.arraylength hx (by rw [e0]; exact A_1.1) (State.isArrayOf_alike hZ.alike A_1.2.1) (g := (mkF m 11 #[.val (.ref b1), .val (.ref b2), .val (.int (3 : Int32))] [(.ref b1), (.int (3 : Int32))])) rfl rfl (hb hby d4_11) _ ?_; rw [len_of S_1 N_1]
    show Steps p.tables e below (s₁.setTop (mkF m 12 #[.val (.ref b1), .val (.ref b2), .val (.int (3 : Int32))] [(.int (5 : Int32)), (.int (3 : Int32))])) _
    refine XS.icmpNo X0.here hx rfl (hb hby d4_12) rfl (XT.ii_ge_f (by decide)) ?_
    show Steps p.tables e below (s₁.setTop (mkF m 15 #[.val (.ref b1), .val (.ref b2), .val (.int (3 : Int32))] [])) _
    refine XS.aloadN X0.here hx rfl (hb hby d4_15) rfl rfl ?_
    show Steps p.tables e below (s₁.setTop (mkF m 16 #[.val (.ref b1), .val (.ref b2), .val (.int (3 : Int32))] [(.ref b1)])) _
    refine XS.iloadN X0.here hx rfl (hb hby d4_16) rfl ?_
    show Steps p.tables e below (s₁.setTop (mkF m 17 #[.val (.ref b1), .val (.ref b2), .val (.int (3 : Int32))] [(.int (3 : Int32)), (.ref b1)])) _
    refine X0.baloadBytes hx (j := (3 : Int32)) (v := .int (110 : Int32)) (by rw [e0]; exact A_1.1) (State.isArrayOf_alike hZ.alike A_1.2.1) A_1.2.2 (inb_of S_1 ⟨by decide, by decide⟩) (Has.at H_1 (inb_of S_1 ⟨by decide, by decide⟩) rfl) (g := (mkF m 17 #[.val (.ref b1), .val (.ref b2), .val (.int (3 : Int32))] [(.int (3 : Int32)), (.ref b1)])) rfl rfl (hb hby d4_17) _ ?_
    show Steps p.tables e below (s₁.setTop (mkF m 18 #[.val (.ref b1), .val (.ref b2), .val (.int (3 : Int32))] [(.int (110 : Int32))])) _
    refine XS.aloadN X0.here hx rfl (hb hby d4_18) rfl rfl ?_
    show Steps p.tables e below (s₁.setTop (mkF m 19 #[.val (.ref b1), .val (.ref b2), .val (.int (3 : Int32))] [(.ref b2), (.int (110 : Int32))])) _
    refine XS.iloadN X0.here hx rfl (hb hby d4_19) rfl ?_
    show Steps p.tables e below (s₁.setTop (mkF m 20 #[.val (.ref b1), .val (.ref b2), .val (.int (3 : Int32))] [(.int (3 : Int32)), (.ref b2), (.int (110 : Int32))])) _
    refine X0.baloadBytes hx (j := (3 : Int32)) (v := .int (110 : Int32)) (by rw [e0]; exact A_2.1) (State.isArrayOf_alike hZ.alike A_2.2.1) A_2.2.2 (inb_of S_2 ⟨by decide, by decide⟩) (Has.at H_2 (inb_of S_2 ⟨by decide, by decide⟩) rfl) (g := (mkF m 20 #[.val (.ref b1), .val (.ref b2), .val (.int (3 : Int32))] [(.int (3 : Int32)), (.ref b2), (.int (110 : Int32))])) rfl rfl (hb hby d4_20) _ ?_
    show Steps p.tables e below (s₁.setTop (mkF m 21 #[.val (.ref b1), .val (.ref b2), .val (.int (3 : Int32))] [(.int (110 : Int32)), (.int (110 : Int32))])) _
    refine XS.icmpYes X0.here hx rfl (pc0 := 21) (pc' := 26) rfl (hb hby d4_21) rfl (XT.ii_eq_t (by decide)) (by decide) (by decide) ?_
    show Steps p.tables e below (s₁.setTop (mkF m 26 #[.val (.ref b1), .val (.ref b2), .val (.int (3 : Int32))] [])) _
    refine XS.iinc X0.here hx rfl (hb hby d4_26) rfl (l' := #[.val (.ref b1), .val (.ref b2), .val (.int (4 : Int32))]) rfl ?_
    show Steps p.tables e below (s₁.setTop (mkF m 29 #[.val (.ref b1), .val (.ref b2), .val (.int (4 : Int32))] [])) _
    refine XS.goto X0.here hx rfl (pc0 := 29) (pc' := 9) rfl (hb hby d4_29) (by decide) (by decide) ?_
    show Steps p.tables e below (s₁.setTop (mkF m 9 #[.val (.ref b1), .val (.ref b2), .val (.int (4 : Int32))] [])) _
    refine XS.iloadN X0.here hx rfl (hb hby d4_9) rfl ?_
    show Steps p.tables e below (s₁.setTop (mkF m 10 #[.val (.ref b1), .val (.ref b2), .val (.int (4 : Int32))] [(.int (4 : Int32))])) _
    refine XS.aloadN X0.here hx rfl (hb hby d4_10) rfl rfl ?_
    show Steps p.tables e below (s₁.setTop (mkF m 11 #[.val (.ref b1), .val (.ref b2), .val (.int (4 : Int32))] [(.ref b1), (.int (4 : Int32))])) _
    refine X0.arraylength hx (by rw [e0]; exact A_1.1) (State.isArrayOf_alike hZ.alike A_1.2.1) (g := (mkF m 11 #[.val (.ref b1), .val (.ref b2), .val (.int (4 : Int32))] [(.ref b1), (.int (4 : Int32))])) rfl rfl (hb hby d4_11) _ ?_; rw [len_of S_1 N_1]
    show Steps p.tables e below (s₁.setTop (mkF m 12 #[.val (.ref b1), .val (.ref b2), .val (.int (4 : Int32))] [(.int (5 : Int32)), (.int (4 : Int32))])) _
    refine XS.icmpNo X0.here hx rfl (hb hby d4_12) rfl (XT.ii_ge_f (by decide)) ?_
    show Steps p.tables e below (s₁.setTop (mkF m 15 #[.val (.ref b1), .val (.ref b2), .val (.int (4 : Int32))] [])) _
    refine XS.aloadN X0.here hx rfl (hb hby d4_15) rfl rfl ?_
    show Steps p.tables e below (s₁.setTop (mkF m 16 #[.val (.ref b1), .val (.ref b2), .val (.int (4 : Int32))] [(.ref b1)])) _
    refine XS.iloadN X0.here hx rfl (hb hby d4_16) rfl ?_
    show Steps p.tables e below (s₁.setTop (mkF m 17 #[.val (.ref b1), .val (.ref b2), .val (.int (4 : Int32))] [(.int (4 : Int32)), (.ref b1)])) _
    refine X0.baloadBytes hx (j := (4 : Int32)) (v := .int (116 : Int32)) (by rw [e0]; exact A_1.1) (State.isArrayOf_alike hZ.alike A_1.2.1) A_1.2.2 (inb_of S_1 ⟨by decide, by decide⟩) (Has.at H_1 (inb_of S_1 ⟨by decide, by decide⟩) rfl) (g := (mkF m 17 #[.val (.ref b1), .val (.ref b2), .val (.int (4 : Int32))] [(.int (4 : Int32)), (.ref b1)])) rfl rfl (hb hby d4_17) _ ?_
    show Steps p.tables e below (s₁.setTop (mkF m 18 #[.val (.ref b1), .val (.ref b2), .val (.int (4 : Int32))] [(.int (116 : Int32))])) _
    refine XS.aloadN X0.here hx rfl (hb hby d4_18) rfl rfl ?_
    show Steps p.tables e below (s₁.setTop (mkF m 19 #[.val (.ref b1), .val (.ref b2), .val (.int (4 : Int32))] [(.ref b2), (.int (116 : Int32))])) _
    refine XS.iloadN X0.here hx rfl (hb hby d4_19) rfl ?_
    show Steps p.tables e below (s₁.setTop (mkF m 20 #[.val (.ref b1), .val (.ref b2), .val (.int (4 : Int32))] [(.int (4 : Int32)), (.ref b2), (.int (116 : Int32))])) _
    refine X0.baloadBytes hx (j := (4 : Int32)) (v := .int (116 : Int32)) (by rw [e0]; exact A_2.1) (State.isArrayOf_alike hZ.alike A_2.2.1) A_2.2.2 (inb_of S_2 ⟨by decide, by decide⟩) (Has.at H_2 (inb_of S_2 ⟨by decide, by decide⟩) rfl) (g := (mkF m 20 #[.val (.ref b1), .val (.ref b2), .val (.int (4 : Int32))] [(.int (4 : Int32)), (.ref b2), (.int (116 : Int32))])) rfl rfl (hb hby d4_20) _ ?_
    show Steps p.tables e below (s₁.setTop (mkF m 21 #[.val (.ref b1), .val (.ref b2), .val (.int (4 : Int32))] [(.int (116 : Int32)), (.int (116 : Int32))])) _
    refine XS.icmpYes X0.here hx rfl (pc0 := 21) (pc' := 26) rfl (hb hby d4_21) rfl (XT.ii_eq_t (by decide)) (by decide) (by decide) ?_
    show Steps p.tables e below (s₁.setTop (mkF m 26 #[.val (.ref b1), .val (.ref b2), .val (.int (4 : Int32))] [])) _
    refine XS.iinc X0.here hx rfl (hb hby d4_26) rfl (l' := #[.val (.ref b1), .val (.ref b2), .val (.int (5 : Int32))]) rfl ?_
    show Steps p.tables e below (s₁.setTop (mkF m 29 #[.val (.ref b1), .val (.ref b2), .val (.int (5 : Int32))] [])) _
    refine XS.goto X0.here hx rfl (pc0 := 29) (pc' := 9) rfl (hb hby d4_29) (by decide) (by decide) ?_
    show Steps p.tables e below (s₁.setTop (mkF m 9 #[.val (.ref b1), .val (.ref b2), .val (.int (5 : Int32))] [])) _
    refine XS.iloadN X0.here hx rfl (hb hby d4_9) rfl ?_
    show Steps p.tables e below (s₁.setTop (mkF m 10 #[.val (.ref b1), .val (.ref b2), .val (.int (5 : Int32))] [(.int (5 : Int32))])) _
    refine XS.aloadN X0.here hx rfl (hb hby d4_10) rfl rfl ?_
    show Steps p.tables e below (s₁.setTop (mkF m 11 #[.val (.ref b1), .val (.ref b2), .val (.int (5 : Int32))] [(.ref b1), (.int (5 : Int32))])) _
    refine X0.arraylength hx (by rw [e0]; exact A_1.1) (State.isArrayOf_alike hZ.alike A_1.2.1) (g := (mkF m 11 #[.val (.ref b1), .val (.ref b2), .val (.int (5 : Int32))] [(.ref b1), (.int (5 : Int32))])) rfl rfl (hb hby d4_11) _ ?_; rw [len_of S_1 N_1]
    show Steps p.tables e below (s₁.setTop (mkF m 12 #[.val (.ref b1), .val (.ref b2), .val (.int (5 : Int32))] [(.int (5 : Int32)), (.int (5 : Int32))])) _
    refine XS.icmpYes X0.here hx rfl (pc0 := 12) (pc' := 32) rfl (hb hby d4_12) rfl (XT.ii_ge_t (by decide)) (by decide) (by decide) ?_
    show Steps p.tables e below (s₁.setTop (mkF m 32 #[.val (.ref b1), .val (.ref b2), .val (.int (5 : Int32))] [])) _
    refine XS.iconst X0.here hx rfl (hb hby d4_32) ?_
    exact uK
  exact own_ret (v := some (.int (1 : Int32))) X0 hlk (fun h => by rw [hret] at h; cases h) (fun fs hr => retOut X0 hx hret rfl (Or.inl ⟨rfl, by simp, _, rfl⟩) (hb hby d4_33) hr) (by rw [e0]; exact ⟨rfl, N0, rfl⟩) (by decide) (by decide)
def Q3s (Z : State) (x : Addr) (h0 : Heap) (n0 : Nat) (v : Option Value) (h : Heap) (L : List Loc) : Prop := v = some (.int 1) ∧ Fr n0 L ∧ h = h0
theorem own_ef_rm3s (m : MethodId) (x0 : Addr) (x1 : Addr) : entryFrame m #[(.ref x0), (.ref x1)] 3 = mkF m 0 #[.val (.ref x0), .val (.ref x1), .unset] [] := by first | (simp [entryFrame, mkF, argsToLocals, Value.category]; done) | rfl
set_option maxRecDepth 65536 in
set_option maxHeartbeats 40000000 in
theorem rm3s (l : Launch) (Z : State) (a0 : Array Value) (hw : ∀ d ∈ tables_1, d.before a0 Z = true) (ws : List Jvm.Cond) (x : Addr) (h0 : Heap) (n0 : Nat) (Z0 : n0 ≤ h0.size) :
    MetFree l (⟨"java/lang/String", "equals", "(Ljava/lang/Object;)Z"⟩ : MethodName) (head1 (Jvm.Cond.code (⟨"java/lang/String", "equals", "(Ljava/lang/Object;)Z"⟩ : MethodName) jdk_42_method_66_code 3 (some .boolean) :: ws) ({ frames := 0, cells := 0, slots := 0, locals := 0 } : Room)) (fun aQ UQ => aQ = #[(.ref x), (.ref x)] ∧ Z.Warmed39 UQ.vm ∧ UQ.heap = h0) (fun _ _ _ _ _ => True) (fun _ UQ oQ UR => ∃ vQ LQ, oQ = .returned vQ ∧ Q3s Z x h0 n0 vQ UR.heap LQ ∧ FrameEnd UQ oQ UR LQ ({ frames := 0, cells := 0, slots := 0, locals := 0 } : Room).cells ({ frames := 0, cells := 0, slots := 0, locals := 0 } : Room).slots) := by
  refine MetFree.of_bodySF (plainFor_of_name pn_3) hisR ?_
  intro p e s m args below meth c s₁ Bd hml0 hP hK
  obtain ⟨rfl, hZ, hh⟩ := hP
  have hx := Bd.exec
  have hby := Bd.bytes
  have hml : c.maxLocals = 3 := hml0
  have hown : s.vm.findClass "java/lang/String" = some m.cls := findClass_of_methodNamed Bd.named
  have hnm := (name_of_methodNamed Bd.named Bd.method).1
  have hret := Bd.returns
  have hlk : meth.locks = false := Bd.notSynchronized
  have X0 : Stand p l e ({ frames := 0, cells := 0, slots := 0, locals := 0 } : Room) s m #[(.ref x), (.ref x)] below meth c s₁ [] 0 0 := Stand.of_body Bd
  have e0 : s₁.heap = h0 := by rw [← hh, Bd.state]; rfl
  have N0 := Fr.nil n0
  have K : Ctx3 p s m meth c Z a0 := ⟨hx, hZ, hw, hby, hml, hown, hret, hlk, hnm⟩
  show OwnGo p e below s ({ frames := 0, cells := 0, slots := 0, locals := 0 } : Room).cells ({ frames := 0, cells := 0, slots := 0, locals := 0 } : Room).slots (Q3s Z x h0 n0) s₁ (entryFrame m #[(.ref x), (.ref x)] 3)
  refine own_cast (own_ef_rm3s m x x) ?_
  show OwnGo p e below s _ _ _ s₁ (mkF m 0 #[.val (.ref x), .val (.ref x), .unset] [])
  refine own_st (T' := s₁) (g' := (mkF m 6 #[.val (.ref x), .val (.ref x), .unset] [(.int (1 : Int32))])) (fun uT uK => ?_) ?_
  · show Steps p.tables e below (s₁.setTop (mkF m 0 #[.val (.ref x), .val (.ref x), .unset] [])) _
    refine XS.aloadN X0.here hx rfl (hb hby d3_0) rfl rfl ?_
    show Steps p.tables e below (s₁.setTop (mkF m 1 #[.val (.ref x), .val (.ref x), .unset] [(.ref x)])) _
    refine XS.aloadN X0.here hx rfl (hb hby d3_1) rfl rfl ?_
    show Steps p.tables e below (s₁.setTop (mkF m 2 #[.val (.ref x), .val (.ref x), .unset] [(.ref x), (.ref x)])) _
    refine Jvm.RoadKit.acmp (g := (mkF m 2 #[.val (.ref x), .val (.ref x), .unset] [(.ref x), (.ref x)])) X0 hx rfl rfl rfl (pc0 := 2) (pc' := 5) (same := true) rfl (hb hby d3_2) rfl (decide_eq_true (rfl)) (by decide) (by decide) ?_
    show Steps p.tables e below (s₁.setTop (mkF m 5 #[.val (.ref x), .val (.ref x), .unset] [])) _
    refine XS.iconst X0.here hx rfl (hb hby d3_5) ?_
    exact uK
  exact own_ret (v := some (.int (1 : Int32))) X0 hlk (fun h => by rw [hret] at h; cases h) (fun fs hr => retOut X0 hx hret rfl (Or.inl ⟨rfl, by simp, _, rfl⟩) (hb hby d3_6) hr) (by rw [e0]; exact ⟨rfl, N0, rfl⟩) (by decide) (by decide)
def Q3b (Z : State) (x : Addr) (y : Addr) (cs : Int32) (b1 : Addr) (b2 : Addr) (k1 : ClassId) (k2 : ClassId) (h0 : Heap) (n0 : Nat) (v : Option Value) (h : Heap) (L : List Loc) : Prop := v = some (.int 1) ∧ Fr n0 L ∧ h = h0
theorem own_ef_rm3b (m : MethodId) (x0 : Addr) (x1 : Addr) : entryFrame m #[(.ref x0), (.ref x1)] 3 = mkF m 0 #[.val (.ref x0), .val (.ref x1), .unset] [] := by first | (simp [entryFrame, mkF, argsToLocals, Value.category]; done) | rfl
set_option maxRecDepth 65536 in
set_option maxHeartbeats 40000000 in
theorem rm3b (l : Launch) (Z : State) (a0 : Array Value) (hw : ∀ d ∈ tables_1, d.before a0 Z = true) (ws : List Jvm.Cond) (x : Addr) (y : Addr) (cs : Int32) (b1 : Addr) (b2 : Addr) (k1 : ClassId) (k2 : ClassId) (h0 : Heap) (n0 : Nat) (Z0 : n0 ≤ h0.size) (E_y : Exa Z h0 y "java/lang/String") (C_x : Fld Z h0 x "java/lang/String" "coder" "B" (.int 0)) (C_y : Fld Z h0 y "java/lang/String" "coder" "B" (.int 0)) (W_x : Fld Z h0 x "java/lang/String" "value" "[B" (.ref b1)) (W_y : Fld Z h0 y "java/lang/String" "value" "[B" (.ref b2)) (S_c : Sta Z h0 "java/lang/String" "COMPACT_STRINGS" "Z" (.int cs)) (hcs : ¬ cs = 0) (hxy : ¬ x = y) (V_1 : Arv Z h0 b1 k1 .byte 5 [.int (101 : Int32), .int (118 : Int32), .int (101 : Int32), .int (110 : Int32), .int (116 : Int32)] (.int 0)) (V_2 : Arv Z h0 b2 k2 .byte 5 [.int (101 : Int32), .int (118 : Int32), .int (101 : Int32), .int (110 : Int32), .int (116 : Int32)] (.int 0)) :
    MetFree l (⟨"java/lang/String", "equals", "(Ljava/lang/Object;)Z"⟩ : MethodName) (head1 (Jvm.Cond.code (⟨"java/lang/String", "equals", "(Ljava/lang/Object;)Z"⟩ : MethodName) jdk_42_method_66_code 3 (some .boolean) :: ws) ({ frames := 1, cells := 0, slots := 0, locals := 14 } : Room)) (fun aQ UQ => aQ = #[(.ref x), (.ref y)] ∧ Z.Warmed39 UQ.vm ∧ UQ.heap = h0) (fun _ _ _ _ _ => True) (fun _ UQ oQ UR => ∃ vQ LQ, oQ = .returned vQ ∧ Q3b Z x y cs b1 b2 k1 k2 h0 n0 vQ UR.heap LQ ∧ FrameEnd UQ oQ UR LQ ({ frames := 1, cells := 0, slots := 0, locals := 14 } : Room).cells ({ frames := 1, cells := 0, slots := 0, locals := 14 } : Room).slots) := by
  refine MetFree.of_bodySF (plainFor_of_name pn_3) hisR ?_
  intro p e s m args below meth c s₁ Bd hml0 hP hK
  obtain ⟨rfl, hZ, hh⟩ := hP
  have hx := Bd.exec
  have hby := Bd.bytes
  have hml : c.maxLocals = 3 := hml0
  have hown : s.vm.findClass "java/lang/String" = some m.cls := findClass_of_methodNamed Bd.named
  have hnm := (name_of_methodNamed Bd.named Bd.method).1
  have hret := Bd.returns
  have hlk : meth.locks = false := Bd.notSynchronized
  have X0 : Stand p l e ({ frames := 1, cells := 0, slots := 0, locals := 14 } : Room) s m #[(.ref x), (.ref y)] below meth c s₁ [] 0 0 := Stand.of_body Bd
  have e0 : s₁.heap = h0 := by rw [← hh, Bd.state]; rfl
  have N0 := Fr.nil n0
  have K : Ctx3 p s m meth c Z a0 := ⟨hx, hZ, hw, hby, hml, hown, hret, hlk, hnm⟩
  show OwnGo p e below s ({ frames := 1, cells := 0, slots := 0, locals := 14 } : Room).cells ({ frames := 1, cells := 0, slots := 0, locals := 14 } : Room).slots (Q3b Z x y cs b1 b2 k1 k2 h0 n0) s₁ (entryFrame m #[(.ref x), (.ref y)] 3)
  refine own_cast (own_ef_rm3b m x y) ?_
  show OwnGo p e below s _ _ _ s₁ (mkF m 0 #[.val (.ref x), .val (.ref y), .unset] [])
  refine own_st (T' := s₁) (g' := (mkF m 8 #[.val (.ref x), .val (.ref y), .unset] [(.ref y)])) (fun uT uK => ?_) ?_
  · show Steps p.tables e below (s₁.setTop (mkF m 0 #[.val (.ref x), .val (.ref y), .unset] [])) _
    refine XS.aloadN X0.here hx rfl (hb hby d3_0) rfl rfl ?_
    show Steps p.tables e below (s₁.setTop (mkF m 1 #[.val (.ref x), .val (.ref y), .unset] [(.ref x)])) _
    refine XS.aloadN X0.here hx rfl (hb hby d3_1) rfl rfl ?_
    show Steps p.tables e below (s₁.setTop (mkF m 2 #[.val (.ref x), .val (.ref y), .unset] [(.ref y), (.ref x)])) _
    refine Jvm.RoadKit.acmp (g := (mkF m 2 #[.val (.ref x), .val (.ref y), .unset] [(.ref y), (.ref x)])) X0 hx rfl rfl rfl (pc0 := 2) (pc' := 7) (same := false) rfl (hb hby d3_2) rfl (decide_eq_false (fun q => hxy (Value.ref.inj q))) (by decide) (by decide) ?_
    show Steps p.tables e below (s₁.setTop (mkF m 7 #[.val (.ref x), .val (.ref y), .unset] [])) _
    refine XS.aloadN X0.here hx rfl (hb hby d3_7) rfl rfl ?_
    exact uK
  obtain ⟨T1, X1, e1, st1⟩ := instY X0 hx hZ hown (hw _ (List.mem_of_getElem? (i := 29) rfl)) e0 (Ins.self E_y) (g := (mkF m 8 #[.val (.ref x), .val (.ref y), .unset] [(.ref y)])) rfl rfl (hb hby d3_8)
  refine own_st st1 ?_
  show OwnGo p e below s _ _ _ T1 (mkF m 11 #[.val (.ref x), .val (.ref y), .unset] [(.int (1 : Int32))])
  refine own_st (T' := T1) (g' := (mkF m 15 #[.val (.ref x), .val (.ref y), .unset] [(.ref y)])) (fun uT uK => ?_) ?_
  · show Steps p.tables e below (T1.setTop (mkF m 11 #[.val (.ref x), .val (.ref y), .unset] [(.int (1 : Int32))])) _
    refine XS.ifNo X1.here hx rfl (hb hby d3_11) rfl (XT.i0_eq_f (by decide)) ?_
    show Steps p.tables e below (T1.setTop (mkF m 14 #[.val (.ref x), .val (.ref y), .unset] [])) _
    refine XS.aloadN X1.here hx rfl (hb hby d3_14) rfl rfl ?_
    exact uK
  obtain ⟨T2, X2, e2, st2⟩ := castY X1 hx hZ hown (hw _ (List.mem_of_getElem? (i := 29) rfl)) e1 (Ins.self E_y) (g := (mkF m 15 #[.val (.ref x), .val (.ref y), .unset] [(.ref y)])) rfl rfl (hb hby d3_15)
  refine own_st st2 ?_
  show OwnGo p e below s _ _ _ T2 (mkF m 18 #[.val (.ref x), .val (.ref y), .unset] [(.ref y)])
  refine own_st (T' := T2) (g' := (mkF m 19 #[.val (.ref x), .val (.ref y), .val (.ref y)] [])) (fun uT uK => ?_) ?_
  · show Steps p.tables e below (T2.setTop (mkF m 18 #[.val (.ref x), .val (.ref y), .unset] [(.ref y)])) _
    refine XS.astoreN X2.here hx rfl (hb hby d3_18) rfl rfl (l' := #[.val (.ref x), .val (.ref y), .val (.ref y)]) rfl ?_
    exact uK
  obtain ⟨T3, X3, e3, st3⟩ := getS2 X2 hx hZ hown (host := "") (Or.inl (hw _ (List.mem_of_getElem? (i := 31) rfl))) Via.refl e2 S_c (g := (mkF m 19 #[.val (.ref x), .val (.ref y), .val (.ref y)] [])) rfl (hb hby d3_19)
  refine own_st st3 ?_
  show OwnGo p e below s _ _ _ T3 (mkF m 22 #[.val (.ref x), .val (.ref y), .val (.ref y)] [(.int cs)])
  refine own_st (T' := T3) (g' := (mkF m 26 #[.val (.ref x), .val (.ref y), .val (.ref y)] [(.ref x)])) (fun uT uK => ?_) ?_
  · show Steps p.tables e below (T3.setTop (mkF m 22 #[.val (.ref x), .val (.ref y), .val (.ref y)] [(.int cs)])) _
    refine XS.ifNo X3.here hx rfl (hb hby d3_22) rfl (XT.i0_eq_f hcs) ?_
    show Steps p.tables e below (T3.setTop (mkF m 25 #[.val (.ref x), .val (.ref y), .val (.ref y)] [])) _
    refine XS.aloadN X3.here hx rfl (hb hby d3_25) rfl rfl ?_
    exact uK
  obtain ⟨T4, X4, e4, st4⟩ := getF X3 hx hZ hown (host := "") (Or.inl (hw _ (List.mem_of_getElem? (i := 32) rfl))) Via.refl e3 C_x (g := (mkF m 26 #[.val (.ref x), .val (.ref y), .val (.ref y)] [(.ref x)])) rfl rfl (hb hby d3_26)
  refine own_st st4 ?_
  show OwnGo p e below s _ _ _ T4 (mkF m 29 #[.val (.ref x), .val (.ref y), .val (.ref y)] [(.int (0 : Int32))])
  refine own_st (T' := T4) (g' := (mkF m 30 #[.val (.ref x), .val (.ref y), .val (.ref y)] [(.ref y), (.int (0 : Int32))])) (fun uT uK => ?_) ?_
  · show Steps p.tables e below (T4.setTop (mkF m 29 #[.val (.ref x), .val (.ref y), .val (.ref y)] [(.int (0 : Int32))])) _
    refine XS.aloadN X4.here hx rfl (hb hby d3_29) rfl rfl ?_
    exact uK
  obtain ⟨T5, X5, e5, st5⟩ := getF X4 hx hZ hown (host := "") (Or.inl (hw _ (List.mem_of_getElem? (i := 32) rfl))) Via.refl e4 C_y (g := (mkF m 30 #[.val (.ref x), .val (.ref y), .val (.ref y)] [(.ref y), (.int (0 : Int32))])) rfl rfl (hb hby d3_30)
  refine own_st st5 ?_
  show OwnGo p e below s _ _ _ T5 (mkF m 33 #[.val (.ref x), .val (.ref y), .val (.ref y)] [(.int (0 : Int32)), (.int (0 : Int32))])
  refine own_st (T' := T5) (g' := (mkF m 37 #[.val (.ref x), .val (.ref y), .val (.ref y)] [(.ref x)])) (fun uT uK => ?_) ?_
  · show Steps p.tables e below (T5.setTop (mkF m 33 #[.val (.ref x), .val (.ref y), .val (.ref y)] [(.int (0 : Int32)), (.int (0 : Int32))])) _
    refine XS.icmpNo X5.here hx rfl (hb hby d3_33) rfl (XT.ii_ne_f (by decide)) ?_
    show Steps p.tables e below (T5.setTop (mkF m 36 #[.val (.ref x), .val (.ref y), .val (.ref y)] [])) _
    refine XS.aloadN X5.here hx rfl (hb hby d3_36) rfl rfl ?_
    exact uK
  obtain ⟨T6, X6, e6, st6⟩ := getF X5 hx hZ hown (host := "") (Or.inl (hw _ (List.mem_of_getElem? (i := 33) rfl))) Via.refl e5 W_x (g := (mkF m 37 #[.val (.ref x), .val (.ref y), .val (.ref y)] [(.ref x)])) rfl rfl (hb hby d3_37)
  refine own_st st6 ?_
  show OwnGo p e below s _ _ _ T6 (mkF m 40 #[.val (.ref x), .val (.ref y), .val (.ref y)] [(.ref b1)])
  refine own_st (T' := T6) (g' := (mkF m 41 #[.val (.ref x), .val (.ref y), .val (.ref y)] [(.ref y), (.ref b1)])) (fun uT uK => ?_) ?_
  · show Steps p.tables e below (T6.setTop (mkF m 40 #[.val (.ref x), .val (.ref y), .val (.ref y)] [(.ref b1)])) _
    refine XS.aloadN X6.here hx rfl (hb hby d3_40) rfl rfl ?_
    exact uK
  obtain ⟨T7, X7, e7, st7⟩ := getF X6 hx hZ hown (host := "") (Or.inl (hw _ (List.mem_of_getElem? (i := 33) rfl))) Via.refl e6 W_y (g := (mkF m 41 #[.val (.ref x), .val (.ref y), .val (.ref y)] [(.ref y), (.ref b1)])) rfl rfl (hb hby d3_41)
  refine own_st st7 ?_
  show OwnGo p e below s _ _ _ T7 (mkF m 44 #[.val (.ref x), .val (.ref y), .val (.ref y)] [(.ref b2), (.ref b1)])
  obtain ⟨_, _, ⟨T8, L8, k8, n8⟩, -, X8, ⟨Lc8, hQ8, l8, y8, z8⟩, st8⟩ := Jvm.LawKit.callS X7 hx (y := (⟨"java/lang/StringLatin1", "equals", "([B[B)Z"⟩ : MethodName)) hown (mvT hZ (hw _ (List.mem_of_getElem? (i := 34) rfl))) (mvT hZ (hw _ (List.mem_of_getElem? (i := 35) rfl))) (mvT hZ (hw _ (List.mem_of_getElem? (i := 36) rfl))) (mvT hZ (hw _ (List.mem_of_getElem? (i := 37) rfl))) (by decide) (backOf (W := 0) (rm4b l Z a0 hw [] b1 b2 k1 k2 h0 n0 Z0 V_1 V_2) hZ (hw _ (List.mem_of_getElem? (i := 37) rfl)) (hw _ (List.mem_of_getElem? (i := 36) rfl)) (by decide) (by decide)) (g := (mkF m 44 #[.val (.ref x), .val (.ref y), .val (.ref y)] [(.ref b2), (.ref b1)])) rfl (by rw [hml]; rfl) (argsL := [(.ref b1), (.ref b2)]) (rest := []) (lenOf own_pd0 rfl) rfl (by show 2 * 0 + _ ≤ _; exact Nat.le_of_eq rfl) (hb hby d3_44) (fun _ _ => ⟨rfl, e7, (by decide : 0 + 0 ≤ _), (by decide : 0 + 0 ≤ _)⟩)
  dsimp only [Pt.U, Pt.locs, Pt.cells, Pt.slots] at X8 l8 y8 z8 st8 hQ8
  subst l8 y8 z8
  obtain ⟨rfl, Nq8, e8⟩ := hQ8
  have N8 := Fr.app N0 Nq8
  refine own_st st8 ?_
  show OwnGo p e below s _ _ _ T8 (mkF m 47 #[.val (.ref x), .val (.ref y), .val (.ref y)] [(.int (1 : Int32))])
  refine own_st (T' := T8) (g' := (mkF m 55 #[.val (.ref x), .val (.ref y), .val (.ref y)] [(.int (1 : Int32))])) (fun uT uK => ?_) ?_
  · show Steps p.tables e below (T8.setTop (mkF m 47 #[.val (.ref x), .val (.ref y), .val (.ref y)] [(.int (1 : Int32))])) _
    refine XS.ifNo X8.here hx rfl (hb hby d3_47) rfl (XT.i0_eq_f (by decide)) ?_
    show Steps p.tables e below (T8.setTop (mkF m 50 #[.val (.ref x), .val (.ref y), .val (.ref y)] [])) _
    refine XS.iconst X8.here hx rfl (hb hby d3_50) ?_
    show Steps p.tables e below (T8.setTop (mkF m 51 #[.val (.ref x), .val (.ref y), .val (.ref y)] [(.int (1 : Int32))])) _
    refine XS.goto X8.here hx rfl (pc0 := 51) (pc' := 55) rfl (hb hby d3_51) (by decide) (by decide) ?_
    exact uK
  exact own_ret (v := some (.int (1 : Int32))) X8 hlk (fun h => by rw [hret] at h; cases h) (fun fs hr => retOut X8 hx hret rfl (Or.inl ⟨rfl, by simp, _, rfl⟩) (hb hby d3_55) hr) (by rw [e8]; exact ⟨rfl, N8, rfl⟩) (by decide) (by decide)
def Q3a (Z : State) (x : Addr) (y : Addr) (cs : Int32) (b1 : Addr) (b2 : Addr) (k1 : ClassId) (k2 : ClassId) (z1 : Int32) (z2 : Int32) (vs1 : List Value) (vs2 : List Value) (h0 : Heap) (n0 : Nat) (v : Option Value) (h : Heap) (L : List Loc) : Prop := v = some (.int 0) ∧ Fr n0 L ∧ h = h0
theorem own_ef_rm3a (m : MethodId) (x0 : Addr) (x1 : Addr) : entryFrame m #[(.ref x0), (.ref x1)] 3 = mkF m 0 #[.val (.ref x0), .val (.ref x1), .unset] [] := by first | (simp [entryFrame, mkF, argsToLocals, Value.category]; done) | rfl
set_option maxRecDepth 65536 in
set_option maxHeartbeats 40000000 in
theorem rm3a (l : Launch) (Z : State) (a0 : Array Value) (hw : ∀ d ∈ tables_1, d.before a0 Z = true) (ws : List Jvm.Cond) (x : Addr) (y : Addr) (cs : Int32) (b1 : Addr) (b2 : Addr) (k1 : ClassId) (k2 : ClassId) (z1 : Int32) (z2 : Int32) (vs1 : List Value) (vs2 : List Value) (h0 : Heap) (n0 : Nat) (Z0 : n0 ≤ h0.size) (E_y : Exa Z h0 y "java/lang/String") (C_x : Fld Z h0 x "java/lang/String" "coder" "B" (.int 0)) (C_y : Fld Z h0 y "java/lang/String" "coder" "B" (.int 0)) (W_x : Fld Z h0 x "java/lang/String" "value" "[B" (.ref b1)) (W_y : Fld Z h0 y "java/lang/String" "value" "[B" (.ref b2)) (S_c : Sta Z h0 "java/lang/String" "COMPACT_STRINGS" "Z" (.int cs)) (hcs : ¬ cs = 0) (hxy : ¬ x = y) (V_1 : Arv Z h0 b1 k1 .byte z1 vs1 (.int 0)) (V_2 : Arv Z h0 b2 k2 .byte z2 vs2 (.int 0)) (hz : ¬ z1 = z2) :
    MetFree l (⟨"java/lang/String", "equals", "(Ljava/lang/Object;)Z"⟩ : MethodName) (head1 (Jvm.Cond.code (⟨"java/lang/String", "equals", "(Ljava/lang/Object;)Z"⟩ : MethodName) jdk_42_method_66_code 3 (some .boolean) :: ws) ({ frames := 1, cells := 0, slots := 0, locals := 14 } : Room)) (fun aQ UQ => aQ = #[(.ref x), (.ref y)] ∧ Z.Warmed39 UQ.vm ∧ UQ.heap = h0) (fun _ _ _ _ _ => True) (fun _ UQ oQ UR => ∃ vQ LQ, oQ = .returned vQ ∧ Q3a Z x y cs b1 b2 k1 k2 z1 z2 vs1 vs2 h0 n0 vQ UR.heap LQ ∧ FrameEnd UQ oQ UR LQ ({ frames := 1, cells := 0, slots := 0, locals := 14 } : Room).cells ({ frames := 1, cells := 0, slots := 0, locals := 14 } : Room).slots) := by
  refine MetFree.of_bodySF (plainFor_of_name pn_3) hisR ?_
  intro p e s m args below meth c s₁ Bd hml0 hP hK
  obtain ⟨rfl, hZ, hh⟩ := hP
  have hx := Bd.exec
  have hby := Bd.bytes
  have hml : c.maxLocals = 3 := hml0
  have hown : s.vm.findClass "java/lang/String" = some m.cls := findClass_of_methodNamed Bd.named
  have hnm := (name_of_methodNamed Bd.named Bd.method).1
  have hret := Bd.returns
  have hlk : meth.locks = false := Bd.notSynchronized
  have X0 : Stand p l e ({ frames := 1, cells := 0, slots := 0, locals := 14 } : Room) s m #[(.ref x), (.ref y)] below meth c s₁ [] 0 0 := Stand.of_body Bd
  have e0 : s₁.heap = h0 := by rw [← hh, Bd.state]; rfl
  have N0 := Fr.nil n0
  have K : Ctx3 p s m meth c Z a0 := ⟨hx, hZ, hw, hby, hml, hown, hret, hlk, hnm⟩
  show OwnGo p e below s ({ frames := 1, cells := 0, slots := 0, locals := 14 } : Room).cells ({ frames := 1, cells := 0, slots := 0, locals := 14 } : Room).slots (Q3a Z x y cs b1 b2 k1 k2 z1 z2 vs1 vs2 h0 n0) s₁ (entryFrame m #[(.ref x), (.ref y)] 3)
  refine own_cast (own_ef_rm3a m x y) ?_
  show OwnGo p e below s _ _ _ s₁ (mkF m 0 #[.val (.ref x), .val (.ref y), .unset] [])
  refine own_st (T' := s₁) (g' := (mkF m 8 #[.val (.ref x), .val (.ref y), .unset] [(.ref y)])) (fun uT uK => ?_) ?_
  · show Steps p.tables e below (s₁.setTop (mkF m 0 #[.val (.ref x), .val (.ref y), .unset] [])) _
    refine XS.aloadN X0.here hx rfl (hb hby d3_0) rfl rfl ?_
    show Steps p.tables e below (s₁.setTop (mkF m 1 #[.val (.ref x), .val (.ref y), .unset] [(.ref x)])) _
    refine XS.aloadN X0.here hx rfl (hb hby d3_1) rfl rfl ?_
    show Steps p.tables e below (s₁.setTop (mkF m 2 #[.val (.ref x), .val (.ref y), .unset] [(.ref y), (.ref x)])) _
    refine Jvm.RoadKit.acmp (g := (mkF m 2 #[.val (.ref x), .val (.ref y), .unset] [(.ref y), (.ref x)])) X0 hx rfl rfl rfl (pc0 := 2) (pc' := 7) (same := false) rfl (hb hby d3_2) rfl (decide_eq_false (fun q => hxy (Value.ref.inj q))) (by decide) (by decide) ?_
    show Steps p.tables e below (s₁.setTop (mkF m 7 #[.val (.ref x), .val (.ref y), .unset] [])) _
    refine XS.aloadN X0.here hx rfl (hb hby d3_7) rfl rfl ?_
    exact uK
  obtain ⟨T1, X1, e1, st1⟩ := instY X0 hx hZ hown (hw _ (List.mem_of_getElem? (i := 29) rfl)) e0 (Ins.self E_y) (g := (mkF m 8 #[.val (.ref x), .val (.ref y), .unset] [(.ref y)])) rfl rfl (hb hby d3_8)
  refine own_st st1 ?_
  show OwnGo p e below s _ _ _ T1 (mkF m 11 #[.val (.ref x), .val (.ref y), .unset] [(.int (1 : Int32))])
  refine own_st (T' := T1) (g' := (mkF m 15 #[.val (.ref x), .val (.ref y), .unset] [(.ref y)])) (fun uT uK => ?_) ?_
  · show Steps p.tables e below (T1.setTop (mkF m 11 #[.val (.ref x), .val (.ref y), .unset] [(.int (1 : Int32))])) _
    refine XS.ifNo X1.here hx rfl (hb hby d3_11) rfl (XT.i0_eq_f (by decide)) ?_
    show Steps p.tables e below (T1.setTop (mkF m 14 #[.val (.ref x), .val (.ref y), .unset] [])) _
    refine XS.aloadN X1.here hx rfl (hb hby d3_14) rfl rfl ?_
    exact uK
  obtain ⟨T2, X2, e2, st2⟩ := castY X1 hx hZ hown (hw _ (List.mem_of_getElem? (i := 29) rfl)) e1 (Ins.self E_y) (g := (mkF m 15 #[.val (.ref x), .val (.ref y), .unset] [(.ref y)])) rfl rfl (hb hby d3_15)
  refine own_st st2 ?_
  show OwnGo p e below s _ _ _ T2 (mkF m 18 #[.val (.ref x), .val (.ref y), .unset] [(.ref y)])
  refine own_st (T' := T2) (g' := (mkF m 19 #[.val (.ref x), .val (.ref y), .val (.ref y)] [])) (fun uT uK => ?_) ?_
  · show Steps p.tables e below (T2.setTop (mkF m 18 #[.val (.ref x), .val (.ref y), .unset] [(.ref y)])) _
    refine XS.astoreN X2.here hx rfl (hb hby d3_18) rfl rfl (l' := #[.val (.ref x), .val (.ref y), .val (.ref y)]) rfl ?_
    exact uK
  obtain ⟨T3, X3, e3, st3⟩ := getS2 X2 hx hZ hown (host := "") (Or.inl (hw _ (List.mem_of_getElem? (i := 31) rfl))) Via.refl e2 S_c (g := (mkF m 19 #[.val (.ref x), .val (.ref y), .val (.ref y)] [])) rfl (hb hby d3_19)
  refine own_st st3 ?_
  show OwnGo p e below s _ _ _ T3 (mkF m 22 #[.val (.ref x), .val (.ref y), .val (.ref y)] [(.int cs)])
  refine own_st (T' := T3) (g' := (mkF m 26 #[.val (.ref x), .val (.ref y), .val (.ref y)] [(.ref x)])) (fun uT uK => ?_) ?_
  · show Steps p.tables e below (T3.setTop (mkF m 22 #[.val (.ref x), .val (.ref y), .val (.ref y)] [(.int cs)])) _
    refine XS.ifNo X3.here hx rfl (hb hby d3_22) rfl (XT.i0_eq_f hcs) ?_
    show Steps p.tables e below (T3.setTop (mkF m 25 #[.val (.ref x), .val (.ref y), .val (.ref y)] [])) _
    refine XS.aloadN X3.here hx rfl (hb hby d3_25) rfl rfl ?_
    exact uK
  obtain ⟨T4, X4, e4, st4⟩ := getF X3 hx hZ hown (host := "") (Or.inl (hw _ (List.mem_of_getElem? (i := 32) rfl))) Via.refl e3 C_x (g := (mkF m 26 #[.val (.ref x), .val (.ref y), .val (.ref y)] [(.ref x)])) rfl rfl (hb hby d3_26)
  refine own_st st4 ?_
  show OwnGo p e below s _ _ _ T4 (mkF m 29 #[.val (.ref x), .val (.ref y), .val (.ref y)] [(.int (0 : Int32))])
  refine own_st (T' := T4) (g' := (mkF m 30 #[.val (.ref x), .val (.ref y), .val (.ref y)] [(.ref y), (.int (0 : Int32))])) (fun uT uK => ?_) ?_
  · show Steps p.tables e below (T4.setTop (mkF m 29 #[.val (.ref x), .val (.ref y), .val (.ref y)] [(.int (0 : Int32))])) _
    refine XS.aloadN X4.here hx rfl (hb hby d3_29) rfl rfl ?_
    exact uK
  obtain ⟨T5, X5, e5, st5⟩ := getF X4 hx hZ hown (host := "") (Or.inl (hw _ (List.mem_of_getElem? (i := 32) rfl))) Via.refl e4 C_y (g := (mkF m 30 #[.val (.ref x), .val (.ref y), .val (.ref y)] [(.ref y), (.int (0 : Int32))])) rfl rfl (hb hby d3_30)
  refine own_st st5 ?_
  show OwnGo p e below s _ _ _ T5 (mkF m 33 #[.val (.ref x), .val (.ref y), .val (.ref y)] [(.int (0 : Int32)), (.int (0 : Int32))])
  refine own_st (T' := T5) (g' := (mkF m 37 #[.val (.ref x), .val (.ref y), .val (.ref y)] [(.ref x)])) (fun uT uK => ?_) ?_
  · show Steps p.tables e below (T5.setTop (mkF m 33 #[.val (.ref x), .val (.ref y), .val (.ref y)] [(.int (0 : Int32)), (.int (0 : Int32))])) _
    refine XS.icmpNo X5.here hx rfl (hb hby d3_33) rfl (XT.ii_ne_f (by decide)) ?_
    show Steps p.tables e below (T5.setTop (mkF m 36 #[.val (.ref x), .val (.ref y), .val (.ref y)] [])) _
    refine XS.aloadN X5.here hx rfl (hb hby d3_36) rfl rfl ?_
    exact uK
  obtain ⟨T6, X6, e6, st6⟩ := getF X5 hx hZ hown (host := "") (Or.inl (hw _ (List.mem_of_getElem? (i := 33) rfl))) Via.refl e5 W_x (g := (mkF m 37 #[.val (.ref x), .val (.ref y), .val (.ref y)] [(.ref x)])) rfl rfl (hb hby d3_37)
  refine own_st st6 ?_
  show OwnGo p e below s _ _ _ T6 (mkF m 40 #[.val (.ref x), .val (.ref y), .val (.ref y)] [(.ref b1)])
  refine own_st (T' := T6) (g' := (mkF m 41 #[.val (.ref x), .val (.ref y), .val (.ref y)] [(.ref y), (.ref b1)])) (fun uT uK => ?_) ?_
  · show Steps p.tables e below (T6.setTop (mkF m 40 #[.val (.ref x), .val (.ref y), .val (.ref y)] [(.ref b1)])) _
    refine XS.aloadN X6.here hx rfl (hb hby d3_40) rfl rfl ?_
    exact uK
  obtain ⟨T7, X7, e7, st7⟩ := getF X6 hx hZ hown (host := "") (Or.inl (hw _ (List.mem_of_getElem? (i := 33) rfl))) Via.refl e6 W_y (g := (mkF m 41 #[.val (.ref x), .val (.ref y), .val (.ref y)] [(.ref y), (.ref b1)])) rfl rfl (hb hby d3_41)
  refine own_st st7 ?_
  show OwnGo p e below s _ _ _ T7 (mkF m 44 #[.val (.ref x), .val (.ref y), .val (.ref y)] [(.ref b2), (.ref b1)])
  obtain ⟨_, _, ⟨T8, L8, k8, n8⟩, -, X8, ⟨Lc8, hQ8, l8, y8, z8⟩, st8⟩ := Jvm.LawKit.callS X7 hx (y := (⟨"java/lang/StringLatin1", "equals", "([B[B)Z"⟩ : MethodName)) hown (mvT hZ (hw _ (List.mem_of_getElem? (i := 34) rfl))) (mvT hZ (hw _ (List.mem_of_getElem? (i := 35) rfl))) (mvT hZ (hw _ (List.mem_of_getElem? (i := 36) rfl))) (mvT hZ (hw _ (List.mem_of_getElem? (i := 37) rfl))) (by decide) (backOf (W := 0) (rm4a l Z a0 hw [] b1 b2 k1 k2 z1 z2 vs1 vs2 h0 n0 Z0 V_1 V_2 hz) hZ (hw _ (List.mem_of_getElem? (i := 37) rfl)) (hw _ (List.mem_of_getElem? (i := 36) rfl)) (by decide) (by decide)) (g := (mkF m 44 #[.val (.ref x), .val (.ref y), .val (.ref y)] [(.ref b2), (.ref b1)])) rfl (by rw [hml]; rfl) (argsL := [(.ref b1), (.ref b2)]) (rest := []) (lenOf own_pd0 rfl) rfl (by show 2 * 0 + _ ≤ _; exact Nat.le_of_eq rfl) (hb hby d3_44) (fun _ _ => ⟨rfl, e7, (by decide : 0 + 0 ≤ _), (by decide : 0 + 0 ≤ _)⟩)
  dsimp only [Pt.U, Pt.locs, Pt.cells, Pt.slots] at X8 l8 y8 z8 st8 hQ8
  subst l8 y8 z8
  obtain ⟨rfl, Nq8, e8⟩ := hQ8
  have N8 := Fr.app N0 Nq8
  refine own_st st8 ?_
  show OwnGo p e below s _ _ _ T8 (mkF m 47 #[.val (.ref x), .val (.ref y), .val (.ref y)] [(.int (0 : Int32))])
  refine own_st (T' := T8) (g' := (mkF m 55 #[.val (.ref x), .val (.ref y), .val (.ref y)] [(.int (0 : Int32))])) (fun uT uK => ?_) ?_
  · show Steps p.tables e below (T8.setTop (mkF m 47 #[.val (.ref x), .val (.ref y), .val (.ref y)] [(.int (0 : Int32))])) _
    refine XS.ifYes X8.here hx rfl (pc0 := 47) (pc' := 54) rfl (hb hby d3_47) rfl (XT.i0_eq_t (by decide)) (by decide) (by decide) ?_
    show Steps p.tables e below (T8.setTop (mkF m 54 #[.val (.ref x), .val (.ref y), .val (.ref y)] [])) _
    refine XS.iconst X8.here hx rfl (hb hby d3_54) ?_
    exact uK
  exact own_ret (v := some (.int (0 : Int32))) X8 hlk (fun h => by rw [hret] at h; cases h) (fun fs hr => retOut X8 hx hret rfl (Or.inl ⟨rfl, by simp, _, rfl⟩) (hb hby d3_55) hr) (by rw [e8]; exact ⟨rfl, N8, rfl⟩) (by decide) (by decide)
def Q0 (Z : State) (p1 : Int32) (oi : Addr) (oo : Addr) (ow : Addr) (oc : Addr) (ni : Addr) (nw : Addr) (nc : Addr) (bi : Addr) (bw : Addr) (bc : Addr) (ki : ClassId) (kw : ClassId) (kc : ClassId) (cs : Int32) (h0 : Heap) (n0 : Nat) (v : Option Value) (h : Heap) (L : List Loc) : Prop := v = some (.int 1) ∧ Fr n0 L
theorem own_ef_rm0 (m : MethodId) (x0 : Int32) : entryFrame m #[(.int x0)] maxLocals = mkF m 0 #[.val (.int x0), .unset, .unset, .unset, .unset] [] := by first | (simp [entryFrame, mkF, argsToLocals, Value.category, maxLocals]; done) | rfl
set_option maxRecDepth 65536 in
set_option maxHeartbeats 40000000 in
theorem rm0 (l : Launch) (Z : State) (a0 : Array Value) (hw : ∀ d ∈ tables_1, d.before a0 Z = true) (ws : List Jvm.Cond) (p1 : Int32) (oi : Addr) (oo : Addr) (ow : Addr) (oc : Addr) (ni : Addr) (nw : Addr) (nc : Addr) (bi : Addr) (bw : Addr) (bc : Addr) (ki : ClassId) (kw : ClassId) (kc : ClassId) (cs : Int32) (h0 : Heap) (n0 : Nat) (Z0 : n0 ≤ h0.size) (hZ0 : Z.heap = h0) (hn0 : h0.size = n0) (hheld : Jvm.Lit.constHeld Z "com/example/chartwright/chartwright/chart/KindEventPinLaw" 30) (hcw : Jvm.Lit.compactW.before a0 Z = true) (S_cs : Sta Z h0 "java/lang/String" "COMPACT_STRINGS" "Z" (.int cs)) (hcs : ¬ cs = 0) (S_oi : Sta Z h0 "com/example/chartwright/chartwright/chart/ChartSyntax$Member$Kind" "IN_EVENT" "Lcom/example/chartwright/chartwright/chart/ChartSyntax$Member$Kind;" (.ref oi)) (E_oi : Exa Z h0 oi "com/example/chartwright/chartwright/chart/ChartSyntax$Member$Kind") (F_oi : Fld Z h0 oi "com/example/chartwright/chartwright/chart/ChartSyntax$Member$Kind" "noun" "Ljava/lang/String;" (.ref ni)) (S_oo : Sta Z h0 "com/example/chartwright/chartwright/chart/ChartSyntax$Member$Kind" "OUT_EVENT" "Lcom/example/chartwright/chartwright/chart/ChartSyntax$Member$Kind;" (.ref oo)) (E_oo : Exa Z h0 oo "com/example/chartwright/chartwright/chart/ChartSyntax$Member$Kind") (F_oo : Fld Z h0 oo "com/example/chartwright/chartwright/chart/ChartSyntax$Member$Kind" "noun" "Ljava/lang/String;" (.ref ni)) (S_ow : Sta Z h0 "com/example/chartwright/chartwright/chart/ChartSyntax$Member$Kind" "VARIABLE" "Lcom/example/chartwright/chartwright/chart/ChartSyntax$Member$Kind;" (.ref ow)) (E_ow : Exa Z h0 ow "com/example/chartwright/chartwright/chart/ChartSyntax$Member$Kind") (F_ow : Fld Z h0 ow "com/example/chartwright/chartwright/chart/ChartSyntax$Member$Kind" "noun" "Ljava/lang/String;" (.ref nw)) (S_oc : Sta Z h0 "com/example/chartwright/chartwright/chart/ChartSyntax$Member$Kind" "CONSTANT" "Lcom/example/chartwright/chartwright/chart/ChartSyntax$Member$Kind;" (.ref oc)) (E_oc : Exa Z h0 oc "com/example/chartwright/chartwright/chart/ChartSyntax$Member$Kind") (F_oc : Fld Z h0 oc "com/example/chartwright/chartwright/chart/ChartSyntax$Member$Kind" "noun" "Ljava/lang/String;" (.ref nc)) (hwi : ow ≠ oi) (hwo : ow ≠ oo) (hci : oc ≠ oi) (hco : oc ≠ oo) (E_ni : Exa Z h0 ni "java/lang/String") (C_ni : Fld Z h0 ni "java/lang/String" "coder" "B" (.int 0)) (W_ni : Fld Z h0 ni "java/lang/String" "value" "[B" (.ref bi)) (V_ni : Arv Z h0 bi ki .byte 5 [.int (101 : Int32), .int (118 : Int32), .int (101 : Int32), .int (110 : Int32), .int (116 : Int32)] (.int 0)) (E_nw : Exa Z h0 nw "java/lang/String") (C_nw : Fld Z h0 nw "java/lang/String" "coder" "B" (.int 0)) (W_nw : Fld Z h0 nw "java/lang/String" "value" "[B" (.ref bw)) (V_nw : Arv Z h0 bw kw .byte 8 [.int (118 : Int32), .int (97 : Int32), .int (114 : Int32), .int (105 : Int32), .int (97 : Int32), .int (98 : Int32), .int (108 : Int32), .int (101 : Int32)] (.int 0)) (E_nc : Exa Z h0 nc "java/lang/String") (C_nc : Fld Z h0 nc "java/lang/String" "coder" "B" (.int 0)) (W_nc : Fld Z h0 nc "java/lang/String" "value" "[B" (.ref bc)) (V_nc : Arv Z h0 bc kc .byte 8 [.int (99 : Int32), .int (111 : Int32), .int (110 : Int32), .int (115 : Int32), .int (116 : Int32), .int (97 : Int32), .int (110 : Int32), .int (116 : Int32)] (.int 0)) :
    MetFree l x (head1 (Jvm.Cond.code x code maxLocals ret :: ws) room_1) (fun aQ UQ => aQ = #[(.int p1)] ∧ UQ = Z) (fun _ _ _ _ _ => True) (fun _ UQ oQ UR => ∃ vQ LQ, oQ = .returned vQ ∧ Q0 Z p1 oi oo ow oc ni nw nc bi bw bc ki kw kc cs h0 n0 vQ UR.heap LQ ∧ ReturnedEndW UQ oQ UR LQ room_1.cells room_1.slots) := by
  refine MetFree.of_bodySF (plainFor_of_name pn_0) hisR ?_
  intro p e s m args below meth c s₁ Bd hml0 hP hK
  obtain ⟨rfl, hUZ⟩ := hP
  have hZ : Z.Warmed39 s.vm := by rw [hUZ]; exact State.Warmed39.refl Z
  have hh : s.heap = h0 := by rw [hUZ]; exact hZ0
  have hI : IB Z s.vm [] := by rw [hUZ]; exact IB.start
  have hkeep : ∀ (b : Addr) (cl : Cell), Z.heap[b]? = some cl → s.heap[b]? = some cl := by rw [hUZ]; exact fun _ _ q => q
  have hsz : n0 = s.heap.size := by rw [hh]; exact hn0.symm
  have hx := Bd.exec
  have hby := Bd.bytes
  have hml : c.maxLocals = 5 := hml0
  have hown : s.vm.findClass "com/example/chartwright/chartwright/chart/KindEventPinLaw" = some m.cls := findClass_of_methodNamed Bd.named
  have hnm := (name_of_methodNamed Bd.named Bd.method).1
  have hret := Bd.returns
  have hlk : meth.locks = false := Bd.notSynchronized
  have X0 : Stand p l e room_1 s m #[(.int p1)] below meth c s₁ [] 0 0 := Stand.of_body Bd
  have e0 : s₁.heap = h0 := by rw [← hh, Bd.state]; rfl
  have N0 := Fr.nil n0
  have K : Ctx0 p s m meth c Z a0 := ⟨hx, hZ, hw, hby, hml, hown, hret, hlk, hnm⟩
  show OwnGoW p e below s room_1.cells room_1.slots (Q0 Z p1 oi oo ow oc ni nw nc bi bw bc ki kw kc cs h0 n0) s₁ (entryFrame m #[(.int p1)] maxLocals)
  refine own_castW (own_ef_rm0 m p1) ?_
  show OwnGoW p e below s _ _ _ s₁ (mkF m 0 #[.val (.int p1), .unset, .unset, .unset, .unset] [])
  refine own_stW (T' := s₁) (g' := (mkF m 4 #[.val (.int p1), .val (.int (p1 &&& (3 : Int32))), .unset, .unset, .unset] [])) (fun uT uK => ?_) ?_
  · show Steps p.tables e below (s₁.setTop (mkF m 0 #[.val (.int p1), .unset, .unset, .unset, .unset] [])) _
    refine XS.iloadN X0.here hx rfl (hb hby at_0) rfl ?_
    show Steps p.tables e below (s₁.setTop (mkF m 1 #[.val (.int p1), .unset, .unset, .unset, .unset] [(.int p1)])) _
    refine XS.iconst X0.here hx rfl (hb hby at_1) ?_
    show Steps p.tables e below (s₁.setTop (mkF m 2 #[.val (.int p1), .unset, .unset, .unset, .unset] [(.int (3 : Int32)), (.int p1)])) _
    refine XS.iand X0.here hx rfl (hb hby at_2) rfl ?_
    show Steps p.tables e below (s₁.setTop (mkF m 3 #[.val (.int p1), .unset, .unset, .unset, .unset] [(.int (p1 &&& (3 : Int32)))])) _
    refine XS.istoreN X0.here hx rfl (hb hby at_3) rfl (l' := #[.val (.int p1), .val (.int (p1 &&& (3 : Int32))), .unset, .unset, .unset]) rfl ?_
    exact uK
  obtain ⟨iv, hiv⟩ : ∃ iv, iv = (p1 &&& (3 : Int32)) := ⟨_, rfl⟩
  have hi := own_and3 p1
  rw [← hiv] at hi ⊢
  clear hiv
  rcases hi with rfl | rfl | rfl | rfl
  · show OwnGoW p e below s _ _ _ s₁ (mkF m 4 #[.val (.int p1), .val (.int (0 : Int32)), .unset, .unset, .unset] [])
    refine own_stW (T' := s₁) (g' := (mkF m 8 #[.val (.int p1), .val (.int (0 : Int32)), .unset, .unset, .unset] [])) (fun uT uK => ?_) ?_
    · show Steps p.tables e below (s₁.setTop (mkF m 4 #[.val (.int p1), .val (.int (0 : Int32)), .unset, .unset, .unset] [])) _
      refine XS.iloadN X0.here hx rfl (hb hby at_4) rfl ?_
      show Steps p.tables e below (s₁.setTop (mkF m 5 #[.val (.int p1), .val (.int (0 : Int32)), .unset, .unset, .unset] [(.int (0 : Int32))])) _
      refine XS.ifNo X0.here hx rfl (hb hby at_5) rfl (XT.i0_ne_f (by decide)) ?_
      exact uK
    obtain ⟨T1, X1, e1, st1⟩ := getS2 X0 hx hZ hown (host := "") (Or.inl (hw _ (List.mem_of_getElem? (i := 0) rfl))) Via.refl e0 S_oi (g := (mkF m 8 #[.val (.int p1), .val (.int (0 : Int32)), .unset, .unset, .unset] [])) rfl (hb hby at_8)
    refine own_stW st1 ?_
    show OwnGoW p e below s _ _ _ T1 (mkF m 11 #[.val (.int p1), .val (.int (0 : Int32)), .unset, .unset, .unset] [(.ref oi)])
    refine own_stW (T' := T1) (g' := (mkF m 55 #[.val (.int p1), .val (.int (0 : Int32)), .val (.ref oi), .val (.int (1 : Int32)), .unset] [(.ref oi)])) (fun uT uK => ?_) ?_
    · show Steps p.tables e below (T1.setTop (mkF m 11 #[.val (.int p1), .val (.int (0 : Int32)), .unset, .unset, .unset] [(.ref oi)])) _
      refine XS.astoreN X1.here hx rfl (hb hby at_11) rfl rfl (l' := #[.val (.int p1), .val (.int (0 : Int32)), .val (.ref oi), .unset, .unset]) rfl ?_
      show Steps p.tables e below (T1.setTop (mkF m 12 #[.val (.int p1), .val (.int (0 : Int32)), .val (.ref oi), .unset, .unset] [])) _
      refine XS.goto X1.here hx rfl (pc0 := 12) (pc' := 43) rfl (hb hby at_12) (by decide) (by decide) ?_
      show Steps p.tables e below (T1.setTop (mkF m 43 #[.val (.int p1), .val (.int (0 : Int32)), .val (.ref oi), .unset, .unset] [])) _
      refine XS.iloadN X1.here hx rfl (hb hby at_43) rfl ?_
      show Steps p.tables e below (T1.setTop (mkF m 44 #[.val (.int p1), .val (.int (0 : Int32)), .val (.ref oi), .unset, .unset] [(.int (0 : Int32))])) _
      refine XS.iconst X1.here hx rfl (hb hby at_44) ?_
      show Steps p.tables e below (T1.setTop (mkF m 45 #[.val (.int p1), .val (.int (0 : Int32)), .val (.ref oi), .unset, .unset] [(.int (2 : Int32)), (.int (0 : Int32))])) _
      refine XS.icmpNo X1.here hx rfl (hb hby at_45) rfl (XT.ii_ge_f (by decide)) ?_
      show Steps p.tables e below (T1.setTop (mkF m 48 #[.val (.int p1), .val (.int (0 : Int32)), .val (.ref oi), .unset, .unset] [])) _
      refine XS.iconst X1.here hx rfl (hb hby at_48) ?_
      show Steps p.tables e below (T1.setTop (mkF m 49 #[.val (.int p1), .val (.int (0 : Int32)), .val (.ref oi), .unset, .unset] [(.int (1 : Int32))])) _
      refine XS.goto X1.here hx rfl (pc0 := 49) (pc' := 53) rfl (hb hby at_49) (by decide) (by decide) ?_
      show Steps p.tables e below (T1.setTop (mkF m 53 #[.val (.int p1), .val (.int (0 : Int32)), .val (.ref oi), .unset, .unset] [(.int (1 : Int32))])) _
      refine XS.istoreN X1.here hx rfl (hb hby at_53) rfl (l' := #[.val (.int p1), .val (.int (0 : Int32)), .val (.ref oi), .val (.int (1 : Int32)), .unset]) rfl ?_
      show Steps p.tables e below (T1.setTop (mkF m 54 #[.val (.int p1), .val (.int (0 : Int32)), .val (.ref oi), .val (.int (1 : Int32)), .unset] [])) _
      refine XS.aloadN X1.here hx rfl (hb hby at_54) rfl rfl ?_
      exact uK
    obtain ⟨cq2, kq2, qa2, qb2, qc2⟩ := isOf hZ e1 (E_oi)
    obtain ⟨_, _, ⟨T2, L2, k2, n2⟩, -, X2, ⟨Lc2, hQ2, l2, y2, z2⟩, st2⟩ := X1.virtualBack hx (y := (⟨"com/example/chartwright/chartwright/chart/ChartSyntax$Member$Kind", "event", "()Z"⟩ : MethodName)) (z := (⟨"com/example/chartwright/chartwright/chart/ChartSyntax$Member$Kind", "event", "()Z"⟩ : MethodName)) hown (mvT hZ (hw _ (List.mem_of_getElem? (i := 3) rfl))) (mvT hZ (hw _ (List.mem_of_getElem? (i := 4) rfl))) (notFace_of_selects (args := #[]) (mvT hZ (hw _ (List.mem_of_getElem? (i := 6) rfl)))) (mvT hZ (hw _ (List.mem_of_getElem? (i := 6) rfl))) (mvT hZ (hw _ (List.mem_of_getElem? (i := 5) rfl))) (by decide) (backOf (W := 0) (rm1 l Z a0 hw [] oi oi oo h0 n0 Z0 S_oi S_oo) hZ (hw _ (List.mem_of_getElem? (i := 7) rfl)) (hw _ (List.mem_of_getElem? (i := 1) rfl)) (by decide) (by decide)) qa2 qc2 (g := (mkF m 55 #[.val (.int p1), .val (.int (0 : Int32)), .val (.ref oi), .val (.int (1 : Int32)), .unset] [(.ref oi)])) rfl (by rw [hml]; rfl) (Steps.refl _) (argsL := []) (rest := []) (lenOf own_pd1 rfl) rfl (by show 2 * 0 + _ ≤ _; exact Nat.le_of_eq rfl) (hb hby at_55) (fun _ _ => ⟨rfl, e1, (by decide : 0 + 0 ≤ _), (by decide : 0 + 0 ≤ _)⟩)
    dsimp only [Pt.U, Pt.locs, Pt.cells, Pt.slots] at X2 l2 y2 z2 st2 hQ2
    subst l2 y2 z2
    obtain ⟨rfl, Nq2, e2⟩ := hQ2
    have N2 := Fr.app N0 Nq2
    refine own_trW st2 ?_
    show OwnGoW p e below s _ _ _ T2 (mkF m 58 #[.val (.int p1), .val (.int (0 : Int32)), .val (.ref oi), .val (.int (1 : Int32)), .unset] [(.int (own_ev oi oi oo))])
    refine own_stW (T' := T2) (g' := (mkF m 69 #[.val (.int p1), .val (.int (0 : Int32)), .val (.ref oi), .val (.int (1 : Int32)), .val (.int (own_ev oi oi oo))] [(.ref oi), (.int (own_ev oi oi oo))])) (fun uT uK => ?_) ?_
    · show Steps p.tables e below (T2.setTop (mkF m 58 #[.val (.int p1), .val (.int (0 : Int32)), .val (.ref oi), .val (.int (1 : Int32)), .unset] [(.int (own_ev oi oi oo))])) _
      refine XS.istore X2.here hx rfl (hb hby at_58) rfl (l' := #[.val (.int p1), .val (.int (0 : Int32)), .val (.ref oi), .val (.int (1 : Int32)), .val (.int (own_ev oi oi oo))]) rfl ?_
      show Steps p.tables e below (T2.setTop (mkF m 60 #[.val (.int p1), .val (.int (0 : Int32)), .val (.ref oi), .val (.int (1 : Int32)), .val (.int (own_ev oi oi oo))] [])) _
      refine XS.iload X2.here hx rfl (hb hby at_60) rfl ?_
      show Steps p.tables e below (T2.setTop (mkF m 62 #[.val (.int p1), .val (.int (0 : Int32)), .val (.ref oi), .val (.int (1 : Int32)), .val (.int (own_ev oi oi oo))] [(.int (own_ev oi oi oo))])) _
      refine XS.iloadN X2.here hx rfl (hb hby at_62) rfl ?_
      show Steps p.tables e below (T2.setTop (mkF m 63 #[.val (.int p1), .val (.int (0 : Int32)), .val (.ref oi), .val (.int (1 : Int32)), .val (.int (own_ev oi oi oo))] [(.int (1 : Int32)), (.int (own_ev oi oi oo))])) _
      refine XS.icmpNo X2.here hx rfl (hb hby at_63) rfl (XT.ii_ne_f (own_ev_i oi oo)) ?_
      show Steps p.tables e below (T2.setTop (mkF m 66 #[.val (.int p1), .val (.int (0 : Int32)), .val (.ref oi), .val (.int (1 : Int32)), .val (.int (own_ev oi oi oo))] [])) _
      refine XS.iload X2.here hx rfl (hb hby at_66) rfl ?_
      show Steps p.tables e below (T2.setTop (mkF m 68 #[.val (.int p1), .val (.int (0 : Int32)), .val (.ref oi), .val (.int (1 : Int32)), .val (.int (own_ev oi oi oo))] [(.int (own_ev oi oi oo))])) _
      refine XS.aloadN X2.here hx rfl (hb hby at_68) rfl rfl ?_
      exact uK
    obtain ⟨cq3, kq3, qa3, qb3, qc3⟩ := isOf hZ e2 (E_oi)
    obtain ⟨_, _, ⟨T3, L3, k3, n3⟩, -, X3, ⟨Lc3, hQ3, l3, y3, z3⟩, st3⟩ := X2.virtualBack hx (y := (⟨"com/example/chartwright/chartwright/chart/ChartSyntax$Member$Kind", "noun", "()Ljava/lang/String;"⟩ : MethodName)) (z := (⟨"com/example/chartwright/chartwright/chart/ChartSyntax$Member$Kind", "noun", "()Ljava/lang/String;"⟩ : MethodName)) hown (mvT hZ (hw _ (List.mem_of_getElem? (i := 9) rfl))) (mvT hZ (hw _ (List.mem_of_getElem? (i := 10) rfl))) (notFace_of_selects (args := #[]) (mvT hZ (hw _ (List.mem_of_getElem? (i := 12) rfl)))) (mvT hZ (hw _ (List.mem_of_getElem? (i := 12) rfl))) (mvT hZ (hw _ (List.mem_of_getElem? (i := 11) rfl))) (by decide) (backOf (W := 1) (rm2 l Z a0 hw [] oi ni h0 n0 Z0 F_oi) hZ (hw _ (List.mem_of_getElem? (i := 13) rfl)) (hw _ (List.mem_of_getElem? (i := 1) rfl)) (by decide) (by decide)) qa3 qc3 (g := (mkF m 69 #[.val (.int p1), .val (.int (0 : Int32)), .val (.ref oi), .val (.int (1 : Int32)), .val (.int (own_ev oi oi oo))] [(.ref oi), (.int (own_ev oi oi oo))])) rfl (by rw [hml]; rfl) (Steps.refl _) (argsL := []) (rest := [(.int (own_ev oi oi oo))]) (lenOf own_pd2 rfl) rfl (by show 2 * 0 + _ ≤ _; exact Nat.le_of_eq rfl) (hb hby at_69) (fun _ _ => ⟨rfl, e2, (by decide : 0 + 0 ≤ _), (by decide : 0 + 0 ≤ _)⟩)
    dsimp only [Pt.U, Pt.locs, Pt.cells, Pt.slots] at X3 l3 y3 z3 st3 hQ3
    subst l3 y3 z3
    obtain ⟨rfl, Nq3, e3⟩ := hQ3
    have N3 := Fr.app N2 Nq3
    refine own_trW st3 ?_
    show OwnGoW p e below s _ _ _ T3 (mkF m 72 #[.val (.int p1), .val (.int (0 : Int32)), .val (.ref oi), .val (.int (1 : Int32)), .val (.int (own_ev oi oi oo))] [(.ref ni), (.int (own_ev oi oi oo))])
    obtain ⟨la, T4, h4, k1, lb, lk, X4, e4, E4, hS, Zk4, hZ, hown, E_la, C_la, W_la, V_la, -, -, -, st4⟩ := ldcSV (s := s) (vm0 := s.vm) X3 hx hZ hown (hw _ (List.mem_of_getElem? (i := 16) rfl)) (own_wS hw) e3 ((State.WarmedH.refl s).since 0) (Nat.zero_le _) (by rw [← hsz]; exact N3) hkeep hI (by simp) hheld hcw (vs := [.int (101 : Int32), .int (118 : Int32), .int (101 : Int32), .int (110 : Int32), .int (116 : Int32)]) (z := 5) (by first | decide | decide +kernel) (by decide) (by first | rfl | decide) (g := (mkF m 72 #[.val (.int p1), .val (.int (0 : Int32)), .val (.ref oi), .val (.int (1 : Int32)), .val (.int (own_ev oi oi oo))] [(.ref ni), (.int (own_ev oi oi oo))])) rfl (hb hby at_72) (n := 20) (by first | decide | decide +kernel) (by decide) (by decide) (by decide)
    have Sx4_java_lang_String_COMPACT_STRINGS := (S_cs).ext E4
    have Sx4_com_example_chartwright_chartwright_chart_ChartSyntax_Member_Kind_IN_EVENT := (S_oi).ext E4
    have Ex4_oi := (E_oi).ext E4
    have Fx4_oi_noun := (F_oi).ext E4
    have Sx4_com_example_chartwright_chartwright_chart_ChartSyntax_Member_Kind_OUT_EVENT := (S_oo).ext E4
    have Ex4_oo := (E_oo).ext E4
    have Fx4_oo_noun := (F_oo).ext E4
    have Sx4_com_example_chartwright_chartwright_chart_ChartSyntax_Member_Kind_VARIABLE := (S_ow).ext E4
    have Ex4_ow := (E_ow).ext E4
    have Fx4_ow_noun := (F_ow).ext E4
    have Sx4_com_example_chartwright_chartwright_chart_ChartSyntax_Member_Kind_CONSTANT := (S_oc).ext E4
    have Ex4_oc := (E_oc).ext E4
    have Fx4_oc_noun := (F_oc).ext E4
    have Ex4_ni := (E_ni).ext E4
    have Fx4_ni_coder := (C_ni).ext E4
    have Fx4_ni_value := (W_ni).ext E4
    have Vx4_bi := (V_ni).ext E4
    have Ex4_nw := (E_nw).ext E4
    have Fx4_nw_coder := (C_nw).ext E4
    have Fx4_nw_value := (W_nw).ext E4
    have Vx4_bw := (V_nw).ext E4
    have Ex4_nc := (E_nc).ext E4
    have Fx4_nc_coder := (C_nc).ext E4
    have Fx4_nc_value := (W_nc).ext E4
    have Vx4_bc := (V_nc).ext E4
    have Z4 : n0 ≤ h4.size := Nat.le_trans Z0 E4.1
    refine own_stW st4 ?_
    show OwnGoW p e below s _ _ _ T4 (mkF m 74 #[.val (.int p1), .val (.int (0 : Int32)), .val (.ref oi), .val (.int (1 : Int32)), .val (.int (own_ev oi oi oo))] [(.ref la), (.ref ni), (.int (own_ev oi oi oo))])
    by_cases hsame : ni = la
    · subst hsame
      show OwnGoW p e below s _ _ _ T4 (mkF m 74 #[.val (.int p1), .val (.int (0 : Int32)), .val (.ref oi), .val (.int (1 : Int32)), .val (.int (own_ev oi oi oo))] [(.ref ni), (.ref ni), (.int (own_ev oi oi oo))])
      obtain ⟨cq5, kq5, qa5, qb5, qc5⟩ := isOf hZ e4 (Ex4_ni)
      obtain ⟨_, _, ⟨T5, L5, k5, n5⟩, -, X5, ⟨Lc5, hQ5, l5, y5, z5⟩, st5⟩ := X4.virtualBack hx (y := (⟨"java/lang/String", "equals", "(Ljava/lang/Object;)Z"⟩ : MethodName)) (z := (⟨"java/lang/String", "equals", "(Ljava/lang/Object;)Z"⟩ : MethodName)) hown (mvT hZ (hw _ (List.mem_of_getElem? (i := 24) rfl))) (mvT hZ (hw _ (List.mem_of_getElem? (i := 25) rfl))) (notFace_of_selects (args := #[]) (mvT hZ (hw _ (List.mem_of_getElem? (i := 27) rfl)))) (mvT hZ (hw _ (List.mem_of_getElem? (i := 27) rfl))) (mvT hZ (hw _ (List.mem_of_getElem? (i := 26) rfl))) (by decide) (backOf (W := 1) (rm3s l Z a0 hw [] ni h4 n0 Z4) hZ (hw _ (List.mem_of_getElem? (i := 28) rfl)) (hw _ (List.mem_of_getElem? (i := 17) rfl)) (by decide) (by decide)) qa5 qc5 (g := (mkF m 74 #[.val (.int p1), .val (.int (0 : Int32)), .val (.ref oi), .val (.int (1 : Int32)), .val (.int (own_ev oi oi oo))] [(.ref ni), (.ref ni), (.int (own_ev oi oi oo))])) rfl (by rw [hml]; rfl) (Steps.refl _) (argsL := [(.ref ni)]) (rest := [(.int (own_ev oi oi oo))]) (lenOf own_pd3 rfl) rfl (by show 2 * 0 + _ ≤ _; exact Nat.le_of_eq rfl) (hb hby at_74) (fun _ _ => ⟨rfl, e4, (by decide : 2 + 0 ≤ _), (by decide : 24 + 0 ≤ _)⟩)
      dsimp only [Pt.U, Pt.locs, Pt.cells, Pt.slots] at X5 l5 y5 z5 st5 hQ5
      subst l5 y5 z5
      obtain ⟨rfl, Nq5, e5⟩ := hQ5
      have N5 := Fr.app N3 Nq5
      refine own_trW st5 ?_
      show OwnGoW p e below s _ _ _ T5 (mkF m 77 #[.val (.int p1), .val (.int (0 : Int32)), .val (.ref oi), .val (.int (1 : Int32)), .val (.int (own_ev oi oi oo))] [(.int (1 : Int32)), (.int (own_ev oi oi oo))])
      refine own_stW (T' := T5) (g' := (mkF m 85 #[.val (.int p1), .val (.int (0 : Int32)), .val (.ref oi), .val (.int (1 : Int32)), .val (.int (own_ev oi oi oo))] [(.int (1 : Int32))])) (fun uT uK => ?_) ?_
      · show Steps p.tables e below (T5.setTop (mkF m 77 #[.val (.int p1), .val (.int (0 : Int32)), .val (.ref oi), .val (.int (1 : Int32)), .val (.int (own_ev oi oi oo))] [(.int (1 : Int32)), (.int (own_ev oi oi oo))])) _
        refine XS.icmpNo X5.here hx rfl (hb hby at_77) rfl (XT.ii_ne_f (own_ev_i oi oo)) ?_
        show Steps p.tables e below (T5.setTop (mkF m 80 #[.val (.int p1), .val (.int (0 : Int32)), .val (.ref oi), .val (.int (1 : Int32)), .val (.int (own_ev oi oi oo))] [])) _
        refine XS.iconst X5.here hx rfl (hb hby at_80) ?_
        show Steps p.tables e below (T5.setTop (mkF m 81 #[.val (.int p1), .val (.int (0 : Int32)), .val (.ref oi), .val (.int (1 : Int32)), .val (.int (own_ev oi oi oo))] [(.int (1 : Int32))])) _
        refine XS.goto X5.here hx rfl (pc0 := 81) (pc' := 85) rfl (hb hby at_81) (by decide) (by decide) ?_
        exact uK
      exact own_retW (v := some (.int (1 : Int32))) X5 hS (by rw [e5]; exact Zk4) hlk (fun h => by rw [hret] at h; cases h) (fun fs hr => retOut X5 hx hret rfl (Or.inl ⟨rfl, by simp, _, rfl⟩) (hb hby at_85) hr) ⟨rfl, N5⟩ (by decide) (by decide)
    · obtain ⟨cq6, kq6, qa6, qb6, qc6⟩ := isOf hZ e4 (Ex4_ni)
      obtain ⟨_, _, ⟨T6, L6, k6, n6⟩, -, X6, ⟨Lc6, hQ6, l6, y6, z6⟩, st6⟩ := X4.virtualBack hx (y := (⟨"java/lang/String", "equals", "(Ljava/lang/Object;)Z"⟩ : MethodName)) (z := (⟨"java/lang/String", "equals", "(Ljava/lang/Object;)Z"⟩ : MethodName)) hown (mvT hZ (hw _ (List.mem_of_getElem? (i := 24) rfl))) (mvT hZ (hw _ (List.mem_of_getElem? (i := 25) rfl))) (notFace_of_selects (args := #[]) (mvT hZ (hw _ (List.mem_of_getElem? (i := 27) rfl)))) (mvT hZ (hw _ (List.mem_of_getElem? (i := 27) rfl))) (mvT hZ (hw _ (List.mem_of_getElem? (i := 26) rfl))) (by decide) (backOf (W := 1) (rm3b l Z a0 hw [] ni la cs bi lb ki lk h4 n0 Z4 E_la Fx4_ni_coder C_la Fx4_ni_value W_la Sx4_java_lang_String_COMPACT_STRINGS hcs hsame Vx4_bi V_la) hZ (hw _ (List.mem_of_getElem? (i := 28) rfl)) (hw _ (List.mem_of_getElem? (i := 17) rfl)) (by decide) (by decide)) qa6 qc6 (g := (mkF m 74 #[.val (.int p1), .val (.int (0 : Int32)), .val (.ref oi), .val (.int (1 : Int32)), .val (.int (own_ev oi oi oo))] [(.ref la), (.ref ni), (.int (own_ev oi oi oo))])) rfl (by rw [hml]; rfl) (Steps.refl _) (argsL := [(.ref la)]) (rest := [(.int (own_ev oi oi oo))]) (lenOf own_pd3 rfl) rfl (by show 2 * 0 + _ ≤ _; exact Nat.le_of_eq rfl) (hb hby at_74) (fun _ _ => ⟨rfl, e4, (by decide : 2 + 0 ≤ _), (by decide : 24 + 0 ≤ _)⟩)
      dsimp only [Pt.U, Pt.locs, Pt.cells, Pt.slots] at X6 l6 y6 z6 st6 hQ6
      subst l6 y6 z6
      obtain ⟨rfl, Nq6, e6⟩ := hQ6
      have N6 := Fr.app N3 Nq6
      refine own_trW st6 ?_
      show OwnGoW p e below s _ _ _ T6 (mkF m 77 #[.val (.int p1), .val (.int (0 : Int32)), .val (.ref oi), .val (.int (1 : Int32)), .val (.int (own_ev oi oi oo))] [(.int (1 : Int32)), (.int (own_ev oi oi oo))])
      refine own_stW (T' := T6) (g' := (mkF m 85 #[.val (.int p1), .val (.int (0 : Int32)), .val (.ref oi), .val (.int (1 : Int32)), .val (.int (own_ev oi oi oo))] [(.int (1 : Int32))])) (fun uT uK => ?_) ?_
      · show Steps p.tables e below (T6.setTop (mkF m 77 #[.val (.int p1), .val (.int (0 : Int32)), .val (.ref oi), .val (.int (1 : Int32)), .val (.int (own_ev oi oi oo))] [(.int (1 : Int32)), (.int (own_ev oi oi oo))])) _
        refine XS.icmpNo X6.here hx rfl (hb hby at_77) rfl (XT.ii_ne_f (own_ev_i oi oo)) ?_
        show Steps p.tables e below (T6.setTop (mkF m 80 #[.val (.int p1), .val (.int (0 : Int32)), .val (.ref oi), .val (.int (1 : Int32)), .val (.int (own_ev oi oi oo))] [])) _
        refine XS.iconst X6.here hx rfl (hb hby at_80) ?_
        show Steps p.tables e below (T6.setTop (mkF m 81 #[.val (.int p1), .val (.int (0 : Int32)), .val (.ref oi), .val (.int (1 : Int32)), .val (.int (own_ev oi oi oo))] [(.int (1 : Int32))])) _
        refine XS.goto X6.here hx rfl (pc0 := 81) (pc' := 85) rfl (hb hby at_81) (by decide) (by decide) ?_
        exact uK
      exact own_retW (v := some (.int (1 : Int32))) X6 hS (by rw [e6]; exact Zk4) hlk (fun h => by rw [hret] at h; cases h) (fun fs hr => retOut X6 hx hret rfl (Or.inl ⟨rfl, by simp, _, rfl⟩) (hb hby at_85) hr) ⟨rfl, N6⟩ (by decide) (by decide)
  · show OwnGoW p e below s _ _ _ s₁ (mkF m 4 #[.val (.int p1), .val (.int (1 : Int32)), .unset, .unset, .unset] [])
    refine own_stW (T' := s₁) (g' := (mkF m 20 #[.val (.int p1), .val (.int (1 : Int32)), .unset, .unset, .unset] [])) (fun uT uK => ?_) ?_
    · show Steps p.tables e below (s₁.setTop (mkF m 4 #[.val (.int p1), .val (.int (1 : Int32)), .unset, .unset, .unset] [])) _
      refine XS.iloadN X0.here hx rfl (hb hby at_4) rfl ?_
      show Steps p.tables e below (s₁.setTop (mkF m 5 #[.val (.int p1), .val (.int (1 : Int32)), .unset, .unset, .unset] [(.int (1 : Int32))])) _
      refine XS.ifYes X0.here hx rfl (pc0 := 5) (pc' := 15) rfl (hb hby at_5) rfl (XT.i0_ne_t (by decide)) (by decide) (by decide) ?_
      show Steps p.tables e below (s₁.setTop (mkF m 15 #[.val (.int p1), .val (.int (1 : Int32)), .unset, .unset, .unset] [])) _
      refine XS.iloadN X0.here hx rfl (hb hby at_15) rfl ?_
      show Steps p.tables e below (s₁.setTop (mkF m 16 #[.val (.int p1), .val (.int (1 : Int32)), .unset, .unset, .unset] [(.int (1 : Int32))])) _
      refine XS.iconst X0.here hx rfl (hb hby at_16) ?_
      show Steps p.tables e below (s₁.setTop (mkF m 17 #[.val (.int p1), .val (.int (1 : Int32)), .unset, .unset, .unset] [(.int (1 : Int32)), (.int (1 : Int32))])) _
      refine XS.icmpNo X0.here hx rfl (hb hby at_17) rfl (XT.ii_ne_f (by decide)) ?_
      exact uK
    obtain ⟨T7, X7, e7, st7⟩ := getS2 X0 hx hZ hown (host := "") (Or.inl (hw _ (List.mem_of_getElem? (i := 44) rfl))) Via.refl e0 S_oo (g := (mkF m 20 #[.val (.int p1), .val (.int (1 : Int32)), .unset, .unset, .unset] [])) rfl (hb hby at_20)
    refine own_stW st7 ?_
    show OwnGoW p e below s _ _ _ T7 (mkF m 23 #[.val (.int p1), .val (.int (1 : Int32)), .unset, .unset, .unset] [(.ref oo)])
    refine own_stW (T' := T7) (g' := (mkF m 55 #[.val (.int p1), .val (.int (1 : Int32)), .val (.ref oo), .val (.int (1 : Int32)), .unset] [(.ref oo)])) (fun uT uK => ?_) ?_
    · show Steps p.tables e below (T7.setTop (mkF m 23 #[.val (.int p1), .val (.int (1 : Int32)), .unset, .unset, .unset] [(.ref oo)])) _
      refine XS.astoreN X7.here hx rfl (hb hby at_23) rfl rfl (l' := #[.val (.int p1), .val (.int (1 : Int32)), .val (.ref oo), .unset, .unset]) rfl ?_
      show Steps p.tables e below (T7.setTop (mkF m 24 #[.val (.int p1), .val (.int (1 : Int32)), .val (.ref oo), .unset, .unset] [])) _
      refine XS.goto X7.here hx rfl (pc0 := 24) (pc' := 43) rfl (hb hby at_24) (by decide) (by decide) ?_
      show Steps p.tables e below (T7.setTop (mkF m 43 #[.val (.int p1), .val (.int (1 : Int32)), .val (.ref oo), .unset, .unset] [])) _
      refine XS.iloadN X7.here hx rfl (hb hby at_43) rfl ?_
      show Steps p.tables e below (T7.setTop (mkF m 44 #[.val (.int p1), .val (.int (1 : Int32)), .val (.ref oo), .unset, .unset] [(.int (1 : Int32))])) _
      refine XS.iconst X7.here hx rfl (hb hby at_44) ?_
      show Steps p.tables e below (T7.setTop (mkF m 45 #[.val (.int p1), .val (.int (1 : Int32)), .val (.ref oo), .unset, .unset] [(.int (2 : Int32)), (.int (1 : Int32))])) _
      refine XS.icmpNo X7.here hx rfl (hb hby at_45) rfl (XT.ii_ge_f (by decide)) ?_
      show Steps p.tables e below (T7.setTop (mkF m 48 #[.val (.int p1), .val (.int (1 : Int32)), .val (.ref oo), .unset, .unset] [])) _
      refine XS.iconst X7.here hx rfl (hb hby at_48) ?_
      show Steps p.tables e below (T7.setTop (mkF m 49 #[.val (.int p1), .val (.int (1 : Int32)), .val (.ref oo), .unset, .unset] [(.int (1 : Int32))])) _
      refine XS.goto X7.here hx rfl (pc0 := 49) (pc' := 53) rfl (hb hby at_49) (by decide) (by decide) ?_
      show Steps p.tables e below (T7.setTop (mkF m 53 #[.val (.int p1), .val (.int (1 : Int32)), .val (.ref oo), .unset, .unset] [(.int (1 : Int32))])) _
      refine XS.istoreN X7.here hx rfl (hb hby at_53) rfl (l' := #[.val (.int p1), .val (.int (1 : Int32)), .val (.ref oo), .val (.int (1 : Int32)), .unset]) rfl ?_
      show Steps p.tables e below (T7.setTop (mkF m 54 #[.val (.int p1), .val (.int (1 : Int32)), .val (.ref oo), .val (.int (1 : Int32)), .unset] [])) _
      refine XS.aloadN X7.here hx rfl (hb hby at_54) rfl rfl ?_
      exact uK
    obtain ⟨cq8, kq8, qa8, qb8, qc8⟩ := isOf hZ e7 (E_oo)
    obtain ⟨_, _, ⟨T8, L8, k8, n8⟩, -, X8, ⟨Lc8, hQ8, l8, y8, z8⟩, st8⟩ := X7.virtualBack hx (y := (⟨"com/example/chartwright/chartwright/chart/ChartSyntax$Member$Kind", "event", "()Z"⟩ : MethodName)) (z := (⟨"com/example/chartwright/chartwright/chart/ChartSyntax$Member$Kind", "event", "()Z"⟩ : MethodName)) hown (mvT hZ (hw _ (List.mem_of_getElem? (i := 3) rfl))) (mvT hZ (hw _ (List.mem_of_getElem? (i := 4) rfl))) (notFace_of_selects (args := #[]) (mvT hZ (hw _ (List.mem_of_getElem? (i := 6) rfl)))) (mvT hZ (hw _ (List.mem_of_getElem? (i := 6) rfl))) (mvT hZ (hw _ (List.mem_of_getElem? (i := 5) rfl))) (by decide) (backOf (W := 0) (rm1 l Z a0 hw [] oo oi oo h0 n0 Z0 S_oi S_oo) hZ (hw _ (List.mem_of_getElem? (i := 7) rfl)) (hw _ (List.mem_of_getElem? (i := 1) rfl)) (by decide) (by decide)) qa8 qc8 (g := (mkF m 55 #[.val (.int p1), .val (.int (1 : Int32)), .val (.ref oo), .val (.int (1 : Int32)), .unset] [(.ref oo)])) rfl (by rw [hml]; rfl) (Steps.refl _) (argsL := []) (rest := []) (lenOf own_pd1 rfl) rfl (by show 2 * 0 + _ ≤ _; exact Nat.le_of_eq rfl) (hb hby at_55) (fun _ _ => ⟨rfl, e7, (by decide : 0 + 0 ≤ _), (by decide : 0 + 0 ≤ _)⟩)
    dsimp only [Pt.U, Pt.locs, Pt.cells, Pt.slots] at X8 l8 y8 z8 st8 hQ8
    subst l8 y8 z8
    obtain ⟨rfl, Nq8, e8⟩ := hQ8
    have N8 := Fr.app N0 Nq8
    refine own_trW st8 ?_
    show OwnGoW p e below s _ _ _ T8 (mkF m 58 #[.val (.int p1), .val (.int (1 : Int32)), .val (.ref oo), .val (.int (1 : Int32)), .unset] [(.int (own_ev oo oi oo))])
    refine own_stW (T' := T8) (g' := (mkF m 69 #[.val (.int p1), .val (.int (1 : Int32)), .val (.ref oo), .val (.int (1 : Int32)), .val (.int (own_ev oo oi oo))] [(.ref oo), (.int (own_ev oo oi oo))])) (fun uT uK => ?_) ?_
    · show Steps p.tables e below (T8.setTop (mkF m 58 #[.val (.int p1), .val (.int (1 : Int32)), .val (.ref oo), .val (.int (1 : Int32)), .unset] [(.int (own_ev oo oi oo))])) _
      refine XS.istore X8.here hx rfl (hb hby at_58) rfl (l' := #[.val (.int p1), .val (.int (1 : Int32)), .val (.ref oo), .val (.int (1 : Int32)), .val (.int (own_ev oo oi oo))]) rfl ?_
      show Steps p.tables e below (T8.setTop (mkF m 60 #[.val (.int p1), .val (.int (1 : Int32)), .val (.ref oo), .val (.int (1 : Int32)), .val (.int (own_ev oo oi oo))] [])) _
      refine XS.iload X8.here hx rfl (hb hby at_60) rfl ?_
      show Steps p.tables e below (T8.setTop (mkF m 62 #[.val (.int p1), .val (.int (1 : Int32)), .val (.ref oo), .val (.int (1 : Int32)), .val (.int (own_ev oo oi oo))] [(.int (own_ev oo oi oo))])) _
      refine XS.iloadN X8.here hx rfl (hb hby at_62) rfl ?_
      show Steps p.tables e below (T8.setTop (mkF m 63 #[.val (.int p1), .val (.int (1 : Int32)), .val (.ref oo), .val (.int (1 : Int32)), .val (.int (own_ev oo oi oo))] [(.int (1 : Int32)), (.int (own_ev oo oi oo))])) _
      refine XS.icmpNo X8.here hx rfl (hb hby at_63) rfl (XT.ii_ne_f (own_ev_o oi oo)) ?_
      show Steps p.tables e below (T8.setTop (mkF m 66 #[.val (.int p1), .val (.int (1 : Int32)), .val (.ref oo), .val (.int (1 : Int32)), .val (.int (own_ev oo oi oo))] [])) _
      refine XS.iload X8.here hx rfl (hb hby at_66) rfl ?_
      show Steps p.tables e below (T8.setTop (mkF m 68 #[.val (.int p1), .val (.int (1 : Int32)), .val (.ref oo), .val (.int (1 : Int32)), .val (.int (own_ev oo oi oo))] [(.int (own_ev oo oi oo))])) _
      refine XS.aloadN X8.here hx rfl (hb hby at_68) rfl rfl ?_
      exact uK
    obtain ⟨cq9, kq9, qa9, qb9, qc9⟩ := isOf hZ e8 (E_oo)
    obtain ⟨_, _, ⟨T9, L9, k9, n9⟩, -, X9, ⟨Lc9, hQ9, l9, y9, z9⟩, st9⟩ := X8.virtualBack hx (y := (⟨"com/example/chartwright/chartwright/chart/ChartSyntax$Member$Kind", "noun", "()Ljava/lang/String;"⟩ : MethodName)) (z := (⟨"com/example/chartwright/chartwright/chart/ChartSyntax$Member$Kind", "noun", "()Ljava/lang/String;"⟩ : MethodName)) hown (mvT hZ (hw _ (List.mem_of_getElem? (i := 9) rfl))) (mvT hZ (hw _ (List.mem_of_getElem? (i := 10) rfl))) (notFace_of_selects (args := #[]) (mvT hZ (hw _ (List.mem_of_getElem? (i := 12) rfl)))) (mvT hZ (hw _ (List.mem_of_getElem? (i := 12) rfl))) (mvT hZ (hw _ (List.mem_of_getElem? (i := 11) rfl))) (by decide) (backOf (W := 1) (rm2 l Z a0 hw [] oo ni h0 n0 Z0 F_oo) hZ (hw _ (List.mem_of_getElem? (i := 13) rfl)) (hw _ (List.mem_of_getElem? (i := 1) rfl)) (by decide) (by decide)) qa9 qc9 (g := (mkF m 69 #[.val (.int p1), .val (.int (1 : Int32)), .val (.ref oo), .val (.int (1 : Int32)), .val (.int (own_ev oo oi oo))] [(.ref oo), (.int (own_ev oo oi oo))])) rfl (by rw [hml]; rfl) (Steps.refl _) (argsL := []) (rest := [(.int (own_ev oo oi oo))]) (lenOf own_pd2 rfl) rfl (by show 2 * 0 + _ ≤ _; exact Nat.le_of_eq rfl) (hb hby at_69) (fun _ _ => ⟨rfl, e8, (by decide : 0 + 0 ≤ _), (by decide : 0 + 0 ≤ _)⟩)
    dsimp only [Pt.U, Pt.locs, Pt.cells, Pt.slots] at X9 l9 y9 z9 st9 hQ9
    subst l9 y9 z9
    obtain ⟨rfl, Nq9, e9⟩ := hQ9
    have N9 := Fr.app N8 Nq9
    refine own_trW st9 ?_
    show OwnGoW p e below s _ _ _ T9 (mkF m 72 #[.val (.int p1), .val (.int (1 : Int32)), .val (.ref oo), .val (.int (1 : Int32)), .val (.int (own_ev oo oi oo))] [(.ref ni), (.int (own_ev oo oi oo))])
    obtain ⟨la, T10, h10, k1, lb, lk, X10, e10, E10, hS, Zk10, hZ, hown, E_la, C_la, W_la, V_la, -, -, -, st10⟩ := ldcSV (s := s) (vm0 := s.vm) X9 hx hZ hown (hw _ (List.mem_of_getElem? (i := 16) rfl)) (own_wS hw) e9 ((State.WarmedH.refl s).since 0) (Nat.zero_le _) (by rw [← hsz]; exact N9) hkeep hI (by simp) hheld hcw (vs := [.int (101 : Int32), .int (118 : Int32), .int (101 : Int32), .int (110 : Int32), .int (116 : Int32)]) (z := 5) (by first | decide | decide +kernel) (by decide) (by first | rfl | decide) (g := (mkF m 72 #[.val (.int p1), .val (.int (1 : Int32)), .val (.ref oo), .val (.int (1 : Int32)), .val (.int (own_ev oo oi oo))] [(.ref ni), (.int (own_ev oo oi oo))])) rfl (hb hby at_72) (n := 20) (by first | decide | decide +kernel) (by decide) (by decide) (by decide)
    have Sx10_java_lang_String_COMPACT_STRINGS := (S_cs).ext E10
    have Sx10_com_example_chartwright_chartwright_chart_ChartSyntax_Member_Kind_IN_EVENT := (S_oi).ext E10
    have Ex10_oi := (E_oi).ext E10
    have Fx10_oi_noun := (F_oi).ext E10
    have Sx10_com_example_chartwright_chartwright_chart_ChartSyntax_Member_Kind_OUT_EVENT := (S_oo).ext E10
    have Ex10_oo := (E_oo).ext E10
    have Fx10_oo_noun := (F_oo).ext E10
    have Sx10_com_example_chartwright_chartwright_chart_ChartSyntax_Member_Kind_VARIABLE := (S_ow).ext E10
    have Ex10_ow := (E_ow).ext E10
    have Fx10_ow_noun := (F_ow).ext E10
    have Sx10_com_example_chartwright_chartwright_chart_ChartSyntax_Member_Kind_CONSTANT := (S_oc).ext E10
    have Ex10_oc := (E_oc).ext E10
    have Fx10_oc_noun := (F_oc).ext E10
    have Ex10_ni := (E_ni).ext E10
    have Fx10_ni_coder := (C_ni).ext E10
    have Fx10_ni_value := (W_ni).ext E10
    have Vx10_bi := (V_ni).ext E10
    have Ex10_nw := (E_nw).ext E10
    have Fx10_nw_coder := (C_nw).ext E10
    have Fx10_nw_value := (W_nw).ext E10
    have Vx10_bw := (V_nw).ext E10
    have Ex10_nc := (E_nc).ext E10
    have Fx10_nc_coder := (C_nc).ext E10
    have Fx10_nc_value := (W_nc).ext E10
    have Vx10_bc := (V_nc).ext E10
    have Z10 : n0 ≤ h10.size := Nat.le_trans Z0 E10.1
    refine own_stW st10 ?_
    show OwnGoW p e below s _ _ _ T10 (mkF m 74 #[.val (.int p1), .val (.int (1 : Int32)), .val (.ref oo), .val (.int (1 : Int32)), .val (.int (own_ev oo oi oo))] [(.ref la), (.ref ni), (.int (own_ev oo oi oo))])
    by_cases hsame : ni = la
    · subst hsame
      show OwnGoW p e below s _ _ _ T10 (mkF m 74 #[.val (.int p1), .val (.int (1 : Int32)), .val (.ref oo), .val (.int (1 : Int32)), .val (.int (own_ev oo oi oo))] [(.ref ni), (.ref ni), (.int (own_ev oo oi oo))])
      obtain ⟨cq11, kq11, qa11, qb11, qc11⟩ := isOf hZ e10 (Ex10_ni)
      obtain ⟨_, _, ⟨T11, L11, k11, n11⟩, -, X11, ⟨Lc11, hQ11, l11, y11, z11⟩, st11⟩ := X10.virtualBack hx (y := (⟨"java/lang/String", "equals", "(Ljava/lang/Object;)Z"⟩ : MethodName)) (z := (⟨"java/lang/String", "equals", "(Ljava/lang/Object;)Z"⟩ : MethodName)) hown (mvT hZ (hw _ (List.mem_of_getElem? (i := 24) rfl))) (mvT hZ (hw _ (List.mem_of_getElem? (i := 25) rfl))) (notFace_of_selects (args := #[]) (mvT hZ (hw _ (List.mem_of_getElem? (i := 27) rfl)))) (mvT hZ (hw _ (List.mem_of_getElem? (i := 27) rfl))) (mvT hZ (hw _ (List.mem_of_getElem? (i := 26) rfl))) (by decide) (backOf (W := 1) (rm3s l Z a0 hw [] ni h10 n0 Z10) hZ (hw _ (List.mem_of_getElem? (i := 28) rfl)) (hw _ (List.mem_of_getElem? (i := 17) rfl)) (by decide) (by decide)) qa11 qc11 (g := (mkF m 74 #[.val (.int p1), .val (.int (1 : Int32)), .val (.ref oo), .val (.int (1 : Int32)), .val (.int (own_ev oo oi oo))] [(.ref ni), (.ref ni), (.int (own_ev oo oi oo))])) rfl (by rw [hml]; rfl) (Steps.refl _) (argsL := [(.ref ni)]) (rest := [(.int (own_ev oo oi oo))]) (lenOf own_pd3 rfl) rfl (by show 2 * 0 + _ ≤ _; exact Nat.le_of_eq rfl) (hb hby at_74) (fun _ _ => ⟨rfl, e10, (by decide : 2 + 0 ≤ _), (by decide : 24 + 0 ≤ _)⟩)
      dsimp only [Pt.U, Pt.locs, Pt.cells, Pt.slots] at X11 l11 y11 z11 st11 hQ11
      subst l11 y11 z11
      obtain ⟨rfl, Nq11, e11⟩ := hQ11
      have N11 := Fr.app N9 Nq11
      refine own_trW st11 ?_
      show OwnGoW p e below s _ _ _ T11 (mkF m 77 #[.val (.int p1), .val (.int (1 : Int32)), .val (.ref oo), .val (.int (1 : Int32)), .val (.int (own_ev oo oi oo))] [(.int (1 : Int32)), (.int (own_ev oo oi oo))])
      refine own_stW (T' := T11) (g' := (mkF m 85 #[.val (.int p1), .val (.int (1 : Int32)), .val (.ref oo), .val (.int (1 : Int32)), .val (.int (own_ev oo oi oo))] [(.int (1 : Int32))])) (fun uT uK => ?_) ?_
      · show Steps p.tables e below (T11.setTop (mkF m 77 #[.val (.int p1), .val (.int (1 : Int32)), .val (.ref oo), .val (.int (1 : Int32)), .val (.int (own_ev oo oi oo))] [(.int (1 : Int32)), (.int (own_ev oo oi oo))])) _
        refine XS.icmpNo X11.here hx rfl (hb hby at_77) rfl (XT.ii_ne_f (own_ev_o oi oo)) ?_
        show Steps p.tables e below (T11.setTop (mkF m 80 #[.val (.int p1), .val (.int (1 : Int32)), .val (.ref oo), .val (.int (1 : Int32)), .val (.int (own_ev oo oi oo))] [])) _
        refine XS.iconst X11.here hx rfl (hb hby at_80) ?_
        show Steps p.tables e below (T11.setTop (mkF m 81 #[.val (.int p1), .val (.int (1 : Int32)), .val (.ref oo), .val (.int (1 : Int32)), .val (.int (own_ev oo oi oo))] [(.int (1 : Int32))])) _
        refine XS.goto X11.here hx rfl (pc0 := 81) (pc' := 85) rfl (hb hby at_81) (by decide) (by decide) ?_
        exact uK
      exact own_retW (v := some (.int (1 : Int32))) X11 hS (by rw [e11]; exact Zk10) hlk (fun h => by rw [hret] at h; cases h) (fun fs hr => retOut X11 hx hret rfl (Or.inl ⟨rfl, by simp, _, rfl⟩) (hb hby at_85) hr) ⟨rfl, N11⟩ (by decide) (by decide)
    · obtain ⟨cq12, kq12, qa12, qb12, qc12⟩ := isOf hZ e10 (Ex10_ni)
      obtain ⟨_, _, ⟨T12, L12, k12, n12⟩, -, X12, ⟨Lc12, hQ12, l12, y12, z12⟩, st12⟩ := X10.virtualBack hx (y := (⟨"java/lang/String", "equals", "(Ljava/lang/Object;)Z"⟩ : MethodName)) (z := (⟨"java/lang/String", "equals", "(Ljava/lang/Object;)Z"⟩ : MethodName)) hown (mvT hZ (hw _ (List.mem_of_getElem? (i := 24) rfl))) (mvT hZ (hw _ (List.mem_of_getElem? (i := 25) rfl))) (notFace_of_selects (args := #[]) (mvT hZ (hw _ (List.mem_of_getElem? (i := 27) rfl)))) (mvT hZ (hw _ (List.mem_of_getElem? (i := 27) rfl))) (mvT hZ (hw _ (List.mem_of_getElem? (i := 26) rfl))) (by decide) (backOf (W := 1) (rm3b l Z a0 hw [] ni la cs bi lb ki lk h10 n0 Z10 E_la Fx10_ni_coder C_la Fx10_ni_value W_la Sx10_java_lang_String_COMPACT_STRINGS hcs hsame Vx10_bi V_la) hZ (hw _ (List.mem_of_getElem? (i := 28) rfl)) (hw _ (List.mem_of_getElem? (i := 17) rfl)) (by decide) (by decide)) qa12 qc12 (g := (mkF m 74 #[.val (.int p1), .val (.int (1 : Int32)), .val (.ref oo), .val (.int (1 : Int32)), .val (.int (own_ev oo oi oo))] [(.ref la), (.ref ni), (.int (own_ev oo oi oo))])) rfl (by rw [hml]; rfl) (Steps.refl _) (argsL := [(.ref la)]) (rest := [(.int (own_ev oo oi oo))]) (lenOf own_pd3 rfl) rfl (by show 2 * 0 + _ ≤ _; exact Nat.le_of_eq rfl) (hb hby at_74) (fun _ _ => ⟨rfl, e10, (by decide : 2 + 0 ≤ _), (by decide : 24 + 0 ≤ _)⟩)
      dsimp only [Pt.U, Pt.locs, Pt.cells, Pt.slots] at X12 l12 y12 z12 st12 hQ12
      subst l12 y12 z12
      obtain ⟨rfl, Nq12, e12⟩ := hQ12
      have N12 := Fr.app N9 Nq12
      refine own_trW st12 ?_
      show OwnGoW p e below s _ _ _ T12 (mkF m 77 #[.val (.int p1), .val (.int (1 : Int32)), .val (.ref oo), .val (.int (1 : Int32)), .val (.int (own_ev oo oi oo))] [(.int (1 : Int32)), (.int (own_ev oo oi oo))])
      refine own_stW (T' := T12) (g' := (mkF m 85 #[.val (.int p1), .val (.int (1 : Int32)), .val (.ref oo), .val (.int (1 : Int32)), .val (.int (own_ev oo oi oo))] [(.int (1 : Int32))])) (fun uT uK => ?_) ?_
      · show Steps p.tables e below (T12.setTop (mkF m 77 #[.val (.int p1), .val (.int (1 : Int32)), .val (.ref oo), .val (.int (1 : Int32)), .val (.int (own_ev oo oi oo))] [(.int (1 : Int32)), (.int (own_ev oo oi oo))])) _
        refine XS.icmpNo X12.here hx rfl (hb hby at_77) rfl (XT.ii_ne_f (own_ev_o oi oo)) ?_
        show Steps p.tables e below (T12.setTop (mkF m 80 #[.val (.int p1), .val (.int (1 : Int32)), .val (.ref oo), .val (.int (1 : Int32)), .val (.int (own_ev oo oi oo))] [])) _
        refine XS.iconst X12.here hx rfl (hb hby at_80) ?_
        show Steps p.tables e below (T12.setTop (mkF m 81 #[.val (.int p1), .val (.int (1 : Int32)), .val (.ref oo), .val (.int (1 : Int32)), .val (.int (own_ev oo oi oo))] [(.int (1 : Int32))])) _
        refine XS.goto X12.here hx rfl (pc0 := 81) (pc' := 85) rfl (hb hby at_81) (by decide) (by decide) ?_
        exact uK
      exact own_retW (v := some (.int (1 : Int32))) X12 hS (by rw [e12]; exact Zk10) hlk (fun h => by rw [hret] at h; cases h) (fun fs hr => retOut X12 hx hret rfl (Or.inl ⟨rfl, by simp, _, rfl⟩) (hb hby at_85) hr) ⟨rfl, N12⟩ (by decide) (by decide)
  · show OwnGoW p e below s _ _ _ s₁ (mkF m 4 #[.val (.int p1), .val (.int (2 : Int32)), .unset, .unset, .unset] [])
    refine own_stW (T' := s₁) (g' := (mkF m 32 #[.val (.int p1), .val (.int (2 : Int32)), .unset, .unset, .unset] [])) (fun uT uK => ?_) ?_
    · show Steps p.tables e below (s₁.setTop (mkF m 4 #[.val (.int p1), .val (.int (2 : Int32)), .unset, .unset, .unset] [])) _
      refine XS.iloadN X0.here hx rfl (hb hby at_4) rfl ?_
      show Steps p.tables e below (s₁.setTop (mkF m 5 #[.val (.int p1), .val (.int (2 : Int32)), .unset, .unset, .unset] [(.int (2 : Int32))])) _
      refine XS.ifYes X0.here hx rfl (pc0 := 5) (pc' := 15) rfl (hb hby at_5) rfl (XT.i0_ne_t (by decide)) (by decide) (by decide) ?_
      show Steps p.tables e below (s₁.setTop (mkF m 15 #[.val (.int p1), .val (.int (2 : Int32)), .unset, .unset, .unset] [])) _
      refine XS.iloadN X0.here hx rfl (hb hby at_15) rfl ?_
      show Steps p.tables e below (s₁.setTop (mkF m 16 #[.val (.int p1), .val (.int (2 : Int32)), .unset, .unset, .unset] [(.int (2 : Int32))])) _
      refine XS.iconst X0.here hx rfl (hb hby at_16) ?_
      show Steps p.tables e below (s₁.setTop (mkF m 17 #[.val (.int p1), .val (.int (2 : Int32)), .unset, .unset, .unset] [(.int (1 : Int32)), (.int (2 : Int32))])) _
      refine XS.icmpYes X0.here hx rfl (pc0 := 17) (pc' := 27) rfl (hb hby at_17) rfl (XT.ii_ne_t (by decide)) (by decide) (by decide) ?_
      show Steps p.tables e below (s₁.setTop (mkF m 27 #[.val (.int p1), .val (.int (2 : Int32)), .unset, .unset, .unset] [])) _
      refine XS.iloadN X0.here hx rfl (hb hby at_27) rfl ?_
      show Steps p.tables e below (s₁.setTop (mkF m 28 #[.val (.int p1), .val (.int (2 : Int32)), .unset, .unset, .unset] [(.int (2 : Int32))])) _
      refine XS.iconst X0.here hx rfl (hb hby at_28) ?_
      show Steps p.tables e below (s₁.setTop (mkF m 29 #[.val (.int p1), .val (.int (2 : Int32)), .unset, .unset, .unset] [(.int (2 : Int32)), (.int (2 : Int32))])) _
      refine XS.icmpNo X0.here hx rfl (hb hby at_29) rfl (XT.ii_ne_f (by decide)) ?_
      exact uK
    obtain ⟨T13, X13, e13, st13⟩ := getS2 X0 hx hZ hown (host := "") (Or.inl (hw _ (List.mem_of_getElem? (i := 42) rfl))) Via.refl e0 S_ow (g := (mkF m 32 #[.val (.int p1), .val (.int (2 : Int32)), .unset, .unset, .unset] [])) rfl (hb hby at_32)
    refine own_stW st13 ?_
    show OwnGoW p e below s _ _ _ T13 (mkF m 35 #[.val (.int p1), .val (.int (2 : Int32)), .unset, .unset, .unset] [(.ref ow)])
    refine own_stW (T' := T13) (g' := (mkF m 55 #[.val (.int p1), .val (.int (2 : Int32)), .val (.ref ow), .val (.int (0 : Int32)), .unset] [(.ref ow)])) (fun uT uK => ?_) ?_
    · show Steps p.tables e below (T13.setTop (mkF m 35 #[.val (.int p1), .val (.int (2 : Int32)), .unset, .unset, .unset] [(.ref ow)])) _
      refine XS.astoreN X13.here hx rfl (hb hby at_35) rfl rfl (l' := #[.val (.int p1), .val (.int (2 : Int32)), .val (.ref ow), .unset, .unset]) rfl ?_
      show Steps p.tables e below (T13.setTop (mkF m 36 #[.val (.int p1), .val (.int (2 : Int32)), .val (.ref ow), .unset, .unset] [])) _
      refine XS.goto X13.here hx rfl (pc0 := 36) (pc' := 43) rfl (hb hby at_36) (by decide) (by decide) ?_
      show Steps p.tables e below (T13.setTop (mkF m 43 #[.val (.int p1), .val (.int (2 : Int32)), .val (.ref ow), .unset, .unset] [])) _
      refine XS.iloadN X13.here hx rfl (hb hby at_43) rfl ?_
      show Steps p.tables e below (T13.setTop (mkF m 44 #[.val (.int p1), .val (.int (2 : Int32)), .val (.ref ow), .unset, .unset] [(.int (2 : Int32))])) _
      refine XS.iconst X13.here hx rfl (hb hby at_44) ?_
      show Steps p.tables e below (T13.setTop (mkF m 45 #[.val (.int p1), .val (.int (2 : Int32)), .val (.ref ow), .unset, .unset] [(.int (2 : Int32)), (.int (2 : Int32))])) _
      refine XS.icmpYes X13.here hx rfl (pc0 := 45) (pc' := 52) rfl (hb hby at_45) rfl (XT.ii_ge_t (by decide)) (by decide) (by decide) ?_
      show Steps p.tables e below (T13.setTop (mkF m 52 #[.val (.int p1), .val (.int (2 : Int32)), .val (.ref ow), .unset, .unset] [])) _
      refine XS.iconst X13.here hx rfl (hb hby at_52) ?_
      show Steps p.tables e below (T13.setTop (mkF m 53 #[.val (.int p1), .val (.int (2 : Int32)), .val (.ref ow), .unset, .unset] [(.int (0 : Int32))])) _
      refine XS.istoreN X13.here hx rfl (hb hby at_53) rfl (l' := #[.val (.int p1), .val (.int (2 : Int32)), .val (.ref ow), .val (.int (0 : Int32)), .unset]) rfl ?_
      show Steps p.tables e below (T13.setTop (mkF m 54 #[.val (.int p1), .val (.int (2 : Int32)), .val (.ref ow), .val (.int (0 : Int32)), .unset] [])) _
      refine XS.aloadN X13.here hx rfl (hb hby at_54) rfl rfl ?_
      exact uK
    obtain ⟨cq14, kq14, qa14, qb14, qc14⟩ := isOf hZ e13 (E_ow)
    obtain ⟨_, _, ⟨T14, L14, k14, n14⟩, -, X14, ⟨Lc14, hQ14, l14, y14, z14⟩, st14⟩ := X13.virtualBack hx (y := (⟨"com/example/chartwright/chartwright/chart/ChartSyntax$Member$Kind", "event", "()Z"⟩ : MethodName)) (z := (⟨"com/example/chartwright/chartwright/chart/ChartSyntax$Member$Kind", "event", "()Z"⟩ : MethodName)) hown (mvT hZ (hw _ (List.mem_of_getElem? (i := 3) rfl))) (mvT hZ (hw _ (List.mem_of_getElem? (i := 4) rfl))) (notFace_of_selects (args := #[]) (mvT hZ (hw _ (List.mem_of_getElem? (i := 6) rfl)))) (mvT hZ (hw _ (List.mem_of_getElem? (i := 6) rfl))) (mvT hZ (hw _ (List.mem_of_getElem? (i := 5) rfl))) (by decide) (backOf (W := 0) (rm1 l Z a0 hw [] ow oi oo h0 n0 Z0 S_oi S_oo) hZ (hw _ (List.mem_of_getElem? (i := 7) rfl)) (hw _ (List.mem_of_getElem? (i := 1) rfl)) (by decide) (by decide)) qa14 qc14 (g := (mkF m 55 #[.val (.int p1), .val (.int (2 : Int32)), .val (.ref ow), .val (.int (0 : Int32)), .unset] [(.ref ow)])) rfl (by rw [hml]; rfl) (Steps.refl _) (argsL := []) (rest := []) (lenOf own_pd1 rfl) rfl (by show 2 * 0 + _ ≤ _; exact Nat.le_of_eq rfl) (hb hby at_55) (fun _ _ => ⟨rfl, e13, (by decide : 0 + 0 ≤ _), (by decide : 0 + 0 ≤ _)⟩)
    dsimp only [Pt.U, Pt.locs, Pt.cells, Pt.slots] at X14 l14 y14 z14 st14 hQ14
    subst l14 y14 z14
    obtain ⟨rfl, Nq14, e14⟩ := hQ14
    have N14 := Fr.app N0 Nq14
    refine own_trW st14 ?_
    show OwnGoW p e below s _ _ _ T14 (mkF m 58 #[.val (.int p1), .val (.int (2 : Int32)), .val (.ref ow), .val (.int (0 : Int32)), .unset] [(.int (own_ev ow oi oo))])
    refine own_stW (T' := T14) (g' := (mkF m 69 #[.val (.int p1), .val (.int (2 : Int32)), .val (.ref ow), .val (.int (0 : Int32)), .val (.int (own_ev ow oi oo))] [(.ref ow), (.int (own_ev ow oi oo))])) (fun uT uK => ?_) ?_
    · show Steps p.tables e below (T14.setTop (mkF m 58 #[.val (.int p1), .val (.int (2 : Int32)), .val (.ref ow), .val (.int (0 : Int32)), .unset] [(.int (own_ev ow oi oo))])) _
      refine XS.istore X14.here hx rfl (hb hby at_58) rfl (l' := #[.val (.int p1), .val (.int (2 : Int32)), .val (.ref ow), .val (.int (0 : Int32)), .val (.int (own_ev ow oi oo))]) rfl ?_
      show Steps p.tables e below (T14.setTop (mkF m 60 #[.val (.int p1), .val (.int (2 : Int32)), .val (.ref ow), .val (.int (0 : Int32)), .val (.int (own_ev ow oi oo))] [])) _
      refine XS.iload X14.here hx rfl (hb hby at_60) rfl ?_
      show Steps p.tables e below (T14.setTop (mkF m 62 #[.val (.int p1), .val (.int (2 : Int32)), .val (.ref ow), .val (.int (0 : Int32)), .val (.int (own_ev ow oi oo))] [(.int (own_ev ow oi oo))])) _
      refine XS.iloadN X14.here hx rfl (hb hby at_62) rfl ?_
      show Steps p.tables e below (T14.setTop (mkF m 63 #[.val (.int p1), .val (.int (2 : Int32)), .val (.ref ow), .val (.int (0 : Int32)), .val (.int (own_ev ow oi oo))] [(.int (0 : Int32)), (.int (own_ev ow oi oo))])) _
      refine XS.icmpNo X14.here hx rfl (hb hby at_63) rfl (XT.ii_ne_f (own_ev_no hwi hwo)) ?_
      show Steps p.tables e below (T14.setTop (mkF m 66 #[.val (.int p1), .val (.int (2 : Int32)), .val (.ref ow), .val (.int (0 : Int32)), .val (.int (own_ev ow oi oo))] [])) _
      refine XS.iload X14.here hx rfl (hb hby at_66) rfl ?_
      show Steps p.tables e below (T14.setTop (mkF m 68 #[.val (.int p1), .val (.int (2 : Int32)), .val (.ref ow), .val (.int (0 : Int32)), .val (.int (own_ev ow oi oo))] [(.int (own_ev ow oi oo))])) _
      refine XS.aloadN X14.here hx rfl (hb hby at_68) rfl rfl ?_
      exact uK
    obtain ⟨cq15, kq15, qa15, qb15, qc15⟩ := isOf hZ e14 (E_ow)
    obtain ⟨_, _, ⟨T15, L15, k15, n15⟩, -, X15, ⟨Lc15, hQ15, l15, y15, z15⟩, st15⟩ := X14.virtualBack hx (y := (⟨"com/example/chartwright/chartwright/chart/ChartSyntax$Member$Kind", "noun", "()Ljava/lang/String;"⟩ : MethodName)) (z := (⟨"com/example/chartwright/chartwright/chart/ChartSyntax$Member$Kind", "noun", "()Ljava/lang/String;"⟩ : MethodName)) hown (mvT hZ (hw _ (List.mem_of_getElem? (i := 9) rfl))) (mvT hZ (hw _ (List.mem_of_getElem? (i := 10) rfl))) (notFace_of_selects (args := #[]) (mvT hZ (hw _ (List.mem_of_getElem? (i := 12) rfl)))) (mvT hZ (hw _ (List.mem_of_getElem? (i := 12) rfl))) (mvT hZ (hw _ (List.mem_of_getElem? (i := 11) rfl))) (by decide) (backOf (W := 1) (rm2 l Z a0 hw [] ow nw h0 n0 Z0 F_ow) hZ (hw _ (List.mem_of_getElem? (i := 13) rfl)) (hw _ (List.mem_of_getElem? (i := 1) rfl)) (by decide) (by decide)) qa15 qc15 (g := (mkF m 69 #[.val (.int p1), .val (.int (2 : Int32)), .val (.ref ow), .val (.int (0 : Int32)), .val (.int (own_ev ow oi oo))] [(.ref ow), (.int (own_ev ow oi oo))])) rfl (by rw [hml]; rfl) (Steps.refl _) (argsL := []) (rest := [(.int (own_ev ow oi oo))]) (lenOf own_pd2 rfl) rfl (by show 2 * 0 + _ ≤ _; exact Nat.le_of_eq rfl) (hb hby at_69) (fun _ _ => ⟨rfl, e14, (by decide : 0 + 0 ≤ _), (by decide : 0 + 0 ≤ _)⟩)
    dsimp only [Pt.U, Pt.locs, Pt.cells, Pt.slots] at X15 l15 y15 z15 st15 hQ15
    subst l15 y15 z15
    obtain ⟨rfl, Nq15, e15⟩ := hQ15
    have N15 := Fr.app N14 Nq15
    refine own_trW st15 ?_
    show OwnGoW p e below s _ _ _ T15 (mkF m 72 #[.val (.int p1), .val (.int (2 : Int32)), .val (.ref ow), .val (.int (0 : Int32)), .val (.int (own_ev ow oi oo))] [(.ref nw), (.int (own_ev ow oi oo))])
    obtain ⟨la, T16, h16, k1, lb, lk, X16, e16, E16, hS, Zk16, hZ, hown, E_la, C_la, W_la, V_la, -, -, -, st16⟩ := ldcSV (s := s) (vm0 := s.vm) X15 hx hZ hown (hw _ (List.mem_of_getElem? (i := 16) rfl)) (own_wS hw) e15 ((State.WarmedH.refl s).since 0) (Nat.zero_le _) (by rw [← hsz]; exact N15) hkeep hI (by simp) hheld hcw (vs := [.int (101 : Int32), .int (118 : Int32), .int (101 : Int32), .int (110 : Int32), .int (116 : Int32)]) (z := 5) (by first | decide | decide +kernel) (by decide) (by first | rfl | decide) (g := (mkF m 72 #[.val (.int p1), .val (.int (2 : Int32)), .val (.ref ow), .val (.int (0 : Int32)), .val (.int (own_ev ow oi oo))] [(.ref nw), (.int (own_ev ow oi oo))])) rfl (hb hby at_72) (n := 20) (by first | decide | decide +kernel) (by decide) (by decide) (by decide)
    have Sx16_java_lang_String_COMPACT_STRINGS := (S_cs).ext E16
    have Sx16_com_example_chartwright_chartwright_chart_ChartSyntax_Member_Kind_IN_EVENT := (S_oi).ext E16
    have Ex16_oi := (E_oi).ext E16
    have Fx16_oi_noun := (F_oi).ext E16
    have Sx16_com_example_chartwright_chartwright_chart_ChartSyntax_Member_Kind_OUT_EVENT := (S_oo).ext E16
    have Ex16_oo := (E_oo).ext E16
    have Fx16_oo_noun := (F_oo).ext E16
    have Sx16_com_example_chartwright_chartwright_chart_ChartSyntax_Member_Kind_VARIABLE := (S_ow).ext E16
    have Ex16_ow := (E_ow).ext E16
    have Fx16_ow_noun := (F_ow).ext E16
    have Sx16_com_example_chartwright_chartwright_chart_ChartSyntax_Member_Kind_CONSTANT := (S_oc).ext E16
    have Ex16_oc := (E_oc).ext E16
    have Fx16_oc_noun := (F_oc).ext E16
    have Ex16_ni := (E_ni).ext E16
    have Fx16_ni_coder := (C_ni).ext E16
    have Fx16_ni_value := (W_ni).ext E16
    have Vx16_bi := (V_ni).ext E16
    have Ex16_nw := (E_nw).ext E16
    have Fx16_nw_coder := (C_nw).ext E16
    have Fx16_nw_value := (W_nw).ext E16
    have Vx16_bw := (V_nw).ext E16
    have Ex16_nc := (E_nc).ext E16
    have Fx16_nc_coder := (C_nc).ext E16
    have Fx16_nc_value := (W_nc).ext E16
    have Vx16_bc := (V_nc).ext E16
    have Z16 : n0 ≤ h16.size := Nat.le_trans Z0 E16.1
    refine own_stW st16 ?_
    show OwnGoW p e below s _ _ _ T16 (mkF m 74 #[.val (.int p1), .val (.int (2 : Int32)), .val (.ref ow), .val (.int (0 : Int32)), .val (.int (own_ev ow oi oo))] [(.ref la), (.ref nw), (.int (own_ev ow oi oo))])
    have hne : ¬ nw = la := (Fx16_nw_value).ne W_la (fun q => own_arv_ne Vx16_bw V_la (by decide) (Value.ref.inj q))
    obtain ⟨cq17, kq17, qa17, qb17, qc17⟩ := isOf hZ e16 (Ex16_nw)
    obtain ⟨_, _, ⟨T17, L17, k17, n17⟩, -, X17, ⟨Lc17, hQ17, l17, y17, z17⟩, st17⟩ := X16.virtualBack hx (y := (⟨"java/lang/String", "equals", "(Ljava/lang/Object;)Z"⟩ : MethodName)) (z := (⟨"java/lang/String", "equals", "(Ljava/lang/Object;)Z"⟩ : MethodName)) hown (mvT hZ (hw _ (List.mem_of_getElem? (i := 24) rfl))) (mvT hZ (hw _ (List.mem_of_getElem? (i := 25) rfl))) (notFace_of_selects (args := #[]) (mvT hZ (hw _ (List.mem_of_getElem? (i := 27) rfl)))) (mvT hZ (hw _ (List.mem_of_getElem? (i := 27) rfl))) (mvT hZ (hw _ (List.mem_of_getElem? (i := 26) rfl))) (by decide) (backOf (W := 1) (rm3a l Z a0 hw [] nw la cs bw lb kw lk 8 5 _ _ h16 n0 Z16 E_la Fx16_nw_coder C_la Fx16_nw_value W_la Sx16_java_lang_String_COMPACT_STRINGS hcs hne Vx16_bw V_la (by decide)) hZ (hw _ (List.mem_of_getElem? (i := 28) rfl)) (hw _ (List.mem_of_getElem? (i := 17) rfl)) (by decide) (by decide)) qa17 qc17 (g := (mkF m 74 #[.val (.int p1), .val (.int (2 : Int32)), .val (.ref ow), .val (.int (0 : Int32)), .val (.int (own_ev ow oi oo))] [(.ref la), (.ref nw), (.int (own_ev ow oi oo))])) rfl (by rw [hml]; rfl) (Steps.refl _) (argsL := [(.ref la)]) (rest := [(.int (own_ev ow oi oo))]) (lenOf own_pd3 rfl) rfl (by show 2 * 0 + _ ≤ _; exact Nat.le_of_eq rfl) (hb hby at_74) (fun _ _ => ⟨rfl, e16, (by decide : 2 + 0 ≤ _), (by decide : 24 + 0 ≤ _)⟩)
    dsimp only [Pt.U, Pt.locs, Pt.cells, Pt.slots] at X17 l17 y17 z17 st17 hQ17
    subst l17 y17 z17
    obtain ⟨rfl, Nq17, e17⟩ := hQ17
    have N17 := Fr.app N15 Nq17
    refine own_trW st17 ?_
    show OwnGoW p e below s _ _ _ T17 (mkF m 77 #[.val (.int p1), .val (.int (2 : Int32)), .val (.ref ow), .val (.int (0 : Int32)), .val (.int (own_ev ow oi oo))] [(.int (0 : Int32)), (.int (own_ev ow oi oo))])
    refine own_stW (T' := T17) (g' := (mkF m 85 #[.val (.int p1), .val (.int (2 : Int32)), .val (.ref ow), .val (.int (0 : Int32)), .val (.int (own_ev ow oi oo))] [(.int (1 : Int32))])) (fun uT uK => ?_) ?_
    · show Steps p.tables e below (T17.setTop (mkF m 77 #[.val (.int p1), .val (.int (2 : Int32)), .val (.ref ow), .val (.int (0 : Int32)), .val (.int (own_ev ow oi oo))] [(.int (0 : Int32)), (.int (own_ev ow oi oo))])) _
      refine XS.icmpNo X17.here hx rfl (hb hby at_77) rfl (XT.ii_ne_f (own_ev_no hwi hwo)) ?_
      show Steps p.tables e below (T17.setTop (mkF m 80 #[.val (.int p1), .val (.int (2 : Int32)), .val (.ref ow), .val (.int (0 : Int32)), .val (.int (own_ev ow oi oo))] [])) _
      refine XS.iconst X17.here hx rfl (hb hby at_80) ?_
      show Steps p.tables e below (T17.setTop (mkF m 81 #[.val (.int p1), .val (.int (2 : Int32)), .val (.ref ow), .val (.int (0 : Int32)), .val (.int (own_ev ow oi oo))] [(.int (1 : Int32))])) _
      refine XS.goto X17.here hx rfl (pc0 := 81) (pc' := 85) rfl (hb hby at_81) (by decide) (by decide) ?_
      exact uK
    exact own_retW (v := some (.int (1 : Int32))) X17 hS (by rw [e17]; exact Zk16) hlk (fun h => by rw [hret] at h; cases h) (fun fs hr => retOut X17 hx hret rfl (Or.inl ⟨rfl, by simp, _, rfl⟩) (hb hby at_85) hr) ⟨rfl, N17⟩ (by decide) (by decide)
  · show OwnGoW p e below s _ _ _ s₁ (mkF m 4 #[.val (.int p1), .val (.int (3 : Int32)), .unset, .unset, .unset] [])
    refine own_stW (T' := s₁) (g' := (mkF m 39 #[.val (.int p1), .val (.int (3 : Int32)), .unset, .unset, .unset] [])) (fun uT uK => ?_) ?_
    · show Steps p.tables e below (s₁.setTop (mkF m 4 #[.val (.int p1), .val (.int (3 : Int32)), .unset, .unset, .unset] [])) _
      refine XS.iloadN X0.here hx rfl (hb hby at_4) rfl ?_
      show Steps p.tables e below (s₁.setTop (mkF m 5 #[.val (.int p1), .val (.int (3 : Int32)), .unset, .unset, .unset] [(.int (3 : Int32))])) _
      refine XS.ifYes X0.here hx rfl (pc0 := 5) (pc' := 15) rfl (hb hby at_5) rfl (XT.i0_ne_t (by decide)) (by decide) (by decide) ?_
      show Steps p.tables e below (s₁.setTop (mkF m 15 #[.val (.int p1), .val (.int (3 : Int32)), .unset, .unset, .unset] [])) _
      refine XS.iloadN X0.here hx rfl (hb hby at_15) rfl ?_
      show Steps p.tables e below (s₁.setTop (mkF m 16 #[.val (.int p1), .val (.int (3 : Int32)), .unset, .unset, .unset] [(.int (3 : Int32))])) _
      refine XS.iconst X0.here hx rfl (hb hby at_16) ?_
      show Steps p.tables e below (s₁.setTop (mkF m 17 #[.val (.int p1), .val (.int (3 : Int32)), .unset, .unset, .unset] [(.int (1 : Int32)), (.int (3 : Int32))])) _
      refine XS.icmpYes X0.here hx rfl (pc0 := 17) (pc' := 27) rfl (hb hby at_17) rfl (XT.ii_ne_t (by decide)) (by decide) (by decide) ?_
      show Steps p.tables e below (s₁.setTop (mkF m 27 #[.val (.int p1), .val (.int (3 : Int32)), .unset, .unset, .unset] [])) _
      refine XS.iloadN X0.here hx rfl (hb hby at_27) rfl ?_
      show Steps p.tables e below (s₁.setTop (mkF m 28 #[.val (.int p1), .val (.int (3 : Int32)), .unset, .unset, .unset] [(.int (3 : Int32))])) _
      refine XS.iconst X0.here hx rfl (hb hby at_28) ?_
      show Steps p.tables e below (s₁.setTop (mkF m 29 #[.val (.int p1), .val (.int (3 : Int32)), .unset, .unset, .unset] [(.int (2 : Int32)), (.int (3 : Int32))])) _
      refine XS.icmpYes X0.here hx rfl (pc0 := 29) (pc' := 39) rfl (hb hby at_29) rfl (XT.ii_ne_t (by decide)) (by decide) (by decide) ?_
      exact uK
    obtain ⟨T18, X18, e18, st18⟩ := getS2 X0 hx hZ hown (host := "") (Or.inl (hw _ (List.mem_of_getElem? (i := 38) rfl))) Via.refl e0 S_oc (g := (mkF m 39 #[.val (.int p1), .val (.int (3 : Int32)), .unset, .unset, .unset] [])) rfl (hb hby at_39)
    refine own_stW st18 ?_
    show OwnGoW p e below s _ _ _ T18 (mkF m 42 #[.val (.int p1), .val (.int (3 : Int32)), .unset, .unset, .unset] [(.ref oc)])
    refine own_stW (T' := T18) (g' := (mkF m 55 #[.val (.int p1), .val (.int (3 : Int32)), .val (.ref oc), .val (.int (0 : Int32)), .unset] [(.ref oc)])) (fun uT uK => ?_) ?_
    · show Steps p.tables e below (T18.setTop (mkF m 42 #[.val (.int p1), .val (.int (3 : Int32)), .unset, .unset, .unset] [(.ref oc)])) _
      refine XS.astoreN X18.here hx rfl (hb hby at_42) rfl rfl (l' := #[.val (.int p1), .val (.int (3 : Int32)), .val (.ref oc), .unset, .unset]) rfl ?_
      show Steps p.tables e below (T18.setTop (mkF m 43 #[.val (.int p1), .val (.int (3 : Int32)), .val (.ref oc), .unset, .unset] [])) _
      refine XS.iloadN X18.here hx rfl (hb hby at_43) rfl ?_
      show Steps p.tables e below (T18.setTop (mkF m 44 #[.val (.int p1), .val (.int (3 : Int32)), .val (.ref oc), .unset, .unset] [(.int (3 : Int32))])) _
      refine XS.iconst X18.here hx rfl (hb hby at_44) ?_
      show Steps p.tables e below (T18.setTop (mkF m 45 #[.val (.int p1), .val (.int (3 : Int32)), .val (.ref oc), .unset, .unset] [(.int (2 : Int32)), (.int (3 : Int32))])) _
      refine XS.icmpYes X18.here hx rfl (pc0 := 45) (pc' := 52) rfl (hb hby at_45) rfl (XT.ii_ge_t (by decide)) (by decide) (by decide) ?_
      show Steps p.tables e below (T18.setTop (mkF m 52 #[.val (.int p1), .val (.int (3 : Int32)), .val (.ref oc), .unset, .unset] [])) _
      refine XS.iconst X18.here hx rfl (hb hby at_52) ?_
      show Steps p.tables e below (T18.setTop (mkF m 53 #[.val (.int p1), .val (.int (3 : Int32)), .val (.ref oc), .unset, .unset] [(.int (0 : Int32))])) _
      refine XS.istoreN X18.here hx rfl (hb hby at_53) rfl (l' := #[.val (.int p1), .val (.int (3 : Int32)), .val (.ref oc), .val (.int (0 : Int32)), .unset]) rfl ?_
      show Steps p.tables e below (T18.setTop (mkF m 54 #[.val (.int p1), .val (.int (3 : Int32)), .val (.ref oc), .val (.int (0 : Int32)), .unset] [])) _
      refine XS.aloadN X18.here hx rfl (hb hby at_54) rfl rfl ?_
      exact uK
    obtain ⟨cq19, kq19, qa19, qb19, qc19⟩ := isOf hZ e18 (E_oc)
    obtain ⟨_, _, ⟨T19, L19, k19, n19⟩, -, X19, ⟨Lc19, hQ19, l19, y19, z19⟩, st19⟩ := X18.virtualBack hx (y := (⟨"com/example/chartwright/chartwright/chart/ChartSyntax$Member$Kind", "event", "()Z"⟩ : MethodName)) (z := (⟨"com/example/chartwright/chartwright/chart/ChartSyntax$Member$Kind", "event", "()Z"⟩ : MethodName)) hown (mvT hZ (hw _ (List.mem_of_getElem? (i := 3) rfl))) (mvT hZ (hw _ (List.mem_of_getElem? (i := 4) rfl))) (notFace_of_selects (args := #[]) (mvT hZ (hw _ (List.mem_of_getElem? (i := 6) rfl)))) (mvT hZ (hw _ (List.mem_of_getElem? (i := 6) rfl))) (mvT hZ (hw _ (List.mem_of_getElem? (i := 5) rfl))) (by decide) (backOf (W := 0) (rm1 l Z a0 hw [] oc oi oo h0 n0 Z0 S_oi S_oo) hZ (hw _ (List.mem_of_getElem? (i := 7) rfl)) (hw _ (List.mem_of_getElem? (i := 1) rfl)) (by decide) (by decide)) qa19 qc19 (g := (mkF m 55 #[.val (.int p1), .val (.int (3 : Int32)), .val (.ref oc), .val (.int (0 : Int32)), .unset] [(.ref oc)])) rfl (by rw [hml]; rfl) (Steps.refl _) (argsL := []) (rest := []) (lenOf own_pd1 rfl) rfl (by show 2 * 0 + _ ≤ _; exact Nat.le_of_eq rfl) (hb hby at_55) (fun _ _ => ⟨rfl, e18, (by decide : 0 + 0 ≤ _), (by decide : 0 + 0 ≤ _)⟩)
    dsimp only [Pt.U, Pt.locs, Pt.cells, Pt.slots] at X19 l19 y19 z19 st19 hQ19
    subst l19 y19 z19
    obtain ⟨rfl, Nq19, e19⟩ := hQ19
    have N19 := Fr.app N0 Nq19
    refine own_trW st19 ?_
    show OwnGoW p e below s _ _ _ T19 (mkF m 58 #[.val (.int p1), .val (.int (3 : Int32)), .val (.ref oc), .val (.int (0 : Int32)), .unset] [(.int (own_ev oc oi oo))])
    refine own_stW (T' := T19) (g' := (mkF m 69 #[.val (.int p1), .val (.int (3 : Int32)), .val (.ref oc), .val (.int (0 : Int32)), .val (.int (own_ev oc oi oo))] [(.ref oc), (.int (own_ev oc oi oo))])) (fun uT uK => ?_) ?_
    · show Steps p.tables e below (T19.setTop (mkF m 58 #[.val (.int p1), .val (.int (3 : Int32)), .val (.ref oc), .val (.int (0 : Int32)), .unset] [(.int (own_ev oc oi oo))])) _
      refine XS.istore X19.here hx rfl (hb hby at_58) rfl (l' := #[.val (.int p1), .val (.int (3 : Int32)), .val (.ref oc), .val (.int (0 : Int32)), .val (.int (own_ev oc oi oo))]) rfl ?_
      show Steps p.tables e below (T19.setTop (mkF m 60 #[.val (.int p1), .val (.int (3 : Int32)), .val (.ref oc), .val (.int (0 : Int32)), .val (.int (own_ev oc oi oo))] [])) _
      refine XS.iload X19.here hx rfl (hb hby at_60) rfl ?_
      show Steps p.tables e below (T19.setTop (mkF m 62 #[.val (.int p1), .val (.int (3 : Int32)), .val (.ref oc), .val (.int (0 : Int32)), .val (.int (own_ev oc oi oo))] [(.int (own_ev oc oi oo))])) _
      refine XS.iloadN X19.here hx rfl (hb hby at_62) rfl ?_
      show Steps p.tables e below (T19.setTop (mkF m 63 #[.val (.int p1), .val (.int (3 : Int32)), .val (.ref oc), .val (.int (0 : Int32)), .val (.int (own_ev oc oi oo))] [(.int (0 : Int32)), (.int (own_ev oc oi oo))])) _
      refine XS.icmpNo X19.here hx rfl (hb hby at_63) rfl (XT.ii_ne_f (own_ev_no hci hco)) ?_
      show Steps p.tables e below (T19.setTop (mkF m 66 #[.val (.int p1), .val (.int (3 : Int32)), .val (.ref oc), .val (.int (0 : Int32)), .val (.int (own_ev oc oi oo))] [])) _
      refine XS.iload X19.here hx rfl (hb hby at_66) rfl ?_
      show Steps p.tables e below (T19.setTop (mkF m 68 #[.val (.int p1), .val (.int (3 : Int32)), .val (.ref oc), .val (.int (0 : Int32)), .val (.int (own_ev oc oi oo))] [(.int (own_ev oc oi oo))])) _
      refine XS.aloadN X19.here hx rfl (hb hby at_68) rfl rfl ?_
      exact uK
    obtain ⟨cq20, kq20, qa20, qb20, qc20⟩ := isOf hZ e19 (E_oc)
    obtain ⟨_, _, ⟨T20, L20, k20, n20⟩, -, X20, ⟨Lc20, hQ20, l20, y20, z20⟩, st20⟩ := X19.virtualBack hx (y := (⟨"com/example/chartwright/chartwright/chart/ChartSyntax$Member$Kind", "noun", "()Ljava/lang/String;"⟩ : MethodName)) (z := (⟨"com/example/chartwright/chartwright/chart/ChartSyntax$Member$Kind", "noun", "()Ljava/lang/String;"⟩ : MethodName)) hown (mvT hZ (hw _ (List.mem_of_getElem? (i := 9) rfl))) (mvT hZ (hw _ (List.mem_of_getElem? (i := 10) rfl))) (notFace_of_selects (args := #[]) (mvT hZ (hw _ (List.mem_of_getElem? (i := 12) rfl)))) (mvT hZ (hw _ (List.mem_of_getElem? (i := 12) rfl))) (mvT hZ (hw _ (List.mem_of_getElem? (i := 11) rfl))) (by decide) (backOf (W := 1) (rm2 l Z a0 hw [] oc nc h0 n0 Z0 F_oc) hZ (hw _ (List.mem_of_getElem? (i := 13) rfl)) (hw _ (List.mem_of_getElem? (i := 1) rfl)) (by decide) (by decide)) qa20 qc20 (g := (mkF m 69 #[.val (.int p1), .val (.int (3 : Int32)), .val (.ref oc), .val (.int (0 : Int32)), .val (.int (own_ev oc oi oo))] [(.ref oc), (.int (own_ev oc oi oo))])) rfl (by rw [hml]; rfl) (Steps.refl _) (argsL := []) (rest := [(.int (own_ev oc oi oo))]) (lenOf own_pd2 rfl) rfl (by show 2 * 0 + _ ≤ _; exact Nat.le_of_eq rfl) (hb hby at_69) (fun _ _ => ⟨rfl, e19, (by decide : 0 + 0 ≤ _), (by decide : 0 + 0 ≤ _)⟩)
    dsimp only [Pt.U, Pt.locs, Pt.cells, Pt.slots] at X20 l20 y20 z20 st20 hQ20
    subst l20 y20 z20
    obtain ⟨rfl, Nq20, e20⟩ := hQ20
    have N20 := Fr.app N19 Nq20
    refine own_trW st20 ?_
    show OwnGoW p e below s _ _ _ T20 (mkF m 72 #[.val (.int p1), .val (.int (3 : Int32)), .val (.ref oc), .val (.int (0 : Int32)), .val (.int (own_ev oc oi oo))] [(.ref nc), (.int (own_ev oc oi oo))])
    obtain ⟨la, T21, h21, k1, lb, lk, X21, e21, E21, hS, Zk21, hZ, hown, E_la, C_la, W_la, V_la, -, -, -, st21⟩ := ldcSV (s := s) (vm0 := s.vm) X20 hx hZ hown (hw _ (List.mem_of_getElem? (i := 16) rfl)) (own_wS hw) e20 ((State.WarmedH.refl s).since 0) (Nat.zero_le _) (by rw [← hsz]; exact N20) hkeep hI (by simp) hheld hcw (vs := [.int (101 : Int32), .int (118 : Int32), .int (101 : Int32), .int (110 : Int32), .int (116 : Int32)]) (z := 5) (by first | decide | decide +kernel) (by decide) (by first | rfl | decide) (g := (mkF m 72 #[.val (.int p1), .val (.int (3 : Int32)), .val (.ref oc), .val (.int (0 : Int32)), .val (.int (own_ev oc oi oo))] [(.ref nc), (.int (own_ev oc oi oo))])) rfl (hb hby at_72) (n := 20) (by first | decide | decide +kernel) (by decide) (by decide) (by decide)
    have Sx21_java_lang_String_COMPACT_STRINGS := (S_cs).ext E21
    have Sx21_com_example_chartwright_chartwright_chart_ChartSyntax_Member_Kind_IN_EVENT := (S_oi).ext E21
    have Ex21_oi := (E_oi).ext E21
    have Fx21_oi_noun := (F_oi).ext E21
    have Sx21_com_example_chartwright_chartwright_chart_ChartSyntax_Member_Kind_OUT_EVENT := (S_oo).ext E21
    have Ex21_oo := (E_oo).ext E21
    have Fx21_oo_noun := (F_oo).ext E21
    have Sx21_com_example_chartwright_chartwright_chart_ChartSyntax_Member_Kind_VARIABLE := (S_ow).ext E21
    have Ex21_ow := (E_ow).ext E21
    have Fx21_ow_noun := (F_ow).ext E21
    have Sx21_com_example_chartwright_chartwright_chart_ChartSyntax_Member_Kind_CONSTANT := (S_oc).ext E21
    have Ex21_oc := (E_oc).ext E21
    have Fx21_oc_noun := (F_oc).ext E21
    have Ex21_ni := (E_ni).ext E21
    have Fx21_ni_coder := (C_ni).ext E21
    have Fx21_ni_value := (W_ni).ext E21
    have Vx21_bi := (V_ni).ext E21
    have Ex21_nw := (E_nw).ext E21
    have Fx21_nw_coder := (C_nw).ext E21
    have Fx21_nw_value := (W_nw).ext E21
    have Vx21_bw := (V_nw).ext E21
    have Ex21_nc := (E_nc).ext E21
    have Fx21_nc_coder := (C_nc).ext E21
    have Fx21_nc_value := (W_nc).ext E21
    have Vx21_bc := (V_nc).ext E21
    have Z21 : n0 ≤ h21.size := Nat.le_trans Z0 E21.1
    refine own_stW st21 ?_
    show OwnGoW p e below s _ _ _ T21 (mkF m 74 #[.val (.int p1), .val (.int (3 : Int32)), .val (.ref oc), .val (.int (0 : Int32)), .val (.int (own_ev oc oi oo))] [(.ref la), (.ref nc), (.int (own_ev oc oi oo))])
    have hne : ¬ nc = la := (Fx21_nc_value).ne W_la (fun q => own_arv_ne Vx21_bc V_la (by decide) (Value.ref.inj q))
    obtain ⟨cq22, kq22, qa22, qb22, qc22⟩ := isOf hZ e21 (Ex21_nc)
    obtain ⟨_, _, ⟨T22, L22, k22, n22⟩, -, X22, ⟨Lc22, hQ22, l22, y22, z22⟩, st22⟩ := X21.virtualBack hx (y := (⟨"java/lang/String", "equals", "(Ljava/lang/Object;)Z"⟩ : MethodName)) (z := (⟨"java/lang/String", "equals", "(Ljava/lang/Object;)Z"⟩ : MethodName)) hown (mvT hZ (hw _ (List.mem_of_getElem? (i := 24) rfl))) (mvT hZ (hw _ (List.mem_of_getElem? (i := 25) rfl))) (notFace_of_selects (args := #[]) (mvT hZ (hw _ (List.mem_of_getElem? (i := 27) rfl)))) (mvT hZ (hw _ (List.mem_of_getElem? (i := 27) rfl))) (mvT hZ (hw _ (List.mem_of_getElem? (i := 26) rfl))) (by decide) (backOf (W := 1) (rm3a l Z a0 hw [] nc la cs bc lb kc lk 8 5 _ _ h21 n0 Z21 E_la Fx21_nc_coder C_la Fx21_nc_value W_la Sx21_java_lang_String_COMPACT_STRINGS hcs hne Vx21_bc V_la (by decide)) hZ (hw _ (List.mem_of_getElem? (i := 28) rfl)) (hw _ (List.mem_of_getElem? (i := 17) rfl)) (by decide) (by decide)) qa22 qc22 (g := (mkF m 74 #[.val (.int p1), .val (.int (3 : Int32)), .val (.ref oc), .val (.int (0 : Int32)), .val (.int (own_ev oc oi oo))] [(.ref la), (.ref nc), (.int (own_ev oc oi oo))])) rfl (by rw [hml]; rfl) (Steps.refl _) (argsL := [(.ref la)]) (rest := [(.int (own_ev oc oi oo))]) (lenOf own_pd3 rfl) rfl (by show 2 * 0 + _ ≤ _; exact Nat.le_of_eq rfl) (hb hby at_74) (fun _ _ => ⟨rfl, e21, (by decide : 2 + 0 ≤ _), (by decide : 24 + 0 ≤ _)⟩)
    dsimp only [Pt.U, Pt.locs, Pt.cells, Pt.slots] at X22 l22 y22 z22 st22 hQ22
    subst l22 y22 z22
    obtain ⟨rfl, Nq22, e22⟩ := hQ22
    have N22 := Fr.app N20 Nq22
    refine own_trW st22 ?_
    show OwnGoW p e below s _ _ _ T22 (mkF m 77 #[.val (.int p1), .val (.int (3 : Int32)), .val (.ref oc), .val (.int (0 : Int32)), .val (.int (own_ev oc oi oo))] [(.int (0 : Int32)), (.int (own_ev oc oi oo))])
    refine own_stW (T' := T22) (g' := (mkF m 85 #[.val (.int p1), .val (.int (3 : Int32)), .val (.ref oc), .val (.int (0 : Int32)), .val (.int (own_ev oc oi oo))] [(.int (1 : Int32))])) (fun uT uK => ?_) ?_
    · show Steps p.tables e below (T22.setTop (mkF m 77 #[.val (.int p1), .val (.int (3 : Int32)), .val (.ref oc), .val (.int (0 : Int32)), .val (.int (own_ev oc oi oo))] [(.int (0 : Int32)), (.int (own_ev oc oi oo))])) _
      refine XS.icmpNo X22.here hx rfl (hb hby at_77) rfl (XT.ii_ne_f (own_ev_no hci hco)) ?_
      show Steps p.tables e below (T22.setTop (mkF m 80 #[.val (.int p1), .val (.int (3 : Int32)), .val (.ref oc), .val (.int (0 : Int32)), .val (.int (own_ev oc oi oo))] [])) _
      refine XS.iconst X22.here hx rfl (hb hby at_80) ?_
      show Steps p.tables e below (T22.setTop (mkF m 81 #[.val (.int p1), .val (.int (3 : Int32)), .val (.ref oc), .val (.int (0 : Int32)), .val (.int (own_ev oc oi oo))] [(.int (1 : Int32))])) _
      refine XS.goto X22.here hx rfl (pc0 := 81) (pc' := 85) rfl (hb hby at_81) (by decide) (by decide) ?_
      exact uK
    exact own_retW (v := some (.int (1 : Int32))) X22 hS (by rw [e22]; exact Zk21) hlk (fun h => by rw [hret] at h; cases h) (fun fs hr => retOut X22 hx hret rfl (Or.inl ⟨rfl, by simp, _, rfl⟩) (hb hby at_85) hr) ⟨rfl, N22⟩ (by decide) (by decide)
set_option maxRecDepth 65536 in
set_option maxHeartbeats 40000000 in
theorem comes_1 {Post : Tables → Env → Array Value → State → Outcome → State → Prop} (hpost : ∀ tb e args s v u, (limb_1_1.after args s (.returned v) u = true ∧ limb_1_2.after args s (.returned v) u = true ∧ True) → Jvm.D.FramedW s (.returned v) u (Jvm.fieldLocs frame_1_writes args s ++ Jvm.arrayLocs frame_1_arrays args s ++ Jvm.staticLocs frame_1_statics s) 8 1088 → Post tb e args s (.returned v) u) :
    ArmFor flags0 classFile x code maxLocals ret World_1 tables_1 room_1 Calls_1 rest_1 Pre_1 Post := by
  intro l hfl _ _ p e ha hc_ hk s m args below hf hA hF happ hP
  obtain ⟨hcalls, hrest, hpre⟩ := hP
  obtain ⟨-, -, -, hnamed, -, -, -, hat⟩ := (Spec.applies_iff hf).mp happ
  obtain ⟨hg, hn⟩ := and_e (Cond.before_iff.mp (show (Jvm.Cond.and given_1 narrow_1).before args s = true from hpre))
  obtain ⟨hcount, ha0⟩ := and_e hg
  have hv0 := ha0
  obtain ⟨w0, rfl⟩ : ∃ w0 : Value, args = #[w0] := by
    have hs : args.size = 1 := by simpa [Cond.value, given_1] using hcount
    obtain ⟨L⟩ := args
    match L, hs with
    | [w0], _ => exact ⟨w0, rfl⟩
  have hw := fun d (hd : d ∈ tables_1) => atoms_spec (ws := Jvm.Cond.code x code maxLocals ret :: tables_1) hat d (List.mem_cons_of_mem _ hd)
  obtain ⟨i0, ei0⟩ := is_v hv0
  obtain rfl : w0 = (.int i0) := Option.some.inj ei0
  have hfit : Fit s := fun {y c} hc i hi => by
    obtain ⟨ha, rfl⟩ := Array.getElem?_eq_some_iff.mp hc
    have q := List.all_eq_true.mp ((Array.all_eq_true_iff_forall_mem.mp hF) _ (Array.getElem_mem ha)) i (List.mem_range.mpr hi)
    simpa [Array.getElem?_eq_getElem hi] using q
  obtain ⟨c0, hn0⟩ := and_e hn
  obtain ⟨c1, hn1⟩ := and_e hn0
  obtain ⟨c2, hn2⟩ := and_e hn1
  obtain ⟨c3, hn3⟩ := and_e hn2
  obtain ⟨c4, hn4⟩ := and_e hn3
  obtain ⟨c5, hn5⟩ := and_e hn4
  obtain ⟨c6, hn6⟩ := and_e hn5
  obtain ⟨c7, hn7⟩ := and_e hn6
  obtain ⟨c8, hn8⟩ := and_e hn7
  obtain ⟨c9, hn9⟩ := and_e hn8
  obtain ⟨c10, hn10⟩ := and_e hn9
  obtain ⟨c11, hn11⟩ := and_e hn10
  obtain ⟨c12, hn12⟩ := and_e hn11
  obtain ⟨c13, hn13⟩ := and_e hn12
  obtain ⟨c14, hn14⟩ := and_e hn13
  obtain ⟨c15, hn15⟩ := and_e hn14
  obtain ⟨c16, hn16⟩ := and_e hn15
  obtain ⟨c17, hn17⟩ := and_e hn16
  obtain ⟨c18, hn18⟩ := and_e hn17
  obtain ⟨c19, hn19⟩ := and_e hn18
  obtain ⟨c20, hn20⟩ := and_e hn19
  obtain ⟨c21, hn21⟩ := and_e hn20
  obtain ⟨c22, hn22⟩ := and_e hn21
  obtain ⟨c23, hn23⟩ := and_e hn22
  obtain ⟨c24, hn24⟩ := and_e hn23
  obtain ⟨c25, hn25⟩ := and_e hn24
  obtain ⟨c26, hn26⟩ := and_e hn25
  obtain ⟨c27, hn27⟩ := and_e hn26
  obtain ⟨c28, hn28⟩ := and_e hn27
  obtain ⟨c29, hn29⟩ := and_e hn28
  obtain ⟨c30, hn30⟩ := and_e hn29
  obtain ⟨c31, hn31⟩ := and_e hn30
  obtain ⟨c32, hn32⟩ := and_e hn31
  obtain ⟨c33, hn33⟩ := and_e hn32
  obtain ⟨c34, hn34⟩ := and_e hn33
  obtain ⟨c35, hn35⟩ := and_e hn34
  obtain ⟨c36, hn36⟩ := and_e hn35
  obtain ⟨c37, hn37⟩ := and_e hn36
  obtain ⟨c38, hn38⟩ := and_e hn37
  obtain ⟨c39, hn39⟩ := and_e hn38
  obtain ⟨c40, hn40⟩ := and_e hn39
  have c41 := hn40
  obtain ⟨oi, ev_oi⟩ := exa_v c0
  have E_oi := Exa.start ev_oi c0
  have S_oi : Sta s s.heap "com/example/chartwright/chartwright/chart/ChartSyntax$Member$Kind" "IN_EVENT" "Lcom/example/chartwright/chartwright/chart/ChartSyntax$Member$Kind;" (.ref oi) := Sta.start ev_oi (Or.inr ⟨(hw _ (List.mem_of_getElem? (i := 1) rfl)), (hw _ (List.mem_of_getElem? (i := 2) rfl))⟩)
  have O_oi := Fld.start ((fld_at ev_oi).symm.trans (own_eq_int c7))
  obtain ⟨oo, ev_oo⟩ := exa_v c8
  have E_oo := Exa.start ev_oo c8
  have S_oo : Sta s s.heap "com/example/chartwright/chartwright/chart/ChartSyntax$Member$Kind" "OUT_EVENT" "Lcom/example/chartwright/chartwright/chart/ChartSyntax$Member$Kind;" (.ref oo) := Sta.start ev_oo (Or.inr ⟨(hw _ (List.mem_of_getElem? (i := 1) rfl)), (hw _ (List.mem_of_getElem? (i := 41) rfl))⟩)
  have O_oo := Fld.start ((fld_at ev_oo).symm.trans (own_eq_int c9))
  obtain ⟨ow, ev_ow⟩ := exa_v c14
  have E_ow := Exa.start ev_ow c14
  have S_ow : Sta s s.heap "com/example/chartwright/chartwright/chart/ChartSyntax$Member$Kind" "VARIABLE" "Lcom/example/chartwright/chartwright/chart/ChartSyntax$Member$Kind;" (.ref ow) := Sta.start ev_ow (Or.inr ⟨(hw _ (List.mem_of_getElem? (i := 1) rfl)), (hw _ (List.mem_of_getElem? (i := 43) rfl))⟩)
  have O_ow := Fld.start ((fld_at ev_ow).symm.trans (own_eq_int c15))
  obtain ⟨oc, ev_oc⟩ := exa_v c5
  have E_oc := Exa.start ev_oc c5
  have S_oc : Sta s s.heap "com/example/chartwright/chartwright/chart/ChartSyntax$Member$Kind" "CONSTANT" "Lcom/example/chartwright/chartwright/chart/ChartSyntax$Member$Kind;" (.ref oc) := Sta.start ev_oc (Or.inr ⟨(hw _ (List.mem_of_getElem? (i := 1) rfl)), (hw _ (List.mem_of_getElem? (i := 39) rfl))⟩)
  have O_oc := Fld.start ((fld_at ev_oc).symm.trans (own_eq_int c6))
  obtain ⟨ni, ev_ni⟩ := exa_v c1
  have E_ni := Exa.start ev_ni c1
  have F_oi := Fld.start ((fld_at ev_oi).symm.trans ev_ni)
  have C_ni := Fld.start ((fld_at ev_ni).symm.trans (own_eq_int c2))
  obtain ⟨bi, ev_bi⟩ := arr_v c3
  have W_ni := Fld.start ((fld_at ev_ni).symm.trans ev_bi)
  obtain ⟨cl_bi, A_bi⟩ := Arr.start ev_bi c3
  have at_bi : s.arrayAt? bi = some cl_bi := Arr.fin (Vm.Alike.refl _) A_bi
  have ln_bi := own_eq_int c4
  have sm_bi := own_lenS ln_bi ev_bi at_bi
  have sz_bi : cl_bi.slots.size.toInt32 = 5 := Value.int.inj (Option.some.inj ((len_f ev_bi at_bi sm_bi).symm.trans ln_bi))
  have H_bi : HasL cl_bi 0 [.int (101 : Int32), .int (118 : Int32), .int (101 : Int32), .int (110 : Int32), .int (116 : Int32)] := ⟨(elem_in (own_eq_int c21) ev_bi (Term.int_eval (0)) A_bi.1).2, (elem_in (own_eq_int c22) ev_bi (Term.int_eval (1)) A_bi.1).2, (elem_in (own_eq_int c23) ev_bi (Term.int_eval (2)) A_bi.1).2, (elem_in (own_eq_int c24) ev_bi (Term.int_eval (3)) A_bi.1).2, (elem_in (own_eq_int c25) ev_bi (Term.int_eval (4)) A_bi.1).2, trivial⟩
  have V_ni : Arv s s.heap bi cl_bi.cls .byte 5 [.int (101 : Int32), .int (118 : Int32), .int (101 : Int32), .int (110 : Int32), .int (116 : Int32)] (.int 0) := Arv.start hfit A_bi sm_bi sz_bi (by decide) rfl H_bi
  obtain ⟨nw, ev_nw⟩ := exa_v c16
  have E_nw := Exa.start ev_nw c16
  have F_ow := Fld.start ((fld_at ev_ow).symm.trans ev_nw)
  have C_nw := Fld.start ((fld_at ev_nw).symm.trans (own_eq_int c17))
  obtain ⟨bw, ev_bw⟩ := arr_v c18
  have W_nw := Fld.start ((fld_at ev_nw).symm.trans ev_bw)
  obtain ⟨cl_bw, A_bw⟩ := Arr.start ev_bw c18
  have at_bw : s.arrayAt? bw = some cl_bw := Arr.fin (Vm.Alike.refl _) A_bw
  have ln_bw := own_eq_int c19
  have sm_bw := own_lenS ln_bw ev_bw at_bw
  have sz_bw : cl_bw.slots.size.toInt32 = 8 := Value.int.inj (Option.some.inj ((len_f ev_bw at_bw sm_bw).symm.trans ln_bw))
  have H_bw : HasL cl_bw 0 [.int (118 : Int32), .int (97 : Int32), .int (114 : Int32), .int (105 : Int32), .int (97 : Int32), .int (98 : Int32), .int (108 : Int32), .int (101 : Int32)] := ⟨(elem_in (own_eq_int c34) ev_bw (Term.int_eval (0)) A_bw.1).2, (elem_in (own_eq_int c35) ev_bw (Term.int_eval (1)) A_bw.1).2, (elem_in (own_eq_int c36) ev_bw (Term.int_eval (2)) A_bw.1).2, (elem_in (own_eq_int c37) ev_bw (Term.int_eval (3)) A_bw.1).2, (elem_in (own_eq_int c38) ev_bw (Term.int_eval (4)) A_bw.1).2, (elem_in (own_eq_int c39) ev_bw (Term.int_eval (5)) A_bw.1).2, (elem_in (own_eq_int c40) ev_bw (Term.int_eval (6)) A_bw.1).2, (elem_in (own_eq_int c41) ev_bw (Term.int_eval (7)) A_bw.1).2, trivial⟩
  have V_nw : Arv s s.heap bw cl_bw.cls .byte 8 [.int (118 : Int32), .int (97 : Int32), .int (114 : Int32), .int (105 : Int32), .int (97 : Int32), .int (98 : Int32), .int (108 : Int32), .int (101 : Int32)] (.int 0) := Arv.start hfit A_bw sm_bw sz_bw (by decide) rfl H_bw
  obtain ⟨nc, ev_nc⟩ := exa_v c10
  have E_nc := Exa.start ev_nc c10
  have F_oc := Fld.start ((fld_at ev_oc).symm.trans ev_nc)
  have C_nc := Fld.start ((fld_at ev_nc).symm.trans (own_eq_int c11))
  obtain ⟨bc, ev_bc⟩ := arr_v c12
  have W_nc := Fld.start ((fld_at ev_nc).symm.trans ev_bc)
  obtain ⟨cl_bc, A_bc⟩ := Arr.start ev_bc c12
  have at_bc : s.arrayAt? bc = some cl_bc := Arr.fin (Vm.Alike.refl _) A_bc
  have ln_bc := own_eq_int c13
  have sm_bc := own_lenS ln_bc ev_bc at_bc
  have sz_bc : cl_bc.slots.size.toInt32 = 8 := Value.int.inj (Option.some.inj ((len_f ev_bc at_bc sm_bc).symm.trans ln_bc))
  have H_bc : HasL cl_bc 0 [.int (99 : Int32), .int (111 : Int32), .int (110 : Int32), .int (115 : Int32), .int (116 : Int32), .int (97 : Int32), .int (110 : Int32), .int (116 : Int32)] := ⟨(elem_in (own_eq_int c26) ev_bc (Term.int_eval (0)) A_bc.1).2, (elem_in (own_eq_int c27) ev_bc (Term.int_eval (1)) A_bc.1).2, (elem_in (own_eq_int c28) ev_bc (Term.int_eval (2)) A_bc.1).2, (elem_in (own_eq_int c29) ev_bc (Term.int_eval (3)) A_bc.1).2, (elem_in (own_eq_int c30) ev_bc (Term.int_eval (4)) A_bc.1).2, (elem_in (own_eq_int c31) ev_bc (Term.int_eval (5)) A_bc.1).2, (elem_in (own_eq_int c32) ev_bc (Term.int_eval (6)) A_bc.1).2, (elem_in (own_eq_int c33) ev_bc (Term.int_eval (7)) A_bc.1).2, trivial⟩
  have V_nc : Arv s s.heap bc cl_bc.cls .byte 8 [.int (99 : Int32), .int (111 : Int32), .int (110 : Int32), .int (115 : Int32), .int (116 : Int32), .int (97 : Int32), .int (110 : Int32), .int (116 : Int32)] (.int 0) := Arv.start hfit A_bc sm_bc sz_bc (by decide) rfl H_bc
  have F_oo := Fld.start ((fld_at ev_oo).symm.trans (own_eq_ref c20 ev_ni))
  obtain ⟨hsets, hown0⟩ := atoms_of _ (rest_1_c_eq ▸ (show rest_1_c.before _ s = true from hrest))
  obtain ⟨cs, ecs⟩ := is_v (Cond.before_iff.mp (hsets _ (List.mem_of_getElem? (i := 1) rfl)))
  have S_cs : Sta s s.heap "java/lang/String" "COMPACT_STRINGS" "Z" (.int cs) := Sta.start ecs (Or.inl (hsets _ (List.mem_of_getElem? (i := 0) rfl)))
  have hcw := hsets _ (List.mem_of_getElem? (i := 2) rfl)
  have hcs : ¬ cs = 0 := by
    have q := not_v (Cond.before_iff.mp hcw)
    intro e0
    subst e0
    have q2 := eq_i ecs (Term.int_eval (0)) rfl
    rw [q2] at q; cases q
  have hheld : Jvm.Lit.constHeld s "com/example/chartwright/chartwright/chart/KindEventPinLaw" 30 := hcalls.1 ("com/example/chartwright/chartwright/chart/KindEventPinLaw", 30) (by simp [consts_1])
  have hwi : ow ≠ oi := O_ow.ne O_oi (by decide)
  have hwo : ow ≠ oo := O_ow.ne O_oo (by decide)
  have hci : oc ≠ oi := O_oc.ne O_oi (by decide)
  have hco : oc ≠ oo := O_oc.ne O_oo (by decide)
  obtain ⟨n, o, h1, h2, h3, _, L, rfl, ⟨rfl, N⟩, hq⟩ := rm0 l s _ hw tables_1 i0 oi oo ow oc ni nw nc bi bw bc _ _ _ cs s.heap s.heap.size (Nat.le_refl _) rfl rfl hheld hcw S_cs hcs S_oi E_oi F_oi S_oo E_oo F_oo S_ow E_ow F_ow S_oc E_oc F_oc hwi hwo hci hco E_ni C_ni W_ni V_ni E_nw C_nw W_nw V_nw E_nc C_nc W_nc V_nc p e ha hc_ hk s m _ below hf ((Spec.applies_iff_loose hf).mp happ).1 ⟨rfl, rfl⟩ trivial
  refine ⟨n, _, h1, h2, h3, hpost _ _ _ _ _ _ ⟨Cond.after_iff.mpr rfl, Cond.after_iff.mpr (eq_i res_at (Term.int_eval (1)) rfl), trivial⟩ ⟨hq.1, hq.2.1, hq.2.2.1, (hq.2.2.2.sift fun y hy => Or.inr (N y hy)).mono (by decide) (by decide)⟩⟩
theorem main_1_1 : Claimed_1_1 := comes_1 fun _ _ _ _ _ _ h hF => ⟨h.1, hF⟩
theorem main_1_2 : Claimed_1_2 := comes_1 fun _ _ _ _ _ _ h hF => ⟨h.2.1, hF⟩
end Jvm.Pilot.@@N@@
namespace Jvm.Pilot.@@N@@
open Jvm Jvm.ClassFile Sem Op Lib Jvm.Free Jvm.Stand Jvm.Pilot.@@N@@.Jvm.D
/-! MADE BY PROGRAM (witnessworld.py) out of the Statement's table words and the real class files: 16 classes; the members and pool entries that the words name. The judged class is class 1, her method 1. -/
namespace start1
open Jvm.ClassFile
def u (s : String) : CpInfo := .utf8 (stringToUtf16 s)
/-- a pool by its gaps: so many unusable entries, then the entry; so many at the end -/
def gap : Nat → List CpInfo → List CpInfo
  | 0, r => r
  | n + 1, r => .unusable :: gap n r
def poolList (es : List (Nat × CpInfo)) (last : Nat) : List CpInfo := es.foldr (fun e r => gap e.1 (e.2 :: r)) (gap last [])
def pool (es : List (Nat × CpInfo)) (last : Nat) : Array CpInfo := ⟨poolList es last⟩
def fileOf (pool : Array CpInfo) (this : Nat) (attrs : Array Attribute := #[]) (ms : Array MethodInfo := #[]) (fl : Nat := 33) (sup : Nat := 0) (ifs : Array Nat := #[]) (fds : Array FieldInfo := #[]) : ClassFile where
  minorVersion := 0
  majorVersion := 65
  constantPool := pool
  accessFlags := fl
  thisClass := this
  superClass := sup
  interfaces := ifs
  fields := fds
  methods := ms
  attributes := attrs
def plain (name : String) (sup : Option ClassId) : Class where
  name := name
  kind := .ordinary
  loader := none
  accessFlags := 33
  super := sup
  interfaces := #[]
  cf := none
  fields := #[]
  methods := #[]
  instanceTypes := #[]
  staticTypes := #[]
  resolved := #[]
  callSites := []
  init := .initialized
  statics := none
  mirror := none

def pool0 : Array CpInfo := pool [(5, u "<init>"), (0, u "()V"), (1, .class_ 10), (1, u "java/lang/Object")] 113

def k0m0 : Method := { name := "<init>", desc := "()V", sig := { parameters := [], returnType := none }, accessFlags := 1, code := none }
/-- java/lang/Object -/
def k0 : Class := { plain "java/lang/Object" none with
  accessFlags := 33
  interfaces := #[]
  cf := some (fileOf pool0 8 #[] #[{ accessFlags := 1, nameIndex := 5, descriptorIndex := 6, attributes := #[] }] 33 0 #[] #[])
  fields := #[]
  methods := #[k0m0]
  instanceTypes := #[]
  staticTypes := #[]
  resolved := Array.replicate 124 none
  statics := none }

def pool1 : Array CpInfo := pool [(2, .class_ 4), (1, u "java/lang/Object"), (0, u "<init>"), (0, u "()V"), (0, .fieldref 8 9), (0, .class_ 10), (0, .nameAndType 11 12), (0, u "com/example/chartwright/chartwright/chart/ChartSyntax$Member$Kind"), (0, u "IN_EVENT"), (0, u "Lcom/example/chartwright/chartwright/chart/ChartSyntax$Member$Kind;"), (0, .fieldref 8 14), (0, .nameAndType 15 12), (0, u "OUT_EVENT"), (0, .fieldref 8 17), (0, .nameAndType 18 12), (0, u "VARIABLE"), (0, .fieldref 8 20), (0, .nameAndType 21 12), (0, u "CONSTANT"), (0, .methodref 8 23), (0, .nameAndType 24 25), (0, u "event"), (0, u "()Z"), (0, .methodref 8 27), (0, .nameAndType 28 29), (0, u "noun"), (0, u "()Ljava/lang/String;"), (0, .string 24), (0, .methodref 32 33), (0, .class_ 34), (0, .nameAndType 35 36), (0, u "java/lang/String"), (0, u "equals"), (0, u "(Ljava/lang/Object;)Z"), (0, .class_ 38), (0, u "com/example/chartwright/chartwright/chart/KindEventPinLaw"), (2, u "law"), (0, u "(I)Z")] 10

def k1m0 : Method := { name := "<init>", desc := "()V", sig := { parameters := [], returnType := none }, accessFlags := 2, code := none }
def k1c1 : Code := { maxStack := 3, maxLocals := 5, code := code, exceptionTable := #[], attributes := #[] }
def k1m1 : Method := { name := "law", desc := "(I)Z", sig := { parameters := [.int], returnType := some .boolean }, accessFlags := 9, code := some k1c1 }
/-- com/example/chartwright/chartwright/chart/KindEventPinLaw -/
def k1 : Class := { plain "com/example/chartwright/chartwright/chart/KindEventPinLaw" (some 0) with
  accessFlags := 49
  interfaces := #[]
  cf := some (fileOf pool1 37 #[] #[{ accessFlags := 2, nameIndex := 5, descriptorIndex := 6, attributes := #[] }, { accessFlags := 9, nameIndex := 41, descriptorIndex := 42, attributes := #[] }] 49 2 #[] #[])
  fields := #[]
  methods := #[k1m0, k1m1]
  instanceTypes := #[]
  staticTypes := #[]
  resolved := Array.replicate 53 none
  statics := none }

def pool2 : Array CpInfo := pool [(1, .class_ 2), (0, u "java/lang/constant/Constable"), (0, .class_ 4), (0, u "java/lang/Object")] 6

/-- java/lang/constant/Constable -/
def k2 : Class := { plain "java/lang/constant/Constable" (some 0) with
  accessFlags := 1537
  interfaces := #[]
  cf := some (fileOf pool2 1 #[] #[] 1537 3 #[] #[])
  fields := #[]
  methods := #[]
  instanceTypes := #[]
  staticTypes := #[]
  resolved := Array.replicate 11 none
  statics := none }

def pool3 : Array CpInfo := pool [(1, .class_ 2), (0, u "java/lang/Comparable"), (0, .class_ 4), (0, u "java/lang/Object")] 7

/-- java/lang/Comparable -/
def k3 : Class := { plain "java/lang/Comparable" (some 0) with
  accessFlags := 1537
  interfaces := #[]
  cf := some (fileOf pool3 1 #[] #[] 1537 3 #[] #[])
  fields := #[]
  methods := #[]
  instanceTypes := #[]
  staticTypes := #[]
  resolved := Array.replicate 12 none
  statics := none }

def pool4 : Array CpInfo := pool [(1, .class_ 2), (0, u "java/io/Serializable"), (0, .class_ 4), (0, u "java/lang/Object")] 2

/-- java/io/Serializable -/
def k4 : Class := { plain "java/io/Serializable" (some 0) with
  accessFlags := 1537
  interfaces := #[]
  cf := some (fileOf pool4 1 #[] #[] 1537 3 #[] #[])
  fields := #[]
  methods := #[]
  instanceTypes := #[]
  staticTypes := #[]
  resolved := Array.replicate 7 none
  statics := none }

def pool5 : Array CpInfo := pool [(2, .class_ 4), (1, u "java/lang/Enum"), (0, u "name"), (0, u "Ljava/lang/String;"), (2, u "ordinal"), (0, u "I"), (1, .class_ 14), (1, u "java/lang/Object"), (4, u "hash"), (86, .class_ 108), (1, u "java/lang/Enum$EnumDesc"), (2, .class_ 112), (0, u "java/lang/constant/Constable"), (0, .class_ 114), (0, u "java/lang/Comparable"), (0, .class_ 116), (0, u "java/io/Serializable")] 87

/-- java/lang/Enum -/
def k5 : Class := { plain "java/lang/Enum" (some 0) with
  accessFlags := 1057
  interfaces := #[2, 3, 4]
  cf := some (fileOf pool5 2 #[.nestMembers #[106]] #[] 1057 12 #[111, 113, 115] #[{ accessFlags := 18, nameIndex := 5, descriptorIndex := 6, attributes := #[] }, { accessFlags := 18, nameIndex := 9, descriptorIndex := 10, attributes := #[] }, { accessFlags := 2, nameIndex := 19, descriptorIndex := 10, attributes := #[] }])
  fields := #[{ name := "name", type := (.object "java/lang/String"), accessFlags := 18, slot := 0, constantValue := 0 }, { name := "ordinal", type := .int, accessFlags := 18, slot := 1, constantValue := 0 }, { name := "hash", type := .int, accessFlags := 2, slot := 2, constantValue := 0 }]
  methods := #[]
  instanceTypes := #[(.object "java/lang/String"), .int, .int]
  staticTypes := #[]
  resolved := Array.replicate 204 none
  statics := none }

def pool6 : Array CpInfo := pool [(1, .class_ 2), (0, u "com/example/chartwright/chartwright/chart/ChartSyntax$Member$Kind"), (0, .fieldref 1 4), (0, .nameAndType 5 6), (0, u "IN_EVENT"), (0, u "Lcom/example/chartwright/chartwright/chart/ChartSyntax$Member$Kind;"), (0, .fieldref 1 8), (0, .nameAndType 9 6), (0, u "OUT_EVENT"), (2, u "VARIABLE"), (2, u "CONSTANT"), (2, u "$VALUES"), (0, u "[Lcom/example/chartwright/chartwright/chart/ChartSyntax$Member$Kind;"), (6, .class_ 28), (1, u "java/lang/Enum"), (6, .fieldref 1 36), (0, .nameAndType 37 38), (0, u "noun"), (0, u "Ljava/lang/String;"), (2, u "construct"), (0, u "Lcom/example/chartwright/chartwright/chart/Construct;"), (2, u "event"), (29, u "()Ljava/lang/String;"), (1, u "()Z"), (7, .class_ 86), (0, u "com/example/chartwright/chartwright/chart/ChartSyntax")] 5

def k6c0 : Code := { maxStack := 1, maxLocals := 1, code := prog_40_method_4_code, exceptionTable := #[], attributes := #[] }
def k6m0 : Method := { name := "noun", desc := "()Ljava/lang/String;", sig := { parameters := [], returnType := some (.object "java/lang/String") }, accessFlags := 0, code := some k6c0 }
def k6c1 : Code := { maxStack := 2, maxLocals := 1, code := prog_40_method_6_code, exceptionTable := #[], attributes := #[] }
def k6m1 : Method := { name := "event", desc := "()Z", sig := { parameters := [], returnType := some .boolean }, accessFlags := 0, code := some k6c1 }
/-- com/example/chartwright/chartwright/chart/ChartSyntax$Member$Kind -/
def k6 : Class := { plain "com/example/chartwright/chartwright/chart/ChartSyntax$Member$Kind" (some 5) with
  accessFlags := 16432
  interfaces := #[]
  cf := some (fileOf pool6 1 #[.nestHost 85] #[{ accessFlags := 0, nameIndex := 37, descriptorIndex := 75, attributes := #[] }, { accessFlags := 0, nameIndex := 45, descriptorIndex := 77, attributes := #[] }] 16432 26 #[] #[{ accessFlags := 16409, nameIndex := 5, descriptorIndex := 6, attributes := #[] }, { accessFlags := 16409, nameIndex := 9, descriptorIndex := 6, attributes := #[] }, { accessFlags := 16409, nameIndex := 12, descriptorIndex := 6, attributes := #[] }, { accessFlags := 16409, nameIndex := 15, descriptorIndex := 6, attributes := #[] }, { accessFlags := 18, nameIndex := 37, descriptorIndex := 38, attributes := #[] }, { accessFlags := 18, nameIndex := 41, descriptorIndex := 42, attributes := #[] }, { accessFlags := 4122, nameIndex := 18, descriptorIndex := 19, attributes := #[] }])
  fields := #[{ name := "IN_EVENT", type := (.object "com/example/chartwright/chartwright/chart/ChartSyntax$Member$Kind"), accessFlags := 16409, slot := 0, constantValue := 0 }, { name := "OUT_EVENT", type := (.object "com/example/chartwright/chartwright/chart/ChartSyntax$Member$Kind"), accessFlags := 16409, slot := 1, constantValue := 0 }, { name := "VARIABLE", type := (.object "com/example/chartwright/chartwright/chart/ChartSyntax$Member$Kind"), accessFlags := 16409, slot := 2, constantValue := 0 }, { name := "CONSTANT", type := (.object "com/example/chartwright/chartwright/chart/ChartSyntax$Member$Kind"), accessFlags := 16409, slot := 3, constantValue := 0 }, { name := "noun", type := (.object "java/lang/String"), accessFlags := 18, slot := 3, constantValue := 0 }, { name := "construct", type := (.object "com/example/chartwright/chartwright/chart/Construct"), accessFlags := 18, slot := 4, constantValue := 0 }, { name := "$VALUES", type := (.array (.object "com/example/chartwright/chartwright/chart/ChartSyntax$Member$Kind")), accessFlags := 4122, slot := 4, constantValue := 0 }]
  methods := #[k6m0, k6m1]
  instanceTypes := #[(.object "java/lang/String"), .int, .int, (.object "java/lang/String"), (.object "com/example/chartwright/chartwright/chart/Construct")]
  staticTypes := #[(.object "com/example/chartwright/chartwright/chart/ChartSyntax$Member$Kind"), (.object "com/example/chartwright/chartwright/chart/ChartSyntax$Member$Kind"), (.object "com/example/chartwright/chartwright/chart/ChartSyntax$Member$Kind"), (.object "com/example/chartwright/chartwright/chart/ChartSyntax$Member$Kind"), (.array (.object "com/example/chartwright/chartwright/chart/ChartSyntax$Member$Kind"))]
  resolved := Array.replicate 92 none
  statics := some 0 }

def pool7 : Array CpInfo := pool [(2, .class_ 4), (1, u "java/lang/CharSequence"), (42, .class_ 48), (0, u "java/lang/CharSequence$1CodePointIterator"), (10, .class_ 60), (0, u "java/lang/CharSequence$1CharIterator"), (5, .class_ 67), (0, u "java/lang/Object")] 63

/-- java/lang/CharSequence -/
def k7 : Class := { plain "java/lang/CharSequence" (some 0) with
  accessFlags := 1537
  interfaces := #[]
  cf := some (fileOf pool7 2 #[.nestMembers #[47, 59]] #[] 1537 66 #[] #[])
  fields := #[]
  methods := #[]
  instanceTypes := #[]
  staticTypes := #[]
  resolved := Array.replicate 131 none
  statics := none }

def pool8 : Array CpInfo := pool [(1, .class_ 2), (0, u "java/lang/constant/ConstantDesc"), (0, .class_ 4), (0, u "java/lang/Object")] 32

/-- java/lang/constant/ConstantDesc -/
def k8 : Class := { plain "java/lang/constant/ConstantDesc" (some 0) with
  accessFlags := 1537
  interfaces := #[]
  cf := some (fileOf pool8 1 #[] #[] 1537 3 #[] #[])
  fields := #[]
  methods := #[]
  instanceTypes := #[]
  staticTypes := #[]
  resolved := Array.replicate 37 none
  statics := none }

def pool9 : Array CpInfo := pool [(2, .class_ 4), (1, u "java/lang/Object"), (0, u "<init>"), (0, u "()V"), (2, .fieldref 10 11), (0, .class_ 12), (0, .nameAndType 13 14), (0, u "java/lang/String"), (0, u "value"), (0, u "[B"), (0, .fieldref 10 16), (0, .nameAndType 17 18), (0, u "coder"), (0, u "B"), (2, u "hash"), (0, u "I"), (2, u "hashIsZero"), (0, u "Z"), (11, .fieldref 10 39), (0, .nameAndType 40 26), (0, u "COMPACT_STRINGS"), (66, .class_ 109), (1, u "java/lang/StringLatin1"), (431, .methodref 107 542), (0, .nameAndType 543 544), (0, u "equals"), (0, u "([B[B)Z"), (28, u "(Ljava/lang/Object;)Z"), (1, .class_ 576), (0, u "java/lang/CharSequence"), (22, u "CASE_INSENSITIVE_ORDER"), (0, u "Ljava/util/Comparator;"), (500, u "serialPersistentFields"), (0, u "[Ljava/io/ObjectStreamField;"), (0, .class_ 1104), (0, u "java/lang/String$CaseInsensitiveComparator"), (1, .class_ 1107), (0, u "java/io/Serializable"), (0, .class_ 1109), (0, u "java/lang/Comparable"), (0, .class_ 1111), (0, u "java/lang/constant/Constable"), (0, .class_ 1113), (0, u "java/lang/constant/ConstantDesc"), (2, u "serialVersionUID"), (0, u "J"), (3, u "REPL"), (0, u "C"), (2, u "LATIN1"), (1, u "UTF16")] 323

def k9m0 : Method := { name := "<init>", desc := "()V", sig := { parameters := [], returnType := none }, accessFlags := 1, code := none }
def k9c1 : Code := { maxStack := 2, maxLocals := 3, code := jdk_42_method_66_code, exceptionTable := #[], attributes := #[] }
def k9m1 : Method := { name := "equals", desc := "(Ljava/lang/Object;)Z", sig := { parameters := [(.object "java/lang/Object")], returnType := some .boolean }, accessFlags := 1, code := some k9c1 }
/-- java/lang/String -/
def k9 : Class := { plain "java/lang/String" (some 0) with
  accessFlags := 49
  interfaces := #[4, 3, 7, 2, 8]
  cf := some (fileOf pool9 10 #[.nestMembers #[1103]] #[{ accessFlags := 1, nameIndex := 5, descriptorIndex := 6, attributes := #[] }, { accessFlags := 1, nameIndex := 543, descriptorIndex := 573, attributes := #[] }] 49 2 #[1106, 1108, 575, 1110, 1112] #[{ accessFlags := 18, nameIndex := 13, descriptorIndex := 14, attributes := #[] }, { accessFlags := 18, nameIndex := 17, descriptorIndex := 18, attributes := #[] }, { accessFlags := 2, nameIndex := 21, descriptorIndex := 22, attributes := #[] }, { accessFlags := 2, nameIndex := 25, descriptorIndex := 26, attributes := #[] }, { accessFlags := 26, nameIndex := 1116, descriptorIndex := 1117, attributes := #[] }, { accessFlags := 24, nameIndex := 40, descriptorIndex := 26, attributes := #[] }, { accessFlags := 26, nameIndex := 1101, descriptorIndex := 1102, attributes := #[] }, { accessFlags := 26, nameIndex := 1121, descriptorIndex := 1122, attributes := #[] }, { accessFlags := 25, nameIndex := 599, descriptorIndex := 600, attributes := #[] }, { accessFlags := 24, nameIndex := 1125, descriptorIndex := 18, attributes := #[] }, { accessFlags := 24, nameIndex := 1127, descriptorIndex := 18, attributes := #[] }])
  fields := #[{ name := "value", type := (.array .byte), accessFlags := 18, slot := 0, constantValue := 0 }, { name := "coder", type := .byte, accessFlags := 18, slot := 1, constantValue := 0 }, { name := "hash", type := .int, accessFlags := 2, slot := 2, constantValue := 0 }, { name := "hashIsZero", type := .boolean, accessFlags := 2, slot := 3, constantValue := 0 }, { name := "serialVersionUID", type := .long, accessFlags := 26, slot := 0, constantValue := 0 }, { name := "COMPACT_STRINGS", type := .boolean, accessFlags := 24, slot := 1, constantValue := 0 }, { name := "serialPersistentFields", type := (.array (.object "java/io/ObjectStreamField")), accessFlags := 26, slot := 2, constantValue := 0 }, { name := "REPL", type := .char, accessFlags := 26, slot := 3, constantValue := 0 }, { name := "CASE_INSENSITIVE_ORDER", type := (.object "java/util/Comparator"), accessFlags := 25, slot := 4, constantValue := 0 }, { name := "LATIN1", type := .byte, accessFlags := 24, slot := 5, constantValue := 0 }, { name := "UTF16", type := .byte, accessFlags := 24, slot := 6, constantValue := 0 }]
  methods := #[k9m0, k9m1]
  instanceTypes := #[(.array .byte), .byte, .int, .boolean]
  staticTypes := #[.long, .boolean, (.array (.object "java/io/ObjectStreamField")), .char, (.object "java/util/Comparator"), .byte, .byte]
  resolved := Array.replicate 1451 none
  statics := some 1 }

def pool10 : Array CpInfo := pool [(4, .class_ 6), (1, u "java/lang/Object"), (0, u "<init>"), (0, u "()V"), (5, .class_ 16), (1, u "java/lang/StringLatin1"), (104, u "$assertionsDisabled"), (0, u "Z"), (98, .class_ 223), (1, u "java/lang/StringLatin1$LinesSpliterator"), (57, u "equals"), (0, u "([B[B)Z"), (107, .class_ 391), (0, u "java/lang/StringLatin1$CharsSpliterator")] 3

def k10m0 : Method := { name := "<init>", desc := "()V", sig := { parameters := [], returnType := none }, accessFlags := 0, code := none }
def k10c1 : Code := { maxStack := 3, maxLocals := 3, code := jdk_43_method_13_code, exceptionTable := #[], attributes := #[] }
def k10m1 : Method := { name := "equals", desc := "([B[B)Z", sig := { parameters := [(.array .byte), (.array .byte)], returnType := some .boolean }, accessFlags := 9, code := some k10c1 }
/-- java/lang/StringLatin1 -/
def k10 : Class := { plain "java/lang/StringLatin1" (some 0) with
  accessFlags := 48
  interfaces := #[]
  cf := some (fileOf pool10 14 #[.nestMembers #[390, 221]] #[{ accessFlags := 0, nameIndex := 7, descriptorIndex := 8, attributes := #[] }, { accessFlags := 9, nameIndex := 281, descriptorIndex := 282, attributes := #[] }] 48 4 #[] #[{ accessFlags := 4120, nameIndex := 121, descriptorIndex := 122, attributes := #[] }])
  fields := #[{ name := "$assertionsDisabled", type := .boolean, accessFlags := 4120, slot := 0, constantValue := 0 }]
  methods := #[k10m0, k10m1]
  instanceTypes := #[]
  staticTypes := #[.boolean]
  resolved := Array.replicate 395 none
  statics := none }

def pool11 : Array CpInfo := pool [(2, .class_ 4), (1, u "java/lang/Object"), (0, u "<init>"), (0, u "()V"), (17, .class_ 26), (1, u "jdk/internal/util/Preconditions"), (28, .class_ 56), (0, u "jdk/internal/util/Preconditions$4"), (57, .class_ 115), (0, u "jdk/internal/util/Preconditions$1"), (7, u "SIOOBE_FORMATTER"), (0, u "Ljava/util/function/BiFunction;"), (0, .class_ 126), (0, u "jdk/internal/util/Preconditions$2"), (3, u "AIOOBE_FORMATTER"), (0, .class_ 132), (0, u "jdk/internal/util/Preconditions$3"), (3, u "IOOBE_FORMATTER")] 57

def k11m0 : Method := { name := "<init>", desc := "()V", sig := { parameters := [], returnType := none }, accessFlags := 1, code := none }
/-- jdk/internal/util/Preconditions -/
def k11 : Class := { plain "jdk/internal/util/Preconditions" (some 0) with
  accessFlags := 33
  interfaces := #[]
  cf := some (fileOf pool11 24 #[.nestMembers #[55, 131, 125, 114]] #[{ accessFlags := 1, nameIndex := 5, descriptorIndex := 6, attributes := #[] }] 33 2 #[] #[{ accessFlags := 25, nameIndex := 123, descriptorIndex := 124, attributes := #[] }, { accessFlags := 25, nameIndex := 130, descriptorIndex := 124, attributes := #[] }, { accessFlags := 25, nameIndex := 136, descriptorIndex := 124, attributes := #[] }])
  fields := #[{ name := "SIOOBE_FORMATTER", type := (.object "java/util/function/BiFunction"), accessFlags := 25, slot := 0, constantValue := 0 }, { name := "AIOOBE_FORMATTER", type := (.object "java/util/function/BiFunction"), accessFlags := 25, slot := 1, constantValue := 0 }, { name := "IOOBE_FORMATTER", type := (.object "java/util/function/BiFunction"), accessFlags := 25, slot := 2, constantValue := 0 }]
  methods := #[k11m0]
  instanceTypes := #[]
  staticTypes := #[(.object "java/util/function/BiFunction"), (.object "java/util/function/BiFunction"), (.object "java/util/function/BiFunction")]
  resolved := Array.replicate 194 none
  statics := some 2 }

def pool12 : Array CpInfo := pool [(9, u "<init>"), (6, .class_ 18), (1, u "java/lang/Object"), (0, u "()V"), (1, .class_ 23), (1, u "jdk/internal/util/ArraysSupport"), (0, u "LOG2_ARRAY_LONG_INDEX_SCALE"), (0, u "I"), (2, u "U"), (0, u "Ljdk/internal/misc/Unsafe;"), (8, u "BIG_ENDIAN"), (0, u "Z"), (8, u "LOG2_BYTE_BIT_SIZE"), (4, u "LOG2_ARRAY_INT_INDEX_SCALE"), (54, u "JLA"), (0, u "Ljdk/internal/access/JavaLangAccess;"), (11, u "LOG2_ARRAY_BOOLEAN_INDEX_SCALE"), (9, u "LOG2_ARRAY_BYTE_INDEX_SCALE"), (5, u "LOG2_ARRAY_CHAR_INDEX_SCALE"), (5, u "LOG2_ARRAY_SHORT_INDEX_SCALE"), (18, u "LOG2_ARRAY_FLOAT_INDEX_SCALE"), (24, u "LOG2_ARRAY_DOUBLE_INDEX_SCALE"), (89, u "T_BOOLEAN"), (2, u "T_CHAR"), (1, u "T_FLOAT"), (1, u "T_DOUBLE"), (1, u "T_BYTE"), (1, u "T_SHORT"), (1, u "T_INT"), (1, u "T_LONG"), (1, u "SOFT_MAX_ARRAY_LENGTH")] 83

def k12m0 : Method := { name := "<init>", desc := "()V", sig := { parameters := [], returnType := none }, accessFlags := 2, code := none }
/-- jdk/internal/util/ArraysSupport -/
def k12 : Class := { plain "jdk/internal/util/ArraysSupport" (some 0) with
  accessFlags := 33
  interfaces := #[]
  cf := some (fileOf pool12 21 #[] #[{ accessFlags := 2, nameIndex := 9, descriptorIndex := 19, attributes := #[] }] 33 16 #[] #[{ accessFlags := 24, nameIndex := 28, descriptorIndex := 29, attributes := #[] }, { accessFlags := 26, nameIndex := 38, descriptorIndex := 39, attributes := #[] }, { accessFlags := 25, nameIndex := 121, descriptorIndex := 25, attributes := #[] }, { accessFlags := 25, nameIndex := 131, descriptorIndex := 25, attributes := #[] }, { accessFlags := 25, nameIndex := 137, descriptorIndex := 25, attributes := #[] }, { accessFlags := 25, nameIndex := 143, descriptorIndex := 25, attributes := #[] }, { accessFlags := 25, nameIndex := 53, descriptorIndex := 25, attributes := #[] }, { accessFlags := 25, nameIndex := 24, descriptorIndex := 25, attributes := #[] }, { accessFlags := 25, nameIndex := 162, descriptorIndex := 25, attributes := #[] }, { accessFlags := 25, nameIndex := 187, descriptorIndex := 25, attributes := #[] }, { accessFlags := 26, nameIndex := 48, descriptorIndex := 25, attributes := #[] }, { accessFlags := 25, nameIndex := 277, descriptorIndex := 25, attributes := #[] }, { accessFlags := 25, nameIndex := 280, descriptorIndex := 25, attributes := #[] }, { accessFlags := 25, nameIndex := 282, descriptorIndex := 25, attributes := #[] }, { accessFlags := 25, nameIndex := 284, descriptorIndex := 25, attributes := #[] }, { accessFlags := 25, nameIndex := 286, descriptorIndex := 25, attributes := #[] }, { accessFlags := 25, nameIndex := 288, descriptorIndex := 25, attributes := #[] }, { accessFlags := 25, nameIndex := 290, descriptorIndex := 25, attributes := #[] }, { accessFlags := 25, nameIndex := 292, descriptorIndex := 25, attributes := #[] }, { accessFlags := 26, nameIndex := 108, descriptorIndex := 109, attributes := #[] }, { accessFlags := 25, nameIndex := 294, descriptorIndex := 25, attributes := #[] }])
  fields := #[{ name := "U", type := (.object "jdk/internal/misc/Unsafe"), accessFlags := 24, slot := 0, constantValue := 0 }, { name := "BIG_ENDIAN", type := .boolean, accessFlags := 26, slot := 1, constantValue := 0 }, { name := "LOG2_ARRAY_BOOLEAN_INDEX_SCALE", type := .int, accessFlags := 25, slot := 2, constantValue := 0 }, { name := "LOG2_ARRAY_BYTE_INDEX_SCALE", type := .int, accessFlags := 25, slot := 3, constantValue := 0 }, { name := "LOG2_ARRAY_CHAR_INDEX_SCALE", type := .int, accessFlags := 25, slot := 4, constantValue := 0 }, { name := "LOG2_ARRAY_SHORT_INDEX_SCALE", type := .int, accessFlags := 25, slot := 5, constantValue := 0 }, { name := "LOG2_ARRAY_INT_INDEX_SCALE", type := .int, accessFlags := 25, slot := 6, constantValue := 0 }, { name := "LOG2_ARRAY_LONG_INDEX_SCALE", type := .int, accessFlags := 25, slot := 7, constantValue := 0 }, { name := "LOG2_ARRAY_FLOAT_INDEX_SCALE", type := .int, accessFlags := 25, slot := 8, constantValue := 0 }, { name := "LOG2_ARRAY_DOUBLE_INDEX_SCALE", type := .int, accessFlags := 25, slot := 9, constantValue := 0 }, { name := "LOG2_BYTE_BIT_SIZE", type := .int, accessFlags := 26, slot := 10, constantValue := 0 }, { name := "T_BOOLEAN", type := .int, accessFlags := 25, slot := 11, constantValue := 0 }, { name := "T_CHAR", type := .int, accessFlags := 25, slot := 12, constantValue := 0 }, { name := "T_FLOAT", type := .int, accessFlags := 25, slot := 13, constantValue := 0 }, { name := "T_DOUBLE", type := .int, accessFlags := 25, slot := 14, constantValue := 0 }, { name := "T_BYTE", type := .int, accessFlags := 25, slot := 15, constantValue := 0 }, { name := "T_SHORT", type := .int, accessFlags := 25, slot := 16, constantValue := 0 }, { name := "T_INT", type := .int, accessFlags := 25, slot := 17, constantValue := 0 }, { name := "T_LONG", type := .int, accessFlags := 25, slot := 18, constantValue := 0 }, { name := "JLA", type := (.object "jdk/internal/access/JavaLangAccess"), accessFlags := 26, slot := 19, constantValue := 0 }, { name := "SOFT_MAX_ARRAY_LENGTH", type := .int, accessFlags := 25, slot := 20, constantValue := 0 }]
  methods := #[k12m0]
  instanceTypes := #[]
  staticTypes := #[(.object "jdk/internal/misc/Unsafe"), .boolean, .int, .int, .int, .int, .int, .int, .int, .int, .int, .int, .int, .int, .int, .int, .int, .int, .int, (.object "jdk/internal/access/JavaLangAccess"), .int]
  resolved := Array.replicate 378 none
  statics := none }

def pool13 : Array CpInfo := pool [(1, u "java/lang/Cloneable"), (0, .class_ 1), (0, u "java/lang/Object"), (0, .class_ 3)] 3

/-- java/lang/Cloneable -/
def k13 : Class := { plain "java/lang/Cloneable" (some 0) with
  accessFlags := 1537
  interfaces := #[]
  cf := some (fileOf pool13 2 #[] #[] 1537 4 #[] #[])
  fields := #[]
  methods := #[]
  instanceTypes := #[]
  staticTypes := #[]
  resolved := Array.replicate 8 none
  statics := none }

/-- the primitive byte -/
def k14 : Class := { plain "byte" none with kind := .primitive 'B', accessFlags := 0x411 }
/-- [B -/
def k15 : Class := { plain "[B" (some 0) with kind := .array 14 .byte, interfaces := #[13, 4], accessFlags := 1041 }

def heap : Heap := #[{ cls := 6, slots := #[.ref 9, .ref 10, .ref 11, .ref 12, .null], vm := .statics 6 },
  { cls := 9, slots := #[.long 0, .int 1, .null, .int 0, .null, .int 0, .int 0], vm := .statics 9 },
  { cls := 11, slots := #[.null, .null, .null], vm := .statics 11 },
  { cls := 15, slots := #[.int 101, .int 118, .int 101, .int 110, .int 116], vm := .none },
  { cls := 15, slots := #[.int 99, .int 111, .int 110, .int 115, .int 116, .int 97, .int 110, .int 116], vm := .none },
  { cls := 15, slots := #[.int 118, .int 97, .int 114, .int 105, .int 97, .int 98, .int 108, .int 101], vm := .none },
  { cls := 9, slots := #[.ref 3, .int 0, .int 0, .int 0], vm := .none },
  { cls := 9, slots := #[.ref 4, .int 0, .int 0, .int 0], vm := .none },
  { cls := 9, slots := #[.ref 5, .int 0, .int 0, .int 0], vm := .none },
  { cls := 6, slots := #[.null, .int 0, .int 0, .ref 6, .null], vm := .none },
  { cls := 6, slots := #[.null, .int 1, .int 0, .ref 6, .null], vm := .none },
  { cls := 6, slots := #[.null, .int 2, .int 0, .ref 8, .null], vm := .none },
  { cls := 6, slots := #[.null, .int 3, .int 0, .ref 7, .null], vm := .none }]
def classes : Array Class := #[k0, k1, k2, k3, k4, k5, k6, k7, k8, k9, k10, k11, k12, k13, k14, k15]
def interned : List (Array UInt16 × Addr) := []
def slotsUsed : Nat := 68
def theMethod : MethodId := ⟨1, 1⟩
def args0 : Array Value := #[.int 1]
def aboutOver (below : List Frame) : State where
  vm := { classes := classes, interned := interned.toArray }
  heap := heap
  slotsUsed := slotsUsed
  threads := #[{ frames := .invoking theMethod args0 :: below }]
def below0 : List Frame := [.native { method := ⟨0, 0⟩, args := #[] }]
def about1 : State := aboutOver below0
def p0 : Program := .bare "" "" ""
def e0 : Env := launch0.env 0 0 0
theorem w_frames : about1.frames = Frame.invoking theMethod args0 :: below0 := rfl
set_option maxRecDepth 65536 in
theorem w_args : argsFit about1.vm theMethod args0 = true := by decide +kernel
set_option maxRecDepth 65536 in
theorem w_heap : heapFits about1 = true := by decide +kernel
set_option maxRecDepth 65536 in
theorem w_runnable : about1.curStatus? = some .runnable := by decide +kernel
set_option maxRecDepth 65536 in
theorem w_alone : about1.alone = true := by decide +kernel
set_option maxRecDepth 65536 in
theorem w_named : about1.methodNamed? x = some theMethod := by decide +kernel
set_option maxRecDepth 65536 in
theorem w_hears : about1.hears theMethod below0 = true := by decide +kernel
set_option maxRecDepth 65536 in
theorem w_ripe : about1.ripe theMethod args0 below0 = true := by decide +kernel
theorem w_running : about1.status = .running := rfl
set_option maxRecDepth 65536 in
theorem w_room : about1.hasRoom e0.platform room_1 = true :=
  launch0.hasRoom_least _ room_1 (by decide +kernel) (by decide +kernel) (by decide +kernel) (by decide +kernel) (by decide +kernel) (by decide +kernel)
theorem allAtoms_all (ts : List Jvm.Cond) (a : Array Jvm.Value) (st : Jvm.State) : (allAtoms ts).before a st = ts.all (fun c => c.before a st) := by
  induction ts with
  | nil => rfl
  | cons c t ih =>
    show (Jvm.Cond.and c (allAtoms t)).before a st = _
    rw [Jvm.Cond.before_and, ih, List.all_cons]
def words1 : List Jvm.Cond := Jvm.Cond.code x code maxLocals ret :: tables_1
/-- a 'code' word, met by the world's own term for the bytes: nothing is compared byte by byte -/
theorem code_word {y : MethodName} {bytes : ByteArray} {mx : Nat} {rt : Option FieldType} {a : Array Value} {s : State} {m : MethodId} {meth : Method} {c : Code} (h1 : s.methodNamed? y = some m) (h2 : s.vm.method? m = some meth) (h3 : meth.code = some c) (h4 : c.code = bytes)
    (h5 : (c.maxLocals == mx && c.exceptionTable.isEmpty && decide (c.maxStack ≤ mostOperands) && decide (meth.sig.returnType = rt) && !meth.locks && decide (parseMethodDescriptor y.desc = some meth.sig)) = true) : (Jvm.Cond.code y bytes mx rt).before a s = true := by
  simp only [Bool.and_eq_true, beq_iff_eq, Bool.not_eq_true', decide_eq_true_eq] at h5
  obtain ⟨⟨⟨⟨⟨g1, g2⟩, g3⟩, g4⟩, g5⟩, g6⟩ := h5
  simp [Cond.before, Cond.holds, Cond.value, h1, h2, h3, h4, g1, g2, g3, g4, g5, g6]
def isCode : Jvm.Cond → Bool
  | .code _ _ _ _ => true
  | _ => false
theorem all_split {L : List Jvm.Cond} {P : Jvm.Cond → Bool} (h1 : L.all (fun c => isCode c || P c) = true) (h2 : ∀ c ∈ L.filter isCode, P c = true) : L.all P = true := by
  refine List.all_eq_true.mpr fun c hc => ?_
  have h := List.all_eq_true.mp h1 c hc
  rcases Bool.eq_false_or_eq_true (isCode c) with hi | hi
  · exact h2 c (List.mem_filter.mpr ⟨hc, hi⟩)
  · simpa [hi] using h
set_option maxRecDepth 65536 in
theorem w_c0 : (Jvm.Cond.code x code maxLocals ret).before args0 about1 = true := code_word (m := ⟨1, 1⟩) (meth := k1m1) (c := k1c1) (by decide +kernel) rfl rfl rfl (by decide +kernel)
set_option maxRecDepth 65536 in
theorem w_c1 : (Jvm.Cond.code ({ cls := "com/example/chartwright/chartwright/chart/ChartSyntax$Member$Kind", name := "event", desc := "()Z" } : Jvm.MethodName) prog_40_method_6_code (1 : Nat) (Option.some Jvm.ClassFile.FieldType.boolean)).before args0 about1 = true := code_word (m := ⟨6, 1⟩) (meth := k6m1) (c := k6c1) (by decide +kernel) rfl rfl rfl (by decide +kernel)
set_option maxRecDepth 65536 in
theorem w_c2 : (Jvm.Cond.code ({ cls := "com/example/chartwright/chartwright/chart/ChartSyntax$Member$Kind", name := "noun", desc := "()Ljava/lang/String;" } : Jvm.MethodName) prog_40_method_4_code (1 : Nat) (Option.some (Jvm.ClassFile.FieldType.object "java/lang/String"))).before args0 about1 = true := code_word (m := ⟨6, 0⟩) (meth := k6m0) (c := k6c0) (by decide +kernel) rfl rfl rfl (by decide +kernel)
set_option maxRecDepth 65536 in
theorem w_c3 : (Jvm.Cond.code ({ cls := "java/lang/String", name := "equals", desc := "(Ljava/lang/Object;)Z" } : Jvm.MethodName) jdk_42_method_66_code (3 : Nat) (Option.some Jvm.ClassFile.FieldType.boolean)).before args0 about1 = true := code_word (m := ⟨9, 1⟩) (meth := k9m1) (c := k9c1) (by decide +kernel) rfl rfl rfl (by decide +kernel)
set_option maxRecDepth 65536 in
theorem w_c4 : (Jvm.Cond.code ({ cls := "java/lang/StringLatin1", name := "equals", desc := "([B[B)Z" } : Jvm.MethodName) jdk_43_method_13_code (3 : Nat) (Option.some Jvm.ClassFile.FieldType.boolean)).before args0 about1 = true := code_word (m := ⟨10, 1⟩) (meth := k10m1) (c := k10c1) (by decide +kernel) rfl rfl rfl (by decide +kernel)
def codes1 : List Jvm.Cond := [Jvm.Cond.code x code maxLocals ret, Jvm.Cond.code ({ cls := "com/example/chartwright/chartwright/chart/ChartSyntax$Member$Kind", name := "event", desc := "()Z" } : Jvm.MethodName) prog_40_method_6_code (1 : Nat) (Option.some Jvm.ClassFile.FieldType.boolean), Jvm.Cond.code ({ cls := "com/example/chartwright/chartwright/chart/ChartSyntax$Member$Kind", name := "noun", desc := "()Ljava/lang/String;" } : Jvm.MethodName) prog_40_method_4_code (1 : Nat) (Option.some (Jvm.ClassFile.FieldType.object "java/lang/String")), Jvm.Cond.code ({ cls := "java/lang/String", name := "equals", desc := "(Ljava/lang/Object;)Z" } : Jvm.MethodName) jdk_42_method_66_code (3 : Nat) (Option.some Jvm.ClassFile.FieldType.boolean), Jvm.Cond.code ({ cls := "java/lang/StringLatin1", name := "equals", desc := "([B[B)Z" } : Jvm.MethodName) jdk_43_method_13_code (3 : Nat) (Option.some Jvm.ClassFile.FieldType.boolean)]
set_option maxRecDepth 65536 in
theorem codes_eq : words1.filter isCode = codes1 := rfl
theorem w_codes : ∀ c ∈ words1.filter isCode, c.before args0 about1 = true := by
  rw [codes_eq]
  intro c hc
  simp only [codes1, List.mem_cons, List.not_mem_nil, or_false] at hc
  rcases hc with rfl | rfl | rfl | rfl | rfl
  · exact w_c0
  · exact w_c1
  · exact w_c2
  · exact w_c3
  · exact w_c4
set_option maxRecDepth 65536 in
theorem w_t1 : (words1.take 24).all (fun c => isCode c || c.before args0 about1) = true := by decide +kernel
set_option maxRecDepth 65536 in
theorem w_t2 : (words1.drop 24).all (fun c => isCode c || c.before args0 about1) = true := by decide +kernel
theorem w_tables : (allAtoms (Jvm.Cond.code x code maxLocals ret :: tables_1)).before args0 about1 = true := by
  rw [allAtoms_all]
  show words1.all (fun c => c.before args0 about1) = true
  refine all_split ?_ w_codes
  rw [← List.take_append_drop 24 words1, List.all_append, w_t1, w_t2]
  rfl
set_option maxRecDepth 65536 in
theorem w_rest : rest_1_c.before args0 about1 = true := by decide +kernel
set_option maxRecDepth 65536 in
theorem w_case : (Jvm.Cond.and given_1 narrow_1).before args0 about1 = true := by decide +kernel
set_option maxRecDepth 65536 in
theorem w_consts : constsHeld consts_1 about1 := Jvm.Lit.constsHeldB_iff.mp (by decide +kernel)
theorem w_applies : (headSpec (Jvm.Cond.code x code maxLocals ret :: tables_1) room_1).applies x e0.platform about1 = true :=
  (Spec.applies_iff w_frames).mpr ⟨w_running, w_runnable, w_alone, w_named, w_hears, w_ripe, w_room, w_tables⟩
theorem atStart : AtStart classFile x code maxLocals ret World_1 tables_1 room_1 Calls_1 rest_1 Pre_1 launch0 p0 e0 about1 theMethod args0 below0 :=
  ⟨lists_1, trivial, launch0.admits_env _ _ _, launch0.least_env, fairChoices_fair.cas, fairChoices_fair.clock, w_frames, w_args, w_heap, w_applies, ⟨w_consts, trivial⟩, w_rest, w_case⟩
end start1
theorem witness_1 : WitnessClaimed_1 := ⟨start1.p0, start1.e0, start1.about1, start1.theMethod, start1.args0, start1.below0, start1.atStart⟩
end Jvm.Pilot.@@N@@
