import JvmDerived
import JvmDerived.Pilot.@@N@@Statement
import JvmDerived.Pilot.@@N@@Code
set_option linter.unusedVariables false
set_option linter.unusedSimpArgs false
@@BLOCK:NumsL.lean.txt@@
namespace Jvm.Pilot.@@N@@
open Jvm Jvm.ClassFile Sem Op Lib Jvm.Free Jvm.Stand Jvm.LawKit Jvm.RoadKit Bundle Jvm.Pilot.@@N@@.Jvm.D
/-! OwnGo: from here the run ends, returning as Q says -/
def OwnGo (p : Program) (e : Env) (below : List Frame) (s : State) (C S : Nat) (Q : Option Value → Heap → List Loc → Prop) (T : State) (g : JFrame) : Prop :=
  ∃ s₂ o, Steps p.tables e below (T.setTop g) s₂ ∧ s₂.status = .running ∧ Ended s₂ below o ∧ ∃ v L, o = .returned v ∧ Q v s₂.heap L ∧ FrameEnd s o s₂ L C S
section OwnBase
variable {p : Program} {l : Launch} {e : Env} {R : Room} {s : State} {m : MethodId} {args : Array Value} {below : List Frame} {meth : Method} {c : Code} {T T' : State} {locs : List Loc} {cells slots C S : Nat} {Q : Option Value → Heap → List Loc → Prop} {g g' : JFrame}
theorem own_st (k : ∀ t, Steps p.tables e below (T'.setTop g') t → Steps p.tables e below (T.setTop g) t) (h : OwnGo p e below s C S Q T' g') : OwnGo p e below s C S Q T g := by
  obtain ⟨s₂, o, h1, h2⟩ := h
  exact ⟨s₂, o, k _ h1, h2⟩
theorem own_tr (k : Steps p.tables e below (T.setTop g) (T'.setTop g')) (h : OwnGo p e below s C S Q T' g') : OwnGo p e below s C S Q T g := by
  obtain ⟨s₂, o, h1, h2⟩ := h
  exact ⟨s₂, o, k.trans h1, h2⟩
theorem own_cast (q : g = g') (h : OwnGo p e below s C S Q T g') : OwnGo p e below s C S Q T g := q ▸ h
theorem own_ret {v : Option Value} (X : Stand p l e R s m args below meth c T locs cells slots) (hlk : meth.locks = false) (hv : meth.sig.returnType = none → v = none)
    (step : ∀ fs, (∀ (f : JFrame) (acts : List Action), f.method = m → f.locked = none → f.entered = [] → (doReturn e (T.setTop f) acts v).1 = T.setFrames fs) → Steps p.tables e below (T.setTop g) (T.setFrames fs))
    (hQ : Q v T.heap locs) (hc : cells ≤ C) (hs : slots ≤ S) : OwnGo p e below s C S Q T g := by
  obtain ⟨fs, hr, hrun, hended, hW, hsame⟩ := X.leave (v := v) hv hlk
  exact ⟨_, _, step fs hr, hrun, hended, v, locs, rfl, hQ, ⟨_, rfl⟩, hW, hsame.mono hc hs⟩
end OwnBase

theorem own_selp {s : State} {args : Array Value} {y z : MethodName} (hz : (Cond.selects z.cls z z).before args s = true) (e : y.cls = z.cls) (hp : (Cond.privateMethod y).before args s = true) (hi : (Cond.instanceMethod y).before args s = true) (hy : y.cls ≠ "java/lang/invoke/MethodHandle" ∧ y.cls ≠ "java/lang/invoke/VarHandle") : (Cond.selects y.cls y y).before args s = true := by
  obtain ⟨c, r, m, h1, -, h3, -, k, h4, h5⟩ := Cond.selects_spec hz
  exact Jvm.Stand.selects_self_of_private (c := m.cls) (by rw [e]; exact findClass_of_methodNamed h3) h4 h5 (Cond.privateMethod_at hp) hi hy
def own_sp (w : Int64) : Int32 := if (524288 : Int64) < w then 1 else 0
def own_min (x y : Int64) : Int64 := if y < x then y else x
theorem own_sp0 {w : Int64} (h : ¬ (524288 : Int64) < w) : own_sp w = 0 := by rw [own_sp, if_neg h]
theorem own_minle (x y : Int64) : ¬ y < own_min x y := by
  by_cases h : y < x
  · rw [own_min, if_pos h]; exact Int64.lt_irrefl
  · rw [own_min, if_neg h]; exact h
theorem own_wrap (x : Int64) : x + ((524288 : Int64) - x) = 524288 := by rw [Int64.add_comm, Int64.sub_add_cancel]
theorem own_fill (x : Int64) : ¬ (524288 : Int64) < x + ((524288 : Int64) - x) := by rw [own_wrap]; decide
theorem own_z1 {x : Int64} (h : ¬ (524288 : Int64) < x) : ¬ (524288 : Int64) < (0 : Int64) + x := by rw [Int64.zero_add]; exact h
theorem own_z2 {x y : Int64} (h : ¬ (524288 : Int64) < x + y) : ¬ (524288 : Int64) < ((0 : Int64) + x) + y := by rw [Int64.zero_add]; exact h
theorem pn_0 : plainName "com/example/brocade/brocade/CellReadsSpentPinLaw" = true := by first | (simp [plainName, overriddenIn]; done) | decide +kernel
def Ctx0 (p : Program) (s : State) (m : MethodId) (meth : Method) (c : Code) (Z : State) (a0 : Array Value) : Prop := p.tables.exec = Jvm.exec ∧ Z.Warmed39 s.vm ∧ (∀ d ∈ tables_1, d.before a0 Z = true) ∧ c.code = code ∧ c.maxLocals = 13 ∧ s.vm.findClass "com/example/brocade/brocade/CellReadsSpentPinLaw" = some m.cls ∧ meth.sig.returnType = ret ∧ meth.locks = false ∧ meth.name = "law"
theorem d1_0 : decode prog_23_method_1_code 0 = .ok (.aload_n 0, 1) := by decide +kernel
theorem d1_1 : decode prog_23_method_1_code 1 = .ok (.invokespecial 3, 3) := by decide +kernel
theorem d1_4 : decode prog_23_method_1_code 4 = .ok (.return_, 1) := by decide +kernel
theorem pn_1 : plainName "com/example/brocade/brocade/CellReads" = true := by first | (simp [plainName, overriddenIn]; done) | decide +kernel
def Ctx1 (p : Program) (s : State) (m : MethodId) (meth : Method) (c : Code) (Z : State) (a0 : Array Value) : Prop := p.tables.exec = Jvm.exec ∧ Z.Warmed39 s.vm ∧ (∀ d ∈ tables_1, d.before a0 Z = true) ∧ c.code = prog_23_method_1_code ∧ c.maxLocals = 1 ∧ s.vm.findClass "com/example/brocade/brocade/CellReads" = some m.cls ∧ meth.sig.returnType = none ∧ meth.locks = false ∧ meth.name = "<init>"
theorem d3_0 : decode prog_23_method_4_code 0 = .ok (.aload_n 0, 1) := by decide +kernel
theorem d3_1 : decode prog_23_method_4_code 1 = .ok (.getfield 9, 3) := by decide +kernel
theorem d3_4 : decode prog_23_method_4_code 4 = .ok (.ldc 31, 2) := by decide +kernel
theorem d3_6 : decode prog_23_method_4_code 6 = .ok (.if_icmp .gt 25, 3) := by decide +kernel
theorem d3_9 : decode prog_23_method_4_code 9 = .ok (.aload_n 0, 1) := by decide +kernel
theorem d3_10 : decode prog_23_method_4_code 10 = .ok (.getfield 15, 3) := by decide +kernel
theorem d3_13 : decode prog_23_method_4_code 13 = .ok (.ldc2_w 32, 3) := by decide +kernel
theorem d3_16 : decode prog_23_method_4_code 16 = .ok (.lcmp, 1) := by decide +kernel
theorem d3_17 : decode prog_23_method_4_code 17 = .ok (.ifCond .gt 14, 3) := by decide +kernel
theorem d3_20 : decode prog_23_method_4_code 20 = .ok (.aload_n 0, 1) := by decide +kernel
theorem d3_21 : decode prog_23_method_4_code 21 = .ok (.getfield 28, 3) := by decide +kernel
theorem d3_24 : decode prog_23_method_4_code 24 = .ok (.ldc2_w 34, 3) := by decide +kernel
theorem d3_27 : decode prog_23_method_4_code 27 = .ok (.lcmp, 1) := by decide +kernel
theorem d3_28 : decode prog_23_method_4_code 28 = .ok (.ifCond .le 7, 3) := by decide +kernel
theorem d3_31 : decode prog_23_method_4_code 31 = .ok (.iconst 1, 1) := by decide +kernel
theorem d3_32 : decode prog_23_method_4_code 32 = .ok (.goto 4, 3) := by decide +kernel
theorem d3_35 : decode prog_23_method_4_code 35 = .ok (.iconst 0, 1) := by decide +kernel
theorem d3_36 : decode prog_23_method_4_code 36 = .ok (.ireturn, 1) := by decide +kernel
theorem pn_3 : plainName "com/example/brocade/brocade/CellReads" = true := by first | (simp [plainName, overriddenIn]; done) | decide +kernel
def Ctx3 (p : Program) (s : State) (m : MethodId) (meth : Method) (c : Code) (Z : State) (a0 : Array Value) : Prop := p.tables.exec = Jvm.exec ∧ Z.Warmed39 s.vm ∧ (∀ d ∈ tables_1, d.before a0 Z = true) ∧ c.code = prog_23_method_4_code ∧ c.maxLocals = 1 ∧ s.vm.findClass "com/example/brocade/brocade/CellReads" = some m.cls ∧ meth.sig.returnType = (some .boolean) ∧ meth.locks = false ∧ meth.name = "spent"
theorem d4_0 : decode jdk_29_method_70_code 0 = .ok (.lload_n 0, 1) := by decide +kernel
theorem d4_1 : decode jdk_29_method_70_code 1 = .ok (.lload_n 2, 1) := by decide +kernel
theorem d4_2 : decode jdk_29_method_70_code 2 = .ok (.lcmp, 1) := by decide +kernel
theorem d4_3 : decode jdk_29_method_70_code 3 = .ok (.ifCond .gt 7, 3) := by decide +kernel
theorem d4_6 : decode jdk_29_method_70_code 6 = .ok (.lload_n 0, 1) := by decide +kernel
theorem d4_7 : decode jdk_29_method_70_code 7 = .ok (.goto 4, 3) := by decide +kernel
theorem d4_10 : decode jdk_29_method_70_code 10 = .ok (.lload_n 2, 1) := by decide +kernel
theorem d4_11 : decode jdk_29_method_70_code 11 = .ok (.lreturn, 1) := by decide +kernel
def Ctx4 (p : Program) (s : State) (m : MethodId) (meth : Method) (c : Code) (Z : State) (a0 : Array Value) : Prop := p.tables.exec = Jvm.exec ∧ Z.Warmed39 s.vm ∧ (∀ d ∈ tables_1, d.before a0 Z = true) ∧ c.code = jdk_29_method_70_code ∧ c.maxLocals = 4 ∧ s.vm.findClass "java/lang/Math" = some m.cls ∧ meth.sig.returnType = (some .long) ∧ meth.locks = false ∧ meth.name = "min"
theorem d5_0 : decode prog_23_method_3_code 0 = .ok (.aload_n 0, 1) := by decide +kernel
theorem d5_1 : decode prog_23_method_3_code 1 = .ok (.dup, 1) := by decide +kernel
theorem d5_2 : decode prog_23_method_3_code 2 = .ok (.getfield 28, 3) := by decide +kernel
theorem d5_5 : decode prog_23_method_3_code 5 = .ok (.lload_n 1, 1) := by decide +kernel
theorem d5_6 : decode prog_23_method_3_code 6 = .ok (.ladd, 1) := by decide +kernel
theorem d5_7 : decode prog_23_method_3_code 7 = .ok (.putfield 28, 3) := by decide +kernel
theorem d5_10 : decode prog_23_method_3_code 10 = .ok (.aload_n 0, 1) := by decide +kernel
theorem d5_11 : decode prog_23_method_3_code 11 = .ok (.invokevirtual 25, 3) := by decide +kernel
theorem d5_14 : decode prog_23_method_3_code 14 = .ok (.return_, 1) := by decide +kernel
theorem pn_5 : plainName "com/example/brocade/brocade/CellReads" = true := by first | (simp [plainName, overriddenIn]; done) | decide +kernel
def Ctx5 (p : Program) (s : State) (m : MethodId) (meth : Method) (c : Code) (Z : State) (a0 : Array Value) : Prop := p.tables.exec = Jvm.exec ∧ Z.Warmed39 s.vm ∧ (∀ d ∈ tables_1, d.before a0 Z = true) ∧ c.code = prog_23_method_3_code ∧ c.maxLocals = 3 ∧ s.vm.findClass "com/example/brocade/brocade/CellReads" = some m.cls ∧ meth.sig.returnType = none ∧ meth.locks = false ∧ meth.name = "countValues"
theorem d6_0 : decode prog_23_method_6_code 0 = .ok (.aload_n 0, 1) := by decide +kernel
theorem d6_1 : decode prog_23_method_6_code 1 = .ok (.invokevirtual 44, 3) := by decide +kernel
theorem d6_4 : decode prog_23_method_6_code 4 = .ok (.ifCond .ne 4, 3) := by decide +kernel
theorem d6_7 : decode prog_23_method_6_code 7 = .ok (.return_, 1) := by decide +kernel
theorem d6_8 : decode prog_23_method_6_code 8 = .ok (.aload_n 0, 1) := by decide +kernel
theorem d6_9 : decode prog_23_method_6_code 9 = .ok (.getfield 9, 3) := by decide +kernel
theorem d6_12 : decode prog_23_method_6_code 12 = .ok (.ldc 31, 2) := by decide +kernel
theorem d6_14 : decode prog_23_method_6_code 14 = .ok (.if_icmp .le 9, 3) := by decide +kernel
theorem d6_17 : decode prog_23_method_6_code 17 = .ok (.ldc 48, 2) := by decide +kernel
theorem d6_19 : decode prog_23_method_6_code 19 = .ok (.astore_n 1, 1) := by decide +kernel
theorem d6_20 : decode prog_23_method_6_code 20 = .ok (.goto 23, 3) := by decide +kernel
theorem d6_23 : decode prog_23_method_6_code 23 = .ok (.aload_n 0, 1) := by decide +kernel
theorem d6_24 : decode prog_23_method_6_code 24 = .ok (.getfield 15, 3) := by decide +kernel
theorem d6_27 : decode prog_23_method_6_code 27 = .ok (.ldc2_w 32, 3) := by decide +kernel
theorem d6_30 : decode prog_23_method_6_code 30 = .ok (.lcmp, 1) := by decide +kernel
theorem d6_31 : decode prog_23_method_6_code 31 = .ok (.ifCond .le 9, 3) := by decide +kernel
theorem d6_34 : decode prog_23_method_6_code 34 = .ok (.ldc 50, 2) := by decide +kernel
theorem d6_36 : decode prog_23_method_6_code 36 = .ok (.astore_n 1, 1) := by decide +kernel
theorem d6_37 : decode prog_23_method_6_code 37 = .ok (.goto 6, 3) := by decide +kernel
theorem d6_40 : decode prog_23_method_6_code 40 = .ok (.ldc 52, 2) := by decide +kernel
theorem d6_42 : decode prog_23_method_6_code 42 = .ok (.astore_n 1, 1) := by decide +kernel
theorem d6_43 : decode prog_23_method_6_code 43 = .ok (.new 54, 3) := by decide +kernel
theorem d6_46 : decode prog_23_method_6_code 46 = .ok (.dup, 1) := by decide +kernel
theorem d6_47 : decode prog_23_method_6_code 47 = .ok (.aload_n 1, 1) := by decide +kernel
theorem d6_48 : decode prog_23_method_6_code 48 = .ok (.invokespecial 56, 3) := by decide +kernel
theorem d6_51 : decode prog_23_method_6_code 51 = .ok (.athrow, 1) := by decide +kernel
theorem pn_6 : plainName "com/example/brocade/brocade/CellReads" = true := by first | (simp [plainName, overriddenIn]; done) | decide +kernel
def Ctx6 (p : Program) (s : State) (m : MethodId) (meth : Method) (c : Code) (Z : State) (a0 : Array Value) : Prop := p.tables.exec = Jvm.exec ∧ Z.Warmed39 s.vm ∧ (∀ d ∈ tables_1, d.before a0 Z = true) ∧ c.code = prog_23_method_6_code ∧ c.maxLocals = 2 ∧ s.vm.findClass "com/example/brocade/brocade/CellReads" = some m.cls ∧ meth.sig.returnType = none ∧ meth.locks = false ∧ meth.name = "refuseOnceSpent"
theorem own_pd0 : parseMethodDescriptor "()Z" = some ⟨[], some .boolean⟩ := by decide +kernel
theorem own_pd1 : parseMethodDescriptor "()V" = some ⟨[], none⟩ := by decide +kernel
theorem own_pd2 : parseMethodDescriptor "(J)V" = some ⟨[.long], none⟩ := by decide +kernel
theorem own_pd3 : parseMethodDescriptor "(JJ)J" = some ⟨[.long, .long], some .long⟩ := by decide +kernel
def Q1 (Z : State) (o : Addr) (h0 : Heap) (n0 : Nat) (v : Option Value) (h : Heap) (L : List Loc) : Prop := v = none ∧ Fr n0 L ∧ h = h0
theorem own_ef_rm1 (m : MethodId) (x0 : Addr) : entryFrame m #[(.ref x0)] 1 = mkF m 0 #[.val (.ref x0)] [] := by first | (simp [entryFrame, mkF, argsToLocals, Value.category]; done) | rfl
set_option maxRecDepth 65536 in
set_option maxHeartbeats 40000000 in
theorem rm1 (l : Launch) (Z : State) (a0 : Array Value) (hw : ∀ d ∈ tables_1, d.before a0 Z = true) (ws : List Jvm.Cond) (o : Addr) (h0 : Heap) (n0 : Nat) (Z0 : n0 ≤ h0.size) :
    MetFree l (⟨"com/example/brocade/brocade/CellReads", "<init>", "()V"⟩ : MethodName) (head1 (Jvm.Cond.code (⟨"com/example/brocade/brocade/CellReads", "<init>", "()V"⟩ : MethodName) prog_23_method_1_code 1 none :: ws) ({ frames := 1, cells := 0, slots := 0, locals := 12 } : Room)) (fun aQ UQ => aQ = #[(.ref o)] ∧ Z.Warmed39 UQ.vm ∧ UQ.heap = h0) (fun _ _ _ _ _ => True) (fun _ UQ oQ UR => ∃ vQ LQ, oQ = .returned vQ ∧ Q1 Z o h0 n0 vQ UR.heap LQ ∧ FrameEnd UQ oQ UR LQ ({ frames := 1, cells := 0, slots := 0, locals := 12 } : Room).cells ({ frames := 1, cells := 0, slots := 0, locals := 12 } : Room).slots) := by
  refine MetFree.of_bodySF (plainFor_of_name pn_1) hisR ?_
  intro p e s m args below meth c s₁ Bd hml0 hP hK
  obtain ⟨rfl, hZ, hh⟩ := hP
  have hx := Bd.exec
  have hby := Bd.bytes
  have hml : c.maxLocals = 1 := hml0
  have hown : s.vm.findClass "com/example/brocade/brocade/CellReads" = some m.cls := findClass_of_methodNamed Bd.named
  have hnm := (name_of_methodNamed Bd.named Bd.method).1
  have hret := Bd.returns
  have hlk : meth.locks = false := Bd.notSynchronized
  have X0 : Stand p l e ({ frames := 1, cells := 0, slots := 0, locals := 12 } : Room) s m #[(.ref o)] below meth c s₁ [] 0 0 := Stand.of_body Bd
  have e0 : s₁.heap = h0 := by rw [← hh, Bd.state]; rfl
  have N0 := Fr.nil n0
  have K : Ctx1 p s m meth c Z a0 := ⟨hx, hZ, hw, hby, hml, hown, hret, hlk, hnm⟩
  show OwnGo p e below s ({ frames := 1, cells := 0, slots := 0, locals := 12 } : Room).cells ({ frames := 1, cells := 0, slots := 0, locals := 12 } : Room).slots (Q1 Z o h0 n0) s₁ (entryFrame m #[(.ref o)] 1)
  refine own_cast (own_ef_rm1 m o) ?_
  show OwnGo p e below s _ _ _ s₁ (mkF m 0 #[.val (.ref o)] [])
  refine own_st (T' := s₁) (g' := (mkF m 1 #[.val (.ref o)] [(.ref o)])) (fun uT uK => ?_) ?_
  · show Steps p.tables e below (s₁.setTop (mkF m 0 #[.val (.ref o)] [])) _
    refine XS.aloadN X0.here hx rfl (hb hby d1_0) rfl rfl ?_
    exact uK
  obtain ⟨T1, X1, e1, st1⟩ := initO X0 hx hZ hown (hw _ (List.mem_of_getElem? (i := 6) rfl)) (hw _ (List.mem_of_getElem? (i := 7) rfl)) (hw _ (List.mem_of_getElem? (i := 8) rfl)) e0 (g := (mkF m 1 #[.val (.ref o)] [(.ref o)])) rfl (by rw [hml]; rfl) rfl (hb hby d1_1) (by decide) (W := 0) (by show 2 * 0 + _ ≤ _; exact Nat.le_of_eq rfl) (by decide)
  refine own_st st1 ?_
  show OwnGo p e below s _ _ _ T1 (mkF m 4 #[.val (.ref o)] [])
  exact own_ret (v := none) X1 hlk (fun _ => rfl) (fun fs hr => X1.returnOut hx hret (hb hby d1_4) hr) (by rw [e1]; exact ⟨rfl, N0, rfl⟩) (by decide) (by decide)
def Q4 (Z : State) (q1 : Int64) (q2 : Int64) (h0 : Heap) (n0 : Nat) (v : Option Value) (h : Heap) (L : List Loc) : Prop := v = some (.long (own_min q1 q2)) ∧ Fr n0 L ∧ h = h0
theorem own_ef_rm4 (m : MethodId) (x0 : Int64) (x1 : Int64) : entryFrame m #[(.long x0), (.long x1)] 4 = mkF m 0 #[.val (.long x0), .second, .val (.long x1), .second] [] := by first | (simp [entryFrame, mkF, argsToLocals, Value.category]; done) | rfl
set_option maxRecDepth 65536 in
set_option maxHeartbeats 40000000 in
theorem rm4 (l : Launch) (Z : State) (a0 : Array Value) (hw : ∀ d ∈ tables_1, d.before a0 Z = true) (ws : List Jvm.Cond) (q1 : Int64) (q2 : Int64) (h0 : Heap) (n0 : Nat) (Z0 : n0 ≤ h0.size) :
    MetFree l (⟨"java/lang/Math", "min", "(JJ)J"⟩ : MethodName) (head1 (Jvm.Cond.code (⟨"java/lang/Math", "min", "(JJ)J"⟩ : MethodName) jdk_29_method_70_code 4 (some .long) :: ws) ({ frames := 0, cells := 0, slots := 0, locals := 0 } : Room)) (fun aQ UQ => aQ = #[(.long q1), (.long q2)] ∧ Z.Warmed39 UQ.vm ∧ UQ.heap = h0) (fun _ _ _ _ _ => True) (fun _ UQ oQ UR => ∃ vQ LQ, oQ = .returned vQ ∧ Q4 Z q1 q2 h0 n0 vQ UR.heap LQ ∧ FrameEnd UQ oQ UR LQ ({ frames := 0, cells := 0, slots := 0, locals := 0 } : Room).cells ({ frames := 0, cells := 0, slots := 0, locals := 0 } : Room).slots) := by
  refine MetFree.of_bodySF (Jvm.Free.JP.mathPlain rfl (by decide +kernel)) hisR ?_
  intro p e s m args below meth c s₁ Bd hml0 hP hK
  obtain ⟨rfl, hZ, hh⟩ := hP
  have hx := Bd.exec
  have hby := Bd.bytes
  have hml : c.maxLocals = 4 := hml0
  have hown : s.vm.findClass "java/lang/Math" = some m.cls := findClass_of_methodNamed Bd.named
  have hnm := (name_of_methodNamed Bd.named Bd.method).1
  have hret := Bd.returns
  have hlk : meth.locks = false := Bd.notSynchronized
  have X0 : Stand p l e ({ frames := 0, cells := 0, slots := 0, locals := 0 } : Room) s m #[(.long q1), (.long q2)] below meth c s₁ [] 0 0 := Stand.of_body Bd
  have e0 : s₁.heap = h0 := by rw [← hh, Bd.state]; rfl
  have N0 := Fr.nil n0
  have K : Ctx4 p s m meth c Z a0 := ⟨hx, hZ, hw, hby, hml, hown, hret, hlk, hnm⟩
  show OwnGo p e below s ({ frames := 0, cells := 0, slots := 0, locals := 0 } : Room).cells ({ frames := 0, cells := 0, slots := 0, locals := 0 } : Room).slots (Q4 Z q1 q2 h0 n0) s₁ (entryFrame m #[(.long q1), (.long q2)] 4)
  refine own_cast (own_ef_rm4 m q1 q2) ?_
  show OwnGo p e below s _ _ _ s₁ (mkF m 0 #[.val (.long q1), .second, .val (.long q2), .second] [])
  refine own_st (T' := s₁) (g' := (mkF m 3 #[.val (.long q1), .second, .val (.long q2), .second] [(.int (XT.cmpL q1 q2))])) (fun uT uK => ?_) ?_
  · show Steps p.tables e below (s₁.setTop (mkF m 0 #[.val (.long q1), .second, .val (.long q2), .second] [])) _
    refine XT.lloadN X0.here hx rfl (hb hby d4_0) rfl ?_
    show Steps p.tables e below (s₁.setTop (mkF m 1 #[.val (.long q1), .second, .val (.long q2), .second] [(.long q1)])) _
    refine XT.lloadN X0.here hx rfl (hb hby d4_1) rfl ?_
    show Steps p.tables e below (s₁.setTop (mkF m 2 #[.val (.long q1), .second, .val (.long q2), .second] [(.long q2), (.long q1)])) _
    refine XT.lcmp X0.here hx rfl (hb hby d4_2) rfl ?_
    exact uK
  by_cases hc3 : q2 < q1
  · refine own_st (T' := s₁) (g' := (mkF m 11 #[.val (.long q1), .second, .val (.long q2), .second] [(.long q2)])) (fun uT uK => ?_) ?_
    · show Steps p.tables e below (s₁.setTop (mkF m 3 #[.val (.long q1), .second, .val (.long q2), .second] [(.int (XT.cmpL q1 q2))])) _
      refine XS.ifYes X0.here hx rfl (pc0 := 3) (pc' := 10) rfl (hb hby d4_3) rfl (XT.ll_gt_t hc3) (by decide) (by decide) ?_
      show Steps p.tables e below (s₁.setTop (mkF m 10 #[.val (.long q1), .second, .val (.long q2), .second] [])) _
      refine XT.lloadN X0.here hx rfl (hb hby d4_10) rfl ?_
      exact uK
    exact own_ret (v := some (.long q2)) X0 hlk (fun h => by rw [hret] at h; cases h) (fun fs hr => retOut X0 hx hret rfl (Or.inr (Or.inl ⟨rfl, rfl, _, rfl⟩)) (hb hby d4_11) hr) (by rw [e0]; exact ⟨by first | rw [own_min, if_pos hc3] | rw [own_min, if_neg hc3], N0, rfl⟩) (by decide) (by decide)
  · refine own_st (T' := s₁) (g' := (mkF m 11 #[.val (.long q1), .second, .val (.long q2), .second] [(.long q1)])) (fun uT uK => ?_) ?_
    · show Steps p.tables e below (s₁.setTop (mkF m 3 #[.val (.long q1), .second, .val (.long q2), .second] [(.int (XT.cmpL q1 q2))])) _
      refine XS.ifNo X0.here hx rfl (hb hby d4_3) rfl (XT.ll_gt_f hc3) ?_
      show Steps p.tables e below (s₁.setTop (mkF m 6 #[.val (.long q1), .second, .val (.long q2), .second] [])) _
      refine XT.lloadN X0.here hx rfl (hb hby d4_6) rfl ?_
      show Steps p.tables e below (s₁.setTop (mkF m 7 #[.val (.long q1), .second, .val (.long q2), .second] [(.long q1)])) _
      refine XS.goto X0.here hx rfl (pc0 := 7) (pc' := 11) rfl (hb hby d4_7) (by decide) (by decide) ?_
      exact uK
    exact own_ret (v := some (.long q1)) X0 hlk (fun h => by rw [hret] at h; cases h) (fun fs hr => retOut X0 hx hret rfl (Or.inr (Or.inl ⟨rfl, rfl, _, rfl⟩)) (hb hby d4_11) hr) (by rw [e0]; exact ⟨by first | rw [own_min, if_pos hc3] | rw [own_min, if_neg hc3], N0, rfl⟩) (by decide) (by decide)
def Q3 (Z : State) (o : Addr) (w : Int64) (h0 : Heap) (n0 : Nat) (v : Option Value) (h : Heap) (L : List Loc) : Prop := v = some (.int (own_sp w)) ∧ Fr n0 L ∧ h = h0
theorem own_ef_rm3 (m : MethodId) (x0 : Addr) : entryFrame m #[(.ref x0)] 1 = mkF m 0 #[.val (.ref x0)] [] := by first | (simp [entryFrame, mkF, argsToLocals, Value.category]; done) | rfl
set_option maxRecDepth 65536 in
set_option maxHeartbeats 40000000 in
theorem rm3 (l : Launch) (Z : State) (a0 : Array Value) (hw : ∀ d ∈ tables_1, d.before a0 Z = true) (ws : List Jvm.Cond) (o : Addr) (w : Int64) (h0 : Heap) (n0 : Nat) (Z0 : n0 ≤ h0.size) (F_c : Fld Z h0 o "com/example/brocade/brocade/CellReads" "cells" "I" (.int (0 : Int32))) (F_b : Fld Z h0 o "com/example/brocade/brocade/CellReads" "bytes" "J" (.long (0 : Int64))) (F_v : Fld Z h0 o "com/example/brocade/brocade/CellReads" "values" "J" (.long w)) :
    MetFree l (⟨"com/example/brocade/brocade/CellReads", "spent", "()Z"⟩ : MethodName) (head1 (Jvm.Cond.code (⟨"com/example/brocade/brocade/CellReads", "spent", "()Z"⟩ : MethodName) prog_23_method_4_code 1 (some .boolean) :: ws) ({ frames := 0, cells := 0, slots := 0, locals := 0 } : Room)) (fun aQ UQ => aQ = #[(.ref o)] ∧ Z.Warmed39 UQ.vm ∧ UQ.heap = h0) (fun _ _ _ _ _ => True) (fun _ UQ oQ UR => ∃ vQ LQ, oQ = .returned vQ ∧ Q3 Z o w h0 n0 vQ UR.heap LQ ∧ FrameEnd UQ oQ UR LQ ({ frames := 0, cells := 0, slots := 0, locals := 0 } : Room).cells ({ frames := 0, cells := 0, slots := 0, locals := 0 } : Room).slots) := by
  refine MetFree.of_bodySF (plainFor_of_name pn_3) hisR ?_
  intro p e s m args below meth c s₁ Bd hml0 hP hK
  obtain ⟨rfl, hZ, hh⟩ := hP
  have hx := Bd.exec
  have hby := Bd.bytes
  have hml : c.maxLocals = 1 := hml0
  have hown : s.vm.findClass "com/example/brocade/brocade/CellReads" = some m.cls := findClass_of_methodNamed Bd.named
  have hnm := (name_of_methodNamed Bd.named Bd.method).1
  have hret := Bd.returns
  have hlk : meth.locks = false := Bd.notSynchronized
  have X0 : Stand p l e ({ frames := 0, cells := 0, slots := 0, locals := 0 } : Room) s m #[(.ref o)] below meth c s₁ [] 0 0 := Stand.of_body Bd
  have e0 : s₁.heap = h0 := by rw [← hh, Bd.state]; rfl
  have N0 := Fr.nil n0
  have K : Ctx3 p s m meth c Z a0 := ⟨hx, hZ, hw, hby, hml, hown, hret, hlk, hnm⟩
  show OwnGo p e below s ({ frames := 0, cells := 0, slots := 0, locals := 0 } : Room).cells ({ frames := 0, cells := 0, slots := 0, locals := 0 } : Room).slots (Q3 Z o w h0 n0) s₁ (entryFrame m #[(.ref o)] 1)
  refine own_cast (own_ef_rm3 m o) ?_
  show OwnGo p e below s _ _ _ s₁ (mkF m 0 #[.val (.ref o)] [])
  refine own_st (T' := s₁) (g' := (mkF m 1 #[.val (.ref o)] [(.ref o)])) (fun uT uK => ?_) ?_
  · show Steps p.tables e below (s₁.setTop (mkF m 0 #[.val (.ref o)] [])) _
    refine XS.aloadN X0.here hx rfl (hb hby d3_0) rfl rfl ?_
    exact uK
  obtain ⟨T1, X1, e1, st1⟩ := getF X0 hx hZ hown (host := "") (Or.inl (hw _ (List.mem_of_getElem? (i := 14) rfl))) Via.refl e0 F_c (g := (mkF m 1 #[.val (.ref o)] [(.ref o)])) rfl rfl (hb hby d3_1)
  refine own_st st1 ?_
  show OwnGo p e below s _ _ _ T1 (mkF m 4 #[.val (.ref o)] [(.int (0 : Int32))])
  refine own_st (T' := T1) (g' := (mkF m 10 #[.val (.ref o)] [(.ref o)])) (fun uT uK => ?_) ?_
  · show Steps p.tables e below (T1.setTop (mkF m 4 #[.val (.ref o)] [(.int (0 : Int32))])) _
    refine X1.ldcInt hx hown (mvT hZ (hw _ (List.mem_of_getElem? (i := 16) rfl))) (g := (mkF m 4 #[.val (.ref o)] [(.int (0 : Int32))])) rfl (hb hby d3_4) _ ?_
    show Steps p.tables e below (T1.setTop (mkF m 6 #[.val (.ref o)] [(.int (524288 : Int32)), (.int (0 : Int32))])) _
    refine XS.icmpNo X1.here hx rfl (hb hby d3_6) rfl (XT.ii_gt_f (by decide)) ?_
    show Steps p.tables e below (T1.setTop (mkF m 9 #[.val (.ref o)] [])) _
    refine XS.aloadN X1.here hx rfl (hb hby d3_9) rfl rfl ?_
    exact uK
  obtain ⟨T2, X2, e2, st2⟩ := getF X1 hx hZ hown (host := "") (Or.inl (hw _ (List.mem_of_getElem? (i := 17) rfl))) Via.refl e1 F_b (g := (mkF m 10 #[.val (.ref o)] [(.ref o)])) rfl rfl (hb hby d3_10)
  refine own_st st2 ?_
  show OwnGo p e below s _ _ _ T2 (mkF m 13 #[.val (.ref o)] [(.long (0 : Int64))])
  refine own_st (T' := T2) (g' := (mkF m 21 #[.val (.ref o)] [(.ref o)])) (fun uT uK => ?_) ?_
  · show Steps p.tables e below (T2.setTop (mkF m 13 #[.val (.ref o)] [(.long (0 : Int64))])) _
    refine X2.ldc2Long hx hown (mvT hZ (hw _ (List.mem_of_getElem? (i := 19) rfl))) (g := (mkF m 13 #[.val (.ref o)] [(.long (0 : Int64))])) rfl (hb hby d3_13) _ ?_
    show Steps p.tables e below (T2.setTop (mkF m 16 #[.val (.ref o)] [(.long (16777216 : Int64)), (.long (0 : Int64))])) _
    refine XT.lcmp X2.here hx rfl (hb hby d3_16) rfl ?_
    show Steps p.tables e below (T2.setTop (mkF m 17 #[.val (.ref o)] [(.int (XT.cmpL (0 : Int64) (16777216 : Int64)))])) _
    refine XS.ifNo X2.here hx rfl (hb hby d3_17) rfl (XT.ll_gt_f (by decide)) ?_
    show Steps p.tables e below (T2.setTop (mkF m 20 #[.val (.ref o)] [])) _
    refine XS.aloadN X2.here hx rfl (hb hby d3_20) rfl rfl ?_
    exact uK
  obtain ⟨T3, X3, e3, st3⟩ := getF X2 hx hZ hown (host := "") (Or.inl (hw _ (List.mem_of_getElem? (i := 20) rfl))) Via.refl e2 F_v (g := (mkF m 21 #[.val (.ref o)] [(.ref o)])) rfl rfl (hb hby d3_21)
  refine own_st st3 ?_
  show OwnGo p e below s _ _ _ T3 (mkF m 24 #[.val (.ref o)] [(.long w)])
  refine own_st (T' := T3) (g' := (mkF m 28 #[.val (.ref o)] [(.int (XT.cmpL w (524288 : Int64)))])) (fun uT uK => ?_) ?_
  · show Steps p.tables e below (T3.setTop (mkF m 24 #[.val (.ref o)] [(.long w)])) _
    refine X3.ldc2Long hx hown (mvT hZ (hw _ (List.mem_of_getElem? (i := 22) rfl))) (g := (mkF m 24 #[.val (.ref o)] [(.long w)])) rfl (hb hby d3_24) _ ?_
    show Steps p.tables e below (T3.setTop (mkF m 27 #[.val (.ref o)] [(.long (524288 : Int64)), (.long w)])) _
    refine XT.lcmp X3.here hx rfl (hb hby d3_27) rfl ?_
    exact uK
  by_cases hc28 : (524288 : Int64) < w
  · refine own_st (T' := T3) (g' := (mkF m 36 #[.val (.ref o)] [(.int (1 : Int32))])) (fun uT uK => ?_) ?_
    · show Steps p.tables e below (T3.setTop (mkF m 28 #[.val (.ref o)] [(.int (XT.cmpL w (524288 : Int64)))])) _
      refine XS.ifNo X3.here hx rfl (hb hby d3_28) rfl (XT.ll_le_f hc28) ?_
      show Steps p.tables e below (T3.setTop (mkF m 31 #[.val (.ref o)] [])) _
      refine XS.iconst X3.here hx rfl (hb hby d3_31) ?_
      show Steps p.tables e below (T3.setTop (mkF m 32 #[.val (.ref o)] [(.int (1 : Int32))])) _
      refine XS.goto X3.here hx rfl (pc0 := 32) (pc' := 36) rfl (hb hby d3_32) (by decide) (by decide) ?_
      exact uK
    exact own_ret (v := some (.int (1 : Int32))) X3 hlk (fun h => by rw [hret] at h; cases h) (fun fs hr => retOut X3 hx hret rfl (Or.inl ⟨rfl, by simp, _, rfl⟩) (hb hby d3_36) hr) (by rw [e3]; exact ⟨by first | rw [own_sp, if_pos hc28] | rw [own_sp, if_neg hc28], N0, rfl⟩) (by decide) (by decide)
  · refine own_st (T' := T3) (g' := (mkF m 36 #[.val (.ref o)] [(.int (0 : Int32))])) (fun uT uK => ?_) ?_
    · show Steps p.tables e below (T3.setTop (mkF m 28 #[.val (.ref o)] [(.int (XT.cmpL w (524288 : Int64)))])) _
      refine XS.ifYes X3.here hx rfl (pc0 := 28) (pc' := 35) rfl (hb hby d3_28) rfl (XT.ll_le_t hc28) (by decide) (by decide) ?_
      show Steps p.tables e below (T3.setTop (mkF m 35 #[.val (.ref o)] [])) _
      refine XS.iconst X3.here hx rfl (hb hby d3_35) ?_
      exact uK
    exact own_ret (v := some (.int (0 : Int32))) X3 hlk (fun h => by rw [hret] at h; cases h) (fun fs hr => retOut X3 hx hret rfl (Or.inl ⟨rfl, by simp, _, rfl⟩) (hb hby d3_36) hr) (by rw [e3]; exact ⟨by first | rw [own_sp, if_pos hc28] | rw [own_sp, if_neg hc28], N0, rfl⟩) (by decide) (by decide)
def Q6 (Z : State) (o : Addr) (w : Int64) (h0 : Heap) (n0 : Nat) (v : Option Value) (h : Heap) (L : List Loc) : Prop := v = none ∧ Fr n0 L ∧ h = h0
theorem own_ef_rm6 (m : MethodId) (x0 : Addr) : entryFrame m #[(.ref x0)] 2 = mkF m 0 #[.val (.ref x0), .unset] [] := by first | (simp [entryFrame, mkF, argsToLocals, Value.category]; done) | rfl
set_option maxRecDepth 65536 in
set_option maxHeartbeats 40000000 in
theorem rm6 (l : Launch) (Z : State) (a0 : Array Value) (hw : ∀ d ∈ tables_1, d.before a0 Z = true) (ws : List Jvm.Cond) (o : Addr) (w : Int64) (h0 : Heap) (n0 : Nat) (Z0 : n0 ≤ h0.size) (E_o : Exa Z h0 o "com/example/brocade/brocade/CellReads") (F_c : Fld Z h0 o "com/example/brocade/brocade/CellReads" "cells" "I" (.int (0 : Int32))) (F_b : Fld Z h0 o "com/example/brocade/brocade/CellReads" "bytes" "J" (.long (0 : Int64))) (F_v : Fld Z h0 o "com/example/brocade/brocade/CellReads" "values" "J" (.long w)) (hv : ¬ (524288 : Int64) < w) :
    MetFree l (⟨"com/example/brocade/brocade/CellReads", "refuseOnceSpent", "()V"⟩ : MethodName) (head1 (Jvm.Cond.code (⟨"com/example/brocade/brocade/CellReads", "refuseOnceSpent", "()V"⟩ : MethodName) prog_23_method_6_code 2 none :: ws) ({ frames := 1, cells := 0, slots := 0, locals := 12 } : Room)) (fun aQ UQ => aQ = #[(.ref o)] ∧ Z.Warmed39 UQ.vm ∧ UQ.heap = h0) (fun _ _ _ _ _ => True) (fun _ UQ oQ UR => ∃ vQ LQ, oQ = .returned vQ ∧ Q6 Z o w h0 n0 vQ UR.heap LQ ∧ FrameEnd UQ oQ UR LQ ({ frames := 1, cells := 0, slots := 0, locals := 12 } : Room).cells ({ frames := 1, cells := 0, slots := 0, locals := 12 } : Room).slots) := by
  refine MetFree.of_bodySF (plainFor_of_name pn_6) hisR ?_
  intro p e s m args below meth c s₁ Bd hml0 hP hK
  obtain ⟨rfl, hZ, hh⟩ := hP
  have hx := Bd.exec
  have hby := Bd.bytes
  have hml : c.maxLocals = 2 := hml0
  have hown : s.vm.findClass "com/example/brocade/brocade/CellReads" = some m.cls := findClass_of_methodNamed Bd.named
  have hnm := (name_of_methodNamed Bd.named Bd.method).1
  have hret := Bd.returns
  have hlk : meth.locks = false := Bd.notSynchronized
  have X0 : Stand p l e ({ frames := 1, cells := 0, slots := 0, locals := 12 } : Room) s m #[(.ref o)] below meth c s₁ [] 0 0 := Stand.of_body Bd
  have e0 : s₁.heap = h0 := by rw [← hh, Bd.state]; rfl
  have N0 := Fr.nil n0
  have K : Ctx6 p s m meth c Z a0 := ⟨hx, hZ, hw, hby, hml, hown, hret, hlk, hnm⟩
  show OwnGo p e below s ({ frames := 1, cells := 0, slots := 0, locals := 12 } : Room).cells ({ frames := 1, cells := 0, slots := 0, locals := 12 } : Room).slots (Q6 Z o w h0 n0) s₁ (entryFrame m #[(.ref o)] 2)
  refine own_cast (own_ef_rm6 m o) ?_
  show OwnGo p e below s _ _ _ s₁ (mkF m 0 #[.val (.ref o), .unset] [])
  refine own_st (T' := s₁) (g' := (mkF m 1 #[.val (.ref o), .unset] [(.ref o)])) (fun uT uK => ?_) ?_
  · show Steps p.tables e below (s₁.setTop (mkF m 0 #[.val (.ref o), .unset] [])) _
    refine XS.aloadN X0.here hx rfl (hb hby d6_0) rfl rfl ?_
    exact uK
  obtain ⟨cq1, kq1, qa1, qb1, qc1⟩ := isOf hZ e0 (E_o)
  obtain ⟨_, _, ⟨T1, L1, k1, n1⟩, -, X1, ⟨Lc1, hQ1, l1, y1, z1⟩, st1⟩ := X0.virtualBack hx (y := (⟨"com/example/brocade/brocade/CellReads", "spent", "()Z"⟩ : MethodName)) (z := (⟨"com/example/brocade/brocade/CellReads", "spent", "()Z"⟩ : MethodName)) hown (mvT hZ (hw _ (List.mem_of_getElem? (i := 37) rfl))) (mvT hZ (hw _ (List.mem_of_getElem? (i := 10) rfl))) (notFace_of_selects (args := #[]) (mvT hZ (hw _ (List.mem_of_getElem? (i := 12) rfl)))) (mvT hZ (hw _ (List.mem_of_getElem? (i := 12) rfl))) (mvT hZ (hw _ (List.mem_of_getElem? (i := 11) rfl))) (by decide) (backOf (W := 0) (rm3 l Z a0 hw [] o w h0 n0 Z0 F_c F_b F_v) hZ (hw _ (List.mem_of_getElem? (i := 13) rfl)) (hw _ (List.mem_of_getElem? (i := 2) rfl)) (by decide) (by decide)) qa1 qc1 (g := (mkF m 1 #[.val (.ref o), .unset] [(.ref o)])) rfl (by rw [hml]; rfl) (Steps.refl _) (argsL := []) (rest := []) (lenOf own_pd0 rfl) rfl (by show 2 * 0 + _ ≤ _; exact Nat.le_of_eq rfl) (hb hby d6_1) (fun _ _ => ⟨rfl, e0, (by decide : 0 + 0 ≤ _), (by decide : 0 + 0 ≤ _)⟩)
  dsimp only [Pt.U, Pt.locs, Pt.cells, Pt.slots] at X1 l1 y1 z1 st1 hQ1
  subst l1 y1 z1
  obtain ⟨rfl, Nq1, e1⟩ := hQ1
  have N1 := Fr.app N0 Nq1
  refine own_tr st1 ?_
  show OwnGo p e below s _ _ _ T1 (mkF m 4 #[.val (.ref o), .unset] [(.int (own_sp w))])
  refine own_st (T' := T1) (g' := (mkF m 7 #[.val (.ref o), .unset] [])) (fun uT uK => ?_) ?_
  · show Steps p.tables e below (T1.setTop (mkF m 4 #[.val (.ref o), .unset] [(.int (own_sp w))])) _
    refine XS.ifNo X1.here hx rfl (hb hby d6_4) rfl (XT.i0_ne_f (own_sp0 hv)) ?_
    exact uK
  exact own_ret (v := none) X1 hlk (fun _ => rfl) (fun fs hr => X1.returnOut hx hret (hb hby d6_7) hr) (by rw [e1]; exact ⟨rfl, N1, rfl⟩) (by decide) (by decide)
def Q5 (Z : State) (o : Addr) (w : Int64) (q : Int64) (h0 : Heap) (n0 : Nat) (v : Option Value) (h : Heap) (L : List Loc) : Prop := v = none ∧ Fr n0 L ∧ Keep h0 h [o] ∧ Exa Z h o "com/example/brocade/brocade/CellReads" ∧ Fld Z h o "com/example/brocade/brocade/CellReads" "cells" "I" (.int (0 : Int32)) ∧ Fld Z h o "com/example/brocade/brocade/CellReads" "bytes" "J" (.long (0 : Int64)) ∧ Fld Z h o "com/example/brocade/brocade/CellReads" "values" "J" (.long (w + q))
theorem own_ef_rm5 (m : MethodId) (x0 : Addr) (x1 : Int64) : entryFrame m #[(.ref x0), (.long x1)] 3 = mkF m 0 #[.val (.ref x0), .val (.long x1), .second] [] := by first | (simp [entryFrame, mkF, argsToLocals, Value.category]; done) | rfl
set_option maxRecDepth 65536 in
set_option maxHeartbeats 40000000 in
theorem rm5 (l : Launch) (Z : State) (a0 : Array Value) (hw : ∀ d ∈ tables_1, d.before a0 Z = true) (ws : List Jvm.Cond) (o : Addr) (w : Int64) (q : Int64) (h0 : Heap) (n0 : Nat) (Z0 : n0 ≤ h0.size) (E_o : Exa Z h0 o "com/example/brocade/brocade/CellReads") (F_c : Fld Z h0 o "com/example/brocade/brocade/CellReads" "cells" "I" (.int (0 : Int32))) (F_b : Fld Z h0 o "com/example/brocade/brocade/CellReads" "bytes" "J" (.long (0 : Int64))) (F_v : Fld Z h0 o "com/example/brocade/brocade/CellReads" "values" "J" (.long w)) (g_o : n0 ≤ o) (hv : ¬ (524288 : Int64) < w + q) :
    MetFree l (⟨"com/example/brocade/brocade/CellReads", "countValues", "(J)V"⟩ : MethodName) (head1 (Jvm.Cond.code (⟨"com/example/brocade/brocade/CellReads", "countValues", "(J)V"⟩ : MethodName) prog_23_method_3_code 3 none :: ws) ({ frames := 2, cells := 0, slots := 0, locals := 25 } : Room)) (fun aQ UQ => aQ = #[(.ref o), (.long q)] ∧ Z.Warmed39 UQ.vm ∧ UQ.heap = h0) (fun _ _ _ _ _ => True) (fun _ UQ oQ UR => ∃ vQ LQ, oQ = .returned vQ ∧ Q5 Z o w q h0 n0 vQ UR.heap LQ ∧ FrameEnd UQ oQ UR LQ ({ frames := 2, cells := 0, slots := 0, locals := 25 } : Room).cells ({ frames := 2, cells := 0, slots := 0, locals := 25 } : Room).slots) := by
  refine MetFree.of_bodySF (plainFor_of_name pn_5) hisR ?_
  intro p e s m args below meth c s₁ Bd hml0 hP hK
  obtain ⟨rfl, hZ, hh⟩ := hP
  have hx := Bd.exec
  have hby := Bd.bytes
  have hml : c.maxLocals = 3 := hml0
  have hown : s.vm.findClass "com/example/brocade/brocade/CellReads" = some m.cls := findClass_of_methodNamed Bd.named
  have hnm := (name_of_methodNamed Bd.named Bd.method).1
  have hret := Bd.returns
  have hlk : meth.locks = false := Bd.notSynchronized
  have X0 : Stand p l e ({ frames := 2, cells := 0, slots := 0, locals := 25 } : Room) s m #[(.ref o), (.long q)] below meth c s₁ [] 0 0 := Stand.of_body Bd
  have e0 : s₁.heap = h0 := by rw [← hh, Bd.state]; rfl
  have N0 := Fr.nil n0
  have K : Ctx5 p s m meth c Z a0 := ⟨hx, hZ, hw, hby, hml, hown, hret, hlk, hnm⟩
  show OwnGo p e below s ({ frames := 2, cells := 0, slots := 0, locals := 25 } : Room).cells ({ frames := 2, cells := 0, slots := 0, locals := 25 } : Room).slots (Q5 Z o w q h0 n0) s₁ (entryFrame m #[(.ref o), (.long q)] 3)
  refine own_cast (own_ef_rm5 m o q) ?_
  show OwnGo p e below s _ _ _ s₁ (mkF m 0 #[.val (.ref o), .val (.long q), .second] [])
  refine own_st (T' := s₁) (g' := (mkF m 2 #[.val (.ref o), .val (.long q), .second] [(.ref o), (.ref o)])) (fun uT uK => ?_) ?_
  · show Steps p.tables e below (s₁.setTop (mkF m 0 #[.val (.ref o), .val (.long q), .second] [])) _
    refine XS.aloadN X0.here hx rfl (hb hby d5_0) rfl rfl ?_
    show Steps p.tables e below (s₁.setTop (mkF m 1 #[.val (.ref o), .val (.long q), .second] [(.ref o)])) _
    refine XS.dup X0.here hx rfl (hb hby d5_1) rfl rfl ?_
    exact uK
  obtain ⟨T1, X1, e1, st1⟩ := getF X0 hx hZ hown (host := "") (Or.inl (hw _ (List.mem_of_getElem? (i := 20) rfl))) Via.refl e0 F_v (g := (mkF m 2 #[.val (.ref o), .val (.long q), .second] [(.ref o), (.ref o)])) rfl rfl (hb hby d5_2)
  refine own_st st1 ?_
  show OwnGo p e below s _ _ _ T1 (mkF m 5 #[.val (.ref o), .val (.long q), .second] [(.long w), (.ref o)])
  refine own_st (T' := T1) (g' := (mkF m 7 #[.val (.ref o), .val (.long q), .second] [(.long (w + q)), (.ref o)])) (fun uT uK => ?_) ?_
  · show Steps p.tables e below (T1.setTop (mkF m 5 #[.val (.ref o), .val (.long q), .second] [(.long w), (.ref o)])) _
    refine XT.lloadN X1.here hx rfl (hb hby d5_5) rfl ?_
    show Steps p.tables e below (T1.setTop (mkF m 6 #[.val (.ref o), .val (.long q), .second] [(.long q), (.long w), (.ref o)])) _
    refine XT.ladd X1.here hx rfl (hb hby d5_6) rfl ?_
    exact uK
  obtain ⟨T2, h2, X2, e2, W2, st2⟩ := putF X1 hx hZ hown (host := "") (Or.inl (hw _ (List.mem_of_getElem? (i := 20) rfl))) Via.refl e1 F_v E_o (Or.inl (hw _ (List.mem_of_getElem? (i := 21) rfl))) (hw _ (List.mem_of_getElem? (i := 1) rfl)) (ty := .long) (by decide) rfl rfl (g := (mkF m 7 #[.val (.ref o), .val (.long q), .second] [(.long (w + q)), (.ref o)])) rfl rfl (hb hby d5_7)
  have E2_o := (E_o).wr W2
  have F2_cells_o := (F_c).other W2 (Or.inr (slot_ne (Or.inl (hw _ (List.mem_of_getElem? (i := 15) rfl))) (Or.inl (hw _ (List.mem_of_getElem? (i := 21) rfl))) (by decide) (t := .int) (t' := .long) (by decide) (by decide)))
  have F2_bytes_o := (F_b).other W2 (Or.inr (slot_ne (Or.inl (hw _ (List.mem_of_getElem? (i := 18) rfl))) (Or.inl (hw _ (List.mem_of_getElem? (i := 21) rfl))) (by decide) (t := .long) (t' := .long) (by decide) (by decide)))
  have F2_values_o := (F_v).same W2
  have K2 := (Keep.refl h0 [o]).wr W2 (Or.inl (List.mem_of_getElem? (i := 0) rfl))
  have N2 := Fr.snoc X2 N0 g_o
  have Z2 : n0 ≤ h2.size := Nat.le_trans Z0 (Keep.of_wr W2).1
  refine own_st st2 ?_
  show OwnGo p e below s _ _ _ T2 (mkF m 10 #[.val (.ref o), .val (.long q), .second] [])
  refine own_st (T' := T2) (g' := (mkF m 11 #[.val (.ref o), .val (.long q), .second] [(.ref o)])) (fun uT uK => ?_) ?_
  · show Steps p.tables e below (T2.setTop (mkF m 10 #[.val (.ref o), .val (.long q), .second] [])) _
    refine XS.aloadN X2.here hx rfl (hb hby d5_10) rfl rfl ?_
    exact uK
  obtain ⟨cq3, qa3, qb3⟩ := (E2_o).cell
  obtain ⟨_, _, ⟨T3, L3, k3, n3⟩, -, X3, ⟨Lc3, hQ3, l3, y3, z3⟩, st3⟩ := X2.privateBack hx (y := (⟨"com/example/brocade/brocade/CellReads", "refuseOnceSpent", "()V"⟩ : MethodName)) hown (mvT hZ (hw _ (List.mem_of_getElem? (i := 33) rfl))) (mvT hZ (hw _ (List.mem_of_getElem? (i := 34) rfl))) (own_selp (z := (⟨"com/example/brocade/brocade/CellReads", "spent", "()Z"⟩ : MethodName)) (mvT hZ (hw _ (List.mem_of_getElem? (i := 12) rfl))) rfl (mvP hZ (hw _ (List.mem_of_getElem? (i := 35) rfl))) (mvT hZ (hw _ (List.mem_of_getElem? (i := 34) rfl))) (by decide)) (Cond.privateMethod_at (mvP hZ (hw _ (List.mem_of_getElem? (i := 35) rfl)) (args := #[]))) (mvT hZ (hw _ (List.mem_of_getElem? (i := 36) rfl))) (by decide) (backOf (W := 0) (rm6 l Z a0 hw [] o (w + q) h2 n0 Z2 E2_o F2_cells_o F2_bytes_o F2_values_o hv) hZ (hw _ (List.mem_of_getElem? (i := 36) rfl)) (hw _ (List.mem_of_getElem? (i := 2) rfl)) (by decide) (by decide)) (g := (mkF m 11 #[.val (.ref o), .val (.long q), .second] [(.ref o)])) rfl (by rw [hml]; rfl) (Steps.refl _) (a := o) (by rw [e2]; exact qa3) qb3 (argsL := []) (rest := []) (lenOf own_pd1 rfl) rfl (by show 2 * 0 + _ ≤ _; exact Nat.le_of_eq rfl) (hb hby d5_11) (fun _ _ => ⟨rfl, e2, (by decide : 0 + 0 ≤ _), (by decide : 0 + 0 ≤ _)⟩)
  dsimp only [Pt.U, Pt.locs, Pt.cells, Pt.slots] at X3 l3 y3 z3 st3 hQ3
  subst l3 y3 z3
  obtain ⟨rfl, Nq3, e3⟩ := hQ3
  have N3 := Fr.app N2 Nq3
  refine own_tr st3 ?_
  show OwnGo p e below s _ _ _ T3 (mkF m 14 #[.val (.ref o), .val (.long q), .second] [])
  exact own_ret (v := none) X3 hlk (fun _ => rfl) (fun fs hr => X3.returnOut hx hret (hb hby d5_14) hr) (by rw [e3]; exact ⟨rfl, N3, K2, E2_o, F2_cells_o, F2_bytes_o, F2_values_o⟩) (by decide) (by decide)
def Q0 (Z : State) (q1 : Int64) (q2 : Int64) (p3 : Int32) (h0 : Heap) (n0 : Nat) (v : Option Value) (h : Heap) (L : List Loc) : Prop := v = some (.int 1) ∧ Fr n0 L
set_option maxRecDepth 65536 in
set_option maxHeartbeats 40000000 in
theorem own_t53 {p : Program} {l : Launch} {e : Env} {s : State} {m : MethodId} {args : Array Value} {below : List Frame} {meth : Method} {c : Code} {T : State} {locs : List Loc} {Z : State} {a0 : Array Value} {h : Heap} {n0 : Nat} (q1 q2 y : Int64) (p3 : Int32) (o : Addr) (h0 : Heap) (hy : ¬ (524288 : Int64) < (own_min q1 (524288 : Int64)) + y)
    (K : Ctx0 p s m meth c Z a0) (X : Stand p l e room_1 s m args below meth c T locs 1 3) (eT : T.heap = h) (N : Fr n0 locs) (Z0 : n0 ≤ h.size) (E_o : Exa Z h o "com/example/brocade/brocade/CellReads") (F_c : Fld Z h o "com/example/brocade/brocade/CellReads" "cells" "I" (.int (0 : Int32))) (F_b : Fld Z h o "com/example/brocade/brocade/CellReads" "bytes" "J" (.long (0 : Int64))) (F_v : Fld Z h o "com/example/brocade/brocade/CellReads" "values" "J" (.long (0 : Int64))) (g_o : n0 ≤ o) :
    OwnGo p e below s room_1.cells room_1.slots (Q0 Z q1 q2 p3 h0 n0) T (mkF m 53 #[.val (.long q1), .second, .val (.long q2), .second, .val (.int p3), .val (.ref o), .val (.int (own_sp (0 : Int64))), .val (.long (own_min q1 (524288 : Int64))), .second, .unset, .unset, .unset, .unset] [(.long y)]) := by
  obtain ⟨hx, hZ, hw, hby, hml, hown, hret, hlk, hnm⟩ := id K
  refine own_st (T' := T) (g' := (mkF m 59 #[.val (.long q1), .second, .val (.long q2), .second, .val (.int p3), .val (.ref o), .val (.int (own_sp (0 : Int64))), .val (.long (own_min q1 (524288 : Int64))), .second, .val (.long y), .second, .unset, .unset] [(.long (own_min q1 (524288 : Int64))), (.ref o)])) (fun uT uK => ?_) ?_
  · show Steps p.tables e below (T.setTop (mkF m 53 #[.val (.long q1), .second, .val (.long q2), .second, .val (.int p3), .val (.ref o), .val (.int (own_sp (0 : Int64))), .val (.long (own_min q1 (524288 : Int64))), .second, .unset, .unset, .unset, .unset] [(.long y)])) _
    refine XT.lstore X.here hx rfl (hb hby at_53) rfl (l' := #[.val (.long q1), .second, .val (.long q2), .second, .val (.int p3), .val (.ref o), .val (.int (own_sp (0 : Int64))), .val (.long (own_min q1 (524288 : Int64))), .second, .val (.long y), .second, .unset, .unset]) rfl ?_
    show Steps p.tables e below (T.setTop (mkF m 55 #[.val (.long q1), .second, .val (.long q2), .second, .val (.int p3), .val (.ref o), .val (.int (own_sp (0 : Int64))), .val (.long (own_min q1 (524288 : Int64))), .second, .val (.long y), .second, .unset, .unset] [])) _
    refine XS.aload X.here hx rfl (hb hby at_55) rfl rfl ?_
    show Steps p.tables e below (T.setTop (mkF m 57 #[.val (.long q1), .second, .val (.long q2), .second, .val (.int p3), .val (.ref o), .val (.int (own_sp (0 : Int64))), .val (.long (own_min q1 (524288 : Int64))), .second, .val (.long y), .second, .unset, .unset] [(.ref o)])) _
    refine XT.lload X.here hx rfl (hb hby at_57) rfl ?_
    exact uK
  obtain ⟨cq1, kq1, qa1, qb1, qc1⟩ := isOf hZ eT (E_o)
  obtain ⟨_, _, ⟨T1, L1, k1, n1⟩, -, X1, ⟨Lc1, hQ1, l1, y1, z1⟩, st1⟩ := X.virtualBack hx (y := (⟨"com/example/brocade/brocade/CellReads", "countValues", "(J)V"⟩ : MethodName)) (z := (⟨"com/example/brocade/brocade/CellReads", "countValues", "(J)V"⟩ : MethodName)) hown (mvT hZ (hw _ (List.mem_of_getElem? (i := 28) rfl))) (mvT hZ (hw _ (List.mem_of_getElem? (i := 29) rfl))) (notFace_of_selects (args := #[]) (mvT hZ (hw _ (List.mem_of_getElem? (i := 31) rfl)))) (mvT hZ (hw _ (List.mem_of_getElem? (i := 31) rfl))) (mvT hZ (hw _ (List.mem_of_getElem? (i := 30) rfl))) (by decide) (backOf (W := 0) (rm5 l Z a0 hw [] o (0 : Int64) (own_min q1 (524288 : Int64)) h n0 Z0 E_o F_c F_b F_v g_o (own_z1 (own_minle q1 524288))) hZ (hw _ (List.mem_of_getElem? (i := 32) rfl)) (hw _ (List.mem_of_getElem? (i := 2) rfl)) (by decide) (by decide)) qa1 qc1 (g := (mkF m 59 #[.val (.long q1), .second, .val (.long q2), .second, .val (.int p3), .val (.ref o), .val (.int (own_sp (0 : Int64))), .val (.long (own_min q1 (524288 : Int64))), .second, .val (.long y), .second, .unset, .unset] [(.long (own_min q1 (524288 : Int64))), (.ref o)])) rfl (by rw [hml]; rfl) (Steps.refl _) (argsL := [(.long (own_min q1 (524288 : Int64)))]) (rest := []) (lenOf own_pd2 rfl) rfl (by show 2 * 0 + _ ≤ _; exact Nat.le_of_eq rfl) (hb hby at_59) (fun _ _ => ⟨rfl, eT, (by decide : 1 + 0 ≤ _), (by decide : 3 + 0 ≤ _)⟩)
  dsimp only [Pt.U, Pt.locs, Pt.cells, Pt.slots] at X1 l1 y1 z1 st1 hQ1
  subst l1 y1 z1
  obtain ⟨rfl, Nq1, Kc1, Ec1, Fc1, Fb1, Fv1⟩ := hQ1
  have N1 := Fr.app N Nq1
  refine own_tr st1 ?_
  show OwnGo p e below s _ _ _ T1 (mkF m 62 #[.val (.long q1), .second, .val (.long q2), .second, .val (.int p3), .val (.ref o), .val (.int (own_sp (0 : Int64))), .val (.long (own_min q1 (524288 : Int64))), .second, .val (.long y), .second, .unset, .unset] [])
  have Z1 : n0 ≤ T1.heap.size := Nat.le_trans Z0 Kc1.1
  refine own_st (T' := T1) (g' := (mkF m 64 #[.val (.long q1), .second, .val (.long q2), .second, .val (.int p3), .val (.ref o), .val (.int (own_sp (0 : Int64))), .val (.long (own_min q1 (524288 : Int64))), .second, .val (.long y), .second, .unset, .unset] [(.ref o)])) (fun uT uK => ?_) ?_
  · show Steps p.tables e below (T1.setTop (mkF m 62 #[.val (.long q1), .second, .val (.long q2), .second, .val (.int p3), .val (.ref o), .val (.int (own_sp (0 : Int64))), .val (.long (own_min q1 (524288 : Int64))), .second, .val (.long y), .second, .unset, .unset] [])) _
    refine XS.aload X1.here hx rfl (hb hby at_62) rfl rfl ?_
    exact uK
  obtain ⟨cq2, kq2, qa2, qb2, qc2⟩ := isOf hZ rfl (Ec1)
  obtain ⟨_, _, ⟨T2, L2, k2, n2⟩, -, X2, ⟨Lc2, hQ2, l2, y2, z2⟩, st2⟩ := X1.virtualBack hx (y := (⟨"com/example/brocade/brocade/CellReads", "spent", "()Z"⟩ : MethodName)) (z := (⟨"com/example/brocade/brocade/CellReads", "spent", "()Z"⟩ : MethodName)) hown (mvT hZ (hw _ (List.mem_of_getElem? (i := 9) rfl))) (mvT hZ (hw _ (List.mem_of_getElem? (i := 10) rfl))) (notFace_of_selects (args := #[]) (mvT hZ (hw _ (List.mem_of_getElem? (i := 12) rfl)))) (mvT hZ (hw _ (List.mem_of_getElem? (i := 12) rfl))) (mvT hZ (hw _ (List.mem_of_getElem? (i := 11) rfl))) (by decide) (backOf (W := 0) (rm3 l Z a0 hw [] o ((0 : Int64) + (own_min q1 (524288 : Int64))) T1.heap n0 Z1 Fc1 Fb1 Fv1) hZ (hw _ (List.mem_of_getElem? (i := 13) rfl)) (hw _ (List.mem_of_getElem? (i := 2) rfl)) (by decide) (by decide)) qa2 qc2 (g := (mkF m 64 #[.val (.long q1), .second, .val (.long q2), .second, .val (.int p3), .val (.ref o), .val (.int (own_sp (0 : Int64))), .val (.long (own_min q1 (524288 : Int64))), .second, .val (.long y), .second, .unset, .unset] [(.ref o)])) rfl (by rw [hml]; rfl) (Steps.refl _) (argsL := []) (rest := []) (lenOf own_pd0 rfl) rfl (by show 2 * 0 + _ ≤ _; exact Nat.le_of_eq rfl) (hb hby at_64) (fun _ _ => ⟨rfl, rfl, (by decide : 1 + 0 ≤ _), (by decide : 3 + 0 ≤ _)⟩)
  dsimp only [Pt.U, Pt.locs, Pt.cells, Pt.slots] at X2 l2 y2 z2 st2 hQ2
  subst l2 y2 z2
  obtain ⟨rfl, Nq2, e2⟩ := hQ2
  have N2 := Fr.app N1 Nq2
  refine own_tr st2 ?_
  show OwnGo p e below s _ _ _ T2 (mkF m 67 #[.val (.long q1), .second, .val (.long q2), .second, .val (.int p3), .val (.ref o), .val (.int (own_sp (0 : Int64))), .val (.long (own_min q1 (524288 : Int64))), .second, .val (.long y), .second, .unset, .unset] [(.int (own_sp ((0 : Int64) + (own_min q1 (524288 : Int64)))))])
  refine own_st (T' := T2) (g' := (mkF m 73 #[.val (.long q1), .second, .val (.long q2), .second, .val (.int p3), .val (.ref o), .val (.int (own_sp (0 : Int64))), .val (.long (own_min q1 (524288 : Int64))), .second, .val (.long y), .second, .val (.int (own_sp ((0 : Int64) + (own_min q1 (524288 : Int64))))), .unset] [(.long y), (.ref o)])) (fun uT uK => ?_) ?_
  · show Steps p.tables e below (T2.setTop (mkF m 67 #[.val (.long q1), .second, .val (.long q2), .second, .val (.int p3), .val (.ref o), .val (.int (own_sp (0 : Int64))), .val (.long (own_min q1 (524288 : Int64))), .second, .val (.long y), .second, .unset, .unset] [(.int (own_sp ((0 : Int64) + (own_min q1 (524288 : Int64)))))])) _
    refine XS.istore X2.here hx rfl (hb hby at_67) rfl (l' := #[.val (.long q1), .second, .val (.long q2), .second, .val (.int p3), .val (.ref o), .val (.int (own_sp (0 : Int64))), .val (.long (own_min q1 (524288 : Int64))), .second, .val (.long y), .second, .val (.int (own_sp ((0 : Int64) + (own_min q1 (524288 : Int64))))), .unset]) rfl ?_
    show Steps p.tables e below (T2.setTop (mkF m 69 #[.val (.long q1), .second, .val (.long q2), .second, .val (.int p3), .val (.ref o), .val (.int (own_sp (0 : Int64))), .val (.long (own_min q1 (524288 : Int64))), .second, .val (.long y), .second, .val (.int (own_sp ((0 : Int64) + (own_min q1 (524288 : Int64))))), .unset] [])) _
    refine XS.aload X2.here hx rfl (hb hby at_69) rfl rfl ?_
    show Steps p.tables e below (T2.setTop (mkF m 71 #[.val (.long q1), .second, .val (.long q2), .second, .val (.int p3), .val (.ref o), .val (.int (own_sp (0 : Int64))), .val (.long (own_min q1 (524288 : Int64))), .second, .val (.long y), .second, .val (.int (own_sp ((0 : Int64) + (own_min q1 (524288 : Int64))))), .unset] [(.ref o)])) _
    refine XT.lload X2.here hx rfl (hb hby at_71) rfl ?_
    exact uK
  obtain ⟨cq3, kq3, qa3, qb3, qc3⟩ := isOf hZ e2 (Ec1)
  obtain ⟨_, _, ⟨T3, L3, k3, n3⟩, -, X3, ⟨Lc3, hQ3, l3, y3, z3⟩, st3⟩ := X2.virtualBack hx (y := (⟨"com/example/brocade/brocade/CellReads", "countValues", "(J)V"⟩ : MethodName)) (z := (⟨"com/example/brocade/brocade/CellReads", "countValues", "(J)V"⟩ : MethodName)) hown (mvT hZ (hw _ (List.mem_of_getElem? (i := 28) rfl))) (mvT hZ (hw _ (List.mem_of_getElem? (i := 29) rfl))) (notFace_of_selects (args := #[]) (mvT hZ (hw _ (List.mem_of_getElem? (i := 31) rfl)))) (mvT hZ (hw _ (List.mem_of_getElem? (i := 31) rfl))) (mvT hZ (hw _ (List.mem_of_getElem? (i := 30) rfl))) (by decide) (backOf (W := 0) (rm5 l Z a0 hw [] o ((0 : Int64) + (own_min q1 (524288 : Int64))) y T1.heap n0 Z1 Ec1 Fc1 Fb1 Fv1 g_o (own_z2 hy)) hZ (hw _ (List.mem_of_getElem? (i := 32) rfl)) (hw _ (List.mem_of_getElem? (i := 2) rfl)) (by decide) (by decide)) qa3 qc3 (g := (mkF m 73 #[.val (.long q1), .second, .val (.long q2), .second, .val (.int p3), .val (.ref o), .val (.int (own_sp (0 : Int64))), .val (.long (own_min q1 (524288 : Int64))), .second, .val (.long y), .second, .val (.int (own_sp ((0 : Int64) + (own_min q1 (524288 : Int64))))), .unset] [(.long y), (.ref o)])) rfl (by rw [hml]; rfl) (Steps.refl _) (argsL := [(.long y)]) (rest := []) (lenOf own_pd2 rfl) rfl (by show 2 * 0 + _ ≤ _; exact Nat.le_of_eq rfl) (hb hby at_73) (fun _ _ => ⟨rfl, e2, (by decide : 1 + 0 ≤ _), (by decide : 3 + 0 ≤ _)⟩)
  dsimp only [Pt.U, Pt.locs, Pt.cells, Pt.slots] at X3 l3 y3 z3 st3 hQ3
  subst l3 y3 z3
  obtain ⟨rfl, Nq3, Kc3, Ec3, Fc3, Fb3, Fv3⟩ := hQ3
  have N3 := Fr.app N2 Nq3
  refine own_tr st3 ?_
  show OwnGo p e below s _ _ _ T3 (mkF m 76 #[.val (.long q1), .second, .val (.long q2), .second, .val (.int p3), .val (.ref o), .val (.int (own_sp (0 : Int64))), .val (.long (own_min q1 (524288 : Int64))), .second, .val (.long y), .second, .val (.int (own_sp ((0 : Int64) + (own_min q1 (524288 : Int64))))), .unset] [])
  have Z3 : n0 ≤ T3.heap.size := Nat.le_trans Z1 Kc3.1
  refine own_st (T' := T3) (g' := (mkF m 78 #[.val (.long q1), .second, .val (.long q2), .second, .val (.int p3), .val (.ref o), .val (.int (own_sp (0 : Int64))), .val (.long (own_min q1 (524288 : Int64))), .second, .val (.long y), .second, .val (.int (own_sp ((0 : Int64) + (own_min q1 (524288 : Int64))))), .unset] [(.ref o)])) (fun uT uK => ?_) ?_
  · show Steps p.tables e below (T3.setTop (mkF m 76 #[.val (.long q1), .second, .val (.long q2), .second, .val (.int p3), .val (.ref o), .val (.int (own_sp (0 : Int64))), .val (.long (own_min q1 (524288 : Int64))), .second, .val (.long y), .second, .val (.int (own_sp ((0 : Int64) + (own_min q1 (524288 : Int64))))), .unset] [])) _
    refine XS.aload X3.here hx rfl (hb hby at_76) rfl rfl ?_
    exact uK
  obtain ⟨cq4, kq4, qa4, qb4, qc4⟩ := isOf hZ rfl (Ec3)
  obtain ⟨_, _, ⟨T4, L4, k4, n4⟩, -, X4, ⟨Lc4, hQ4, l4, y4, z4⟩, st4⟩ := X3.virtualBack hx (y := (⟨"com/example/brocade/brocade/CellReads", "spent", "()Z"⟩ : MethodName)) (z := (⟨"com/example/brocade/brocade/CellReads", "spent", "()Z"⟩ : MethodName)) hown (mvT hZ (hw _ (List.mem_of_getElem? (i := 9) rfl))) (mvT hZ (hw _ (List.mem_of_getElem? (i := 10) rfl))) (notFace_of_selects (args := #[]) (mvT hZ (hw _ (List.mem_of_getElem? (i := 12) rfl)))) (mvT hZ (hw _ (List.mem_of_getElem? (i := 12) rfl))) (mvT hZ (hw _ (List.mem_of_getElem? (i := 11) rfl))) (by decide) (backOf (W := 0) (rm3 l Z a0 hw [] o (((0 : Int64) + (own_min q1 (524288 : Int64))) + y) T3.heap n0 Z3 Fc3 Fb3 Fv3) hZ (hw _ (List.mem_of_getElem? (i := 13) rfl)) (hw _ (List.mem_of_getElem? (i := 2) rfl)) (by decide) (by decide)) qa4 qc4 (g := (mkF m 78 #[.val (.long q1), .second, .val (.long q2), .second, .val (.int p3), .val (.ref o), .val (.int (own_sp (0 : Int64))), .val (.long (own_min q1 (524288 : Int64))), .second, .val (.long y), .second, .val (.int (own_sp ((0 : Int64) + (own_min q1 (524288 : Int64))))), .unset] [(.ref o)])) rfl (by rw [hml]; rfl) (Steps.refl _) (argsL := []) (rest := []) (lenOf own_pd0 rfl) rfl (by show 2 * 0 + _ ≤ _; exact Nat.le_of_eq rfl) (hb hby at_78) (fun _ _ => ⟨rfl, rfl, (by decide : 1 + 0 ≤ _), (by decide : 3 + 0 ≤ _)⟩)
  dsimp only [Pt.U, Pt.locs, Pt.cells, Pt.slots] at X4 l4 y4 z4 st4 hQ4
  subst l4 y4 z4
  obtain ⟨rfl, Nq4, e4⟩ := hQ4
  have N4 := Fr.app N3 Nq4
  refine own_tr st4 ?_
  show OwnGo p e below s _ _ _ T4 (mkF m 81 #[.val (.long q1), .second, .val (.long q2), .second, .val (.int p3), .val (.ref o), .val (.int (own_sp (0 : Int64))), .val (.long (own_min q1 (524288 : Int64))), .second, .val (.long y), .second, .val (.int (own_sp ((0 : Int64) + (own_min q1 (524288 : Int64))))), .unset] [(.int (own_sp (((0 : Int64) + (own_min q1 (524288 : Int64))) + y)))])
  refine own_st (T' := T4) (g' := (mkF m 103 #[.val (.long q1), .second, .val (.long q2), .second, .val (.int p3), .val (.ref o), .val (.int (own_sp (0 : Int64))), .val (.long (own_min q1 (524288 : Int64))), .second, .val (.long y), .second, .val (.int (own_sp ((0 : Int64) + (own_min q1 (524288 : Int64))))), .val (.int (own_sp (((0 : Int64) + (own_min q1 (524288 : Int64))) + y)))] [(.int (1 : Int32))])) (fun uT uK => ?_) ?_
  · show Steps p.tables e below (T4.setTop (mkF m 81 #[.val (.long q1), .second, .val (.long q2), .second, .val (.int p3), .val (.ref o), .val (.int (own_sp (0 : Int64))), .val (.long (own_min q1 (524288 : Int64))), .second, .val (.long y), .second, .val (.int (own_sp ((0 : Int64) + (own_min q1 (524288 : Int64))))), .unset] [(.int (own_sp (((0 : Int64) + (own_min q1 (524288 : Int64))) + y)))])) _
    refine XS.istore X4.here hx rfl (hb hby at_81) rfl (l' := #[.val (.long q1), .second, .val (.long q2), .second, .val (.int p3), .val (.ref o), .val (.int (own_sp (0 : Int64))), .val (.long (own_min q1 (524288 : Int64))), .second, .val (.long y), .second, .val (.int (own_sp ((0 : Int64) + (own_min q1 (524288 : Int64))))), .val (.int (own_sp (((0 : Int64) + (own_min q1 (524288 : Int64))) + y)))]) rfl ?_
    show Steps p.tables e below (T4.setTop (mkF m 83 #[.val (.long q1), .second, .val (.long q2), .second, .val (.int p3), .val (.ref o), .val (.int (own_sp (0 : Int64))), .val (.long (own_min q1 (524288 : Int64))), .second, .val (.long y), .second, .val (.int (own_sp ((0 : Int64) + (own_min q1 (524288 : Int64))))), .val (.int (own_sp (((0 : Int64) + (own_min q1 (524288 : Int64))) + y)))] [])) _
    refine XS.iload X4.here hx rfl (hb hby at_83) rfl ?_
    show Steps p.tables e below (T4.setTop (mkF m 85 #[.val (.long q1), .second, .val (.long q2), .second, .val (.int p3), .val (.ref o), .val (.int (own_sp (0 : Int64))), .val (.long (own_min q1 (524288 : Int64))), .second, .val (.long y), .second, .val (.int (own_sp ((0 : Int64) + (own_min q1 (524288 : Int64))))), .val (.int (own_sp (((0 : Int64) + (own_min q1 (524288 : Int64))) + y)))] [(.int (own_sp (0 : Int64)))])) _
    refine XS.ifNo X4.here hx rfl (hb hby at_85) rfl (XT.i0_ne_f (by decide)) ?_
    show Steps p.tables e below (T4.setTop (mkF m 88 #[.val (.long q1), .second, .val (.long q2), .second, .val (.int p3), .val (.ref o), .val (.int (own_sp (0 : Int64))), .val (.long (own_min q1 (524288 : Int64))), .second, .val (.long y), .second, .val (.int (own_sp ((0 : Int64) + (own_min q1 (524288 : Int64))))), .val (.int (own_sp (((0 : Int64) + (own_min q1 (524288 : Int64))) + y)))] [])) _
    refine XS.iload X4.here hx rfl (hb hby at_88) rfl ?_
    show Steps p.tables e below (T4.setTop (mkF m 90 #[.val (.long q1), .second, .val (.long q2), .second, .val (.int p3), .val (.ref o), .val (.int (own_sp (0 : Int64))), .val (.long (own_min q1 (524288 : Int64))), .second, .val (.long y), .second, .val (.int (own_sp ((0 : Int64) + (own_min q1 (524288 : Int64))))), .val (.int (own_sp (((0 : Int64) + (own_min q1 (524288 : Int64))) + y)))] [(.int (own_sp ((0 : Int64) + (own_min q1 (524288 : Int64)))))])) _
    refine XS.ifNo X4.here hx rfl (hb hby at_90) rfl (XT.i0_ne_f (own_sp0 (own_z1 (own_minle q1 524288)))) ?_
    show Steps p.tables e below (T4.setTop (mkF m 93 #[.val (.long q1), .second, .val (.long q2), .second, .val (.int p3), .val (.ref o), .val (.int (own_sp (0 : Int64))), .val (.long (own_min q1 (524288 : Int64))), .second, .val (.long y), .second, .val (.int (own_sp ((0 : Int64) + (own_min q1 (524288 : Int64))))), .val (.int (own_sp (((0 : Int64) + (own_min q1 (524288 : Int64))) + y)))] [])) _
    refine XS.iload X4.here hx rfl (hb hby at_93) rfl ?_
    show Steps p.tables e below (T4.setTop (mkF m 95 #[.val (.long q1), .second, .val (.long q2), .second, .val (.int p3), .val (.ref o), .val (.int (own_sp (0 : Int64))), .val (.long (own_min q1 (524288 : Int64))), .second, .val (.long y), .second, .val (.int (own_sp ((0 : Int64) + (own_min q1 (524288 : Int64))))), .val (.int (own_sp (((0 : Int64) + (own_min q1 (524288 : Int64))) + y)))] [(.int (own_sp (((0 : Int64) + (own_min q1 (524288 : Int64))) + y)))])) _
    refine XS.ifNo X4.here hx rfl (hb hby at_95) rfl (XT.i0_ne_f (own_sp0 (own_z2 hy))) ?_
    show Steps p.tables e below (T4.setTop (mkF m 98 #[.val (.long q1), .second, .val (.long q2), .second, .val (.int p3), .val (.ref o), .val (.int (own_sp (0 : Int64))), .val (.long (own_min q1 (524288 : Int64))), .second, .val (.long y), .second, .val (.int (own_sp ((0 : Int64) + (own_min q1 (524288 : Int64))))), .val (.int (own_sp (((0 : Int64) + (own_min q1 (524288 : Int64))) + y)))] [])) _
    refine XS.iconst X4.here hx rfl (hb hby at_98) ?_
    show Steps p.tables e below (T4.setTop (mkF m 99 #[.val (.long q1), .second, .val (.long q2), .second, .val (.int p3), .val (.ref o), .val (.int (own_sp (0 : Int64))), .val (.long (own_min q1 (524288 : Int64))), .second, .val (.long y), .second, .val (.int (own_sp ((0 : Int64) + (own_min q1 (524288 : Int64))))), .val (.int (own_sp (((0 : Int64) + (own_min q1 (524288 : Int64))) + y)))] [(.int (1 : Int32))])) _
    refine XS.goto X4.here hx rfl (pc0 := 99) (pc' := 103) rfl (hb hby at_99) (by decide) (by decide) ?_
    exact uK
  exact own_ret (v := some (.int (1 : Int32))) X4 hlk (fun h => by rw [hret] at h; cases h) (fun fs hr => retOut X4 hx hret rfl (Or.inl ⟨rfl, by simp, _, rfl⟩) (hb hby at_103) hr) ⟨rfl, N4⟩ (by decide) (by decide)
theorem own_ef_rm0 (m : MethodId) (x0 : Int64) (x1 : Int64) (x2 : Int32) : entryFrame m #[(.long x0), (.long x1), (.int x2)] maxLocals = mkF m 0 #[.val (.long x0), .second, .val (.long x1), .second, .val (.int x2), .unset, .unset, .unset, .unset, .unset, .unset, .unset, .unset] [] := by first | (simp [entryFrame, mkF, argsToLocals, Value.category, maxLocals]; done) | rfl
set_option maxRecDepth 65536 in
set_option maxHeartbeats 40000000 in
theorem rm0 (l : Launch) (Z : State) (a0 : Array Value) (hw : ∀ d ∈ tables_1, d.before a0 Z = true) (ws : List Jvm.Cond) (q1 : Int64) (q2 : Int64) (p3 : Int32) (h0 : Heap) (n0 : Nat) (Z0 : n0 ≤ h0.size) :
    MetFree l x (head1 (Jvm.Cond.code x code maxLocals ret :: ws) room_1) (fun aQ UQ => aQ = #[(.long q1), (.long q2), (.int p3)] ∧ Z.Warmed39 UQ.vm ∧ UQ.heap = h0) (fun _ _ _ _ _ => True) (fun _ UQ oQ UR => ∃ vQ LQ, oQ = .returned vQ ∧ Q0 Z q1 q2 p3 h0 n0 vQ UR.heap LQ ∧ FrameEnd UQ oQ UR LQ room_1.cells room_1.slots) := by
  refine MetFree.of_bodySF (plainFor_of_name pn_0) hisR ?_
  intro p e s m args below meth c s₁ Bd hml0 hP hK
  obtain ⟨rfl, hZ, hh⟩ := hP
  have hx := Bd.exec
  have hby := Bd.bytes
  have hml : c.maxLocals = 13 := hml0
  have hown : s.vm.findClass "com/example/brocade/brocade/CellReadsSpentPinLaw" = some m.cls := findClass_of_methodNamed Bd.named
  have hnm := (name_of_methodNamed Bd.named Bd.method).1
  have hret := Bd.returns
  have hlk : meth.locks = false := Bd.notSynchronized
  have X0 : Stand p l e room_1 s m #[(.long q1), (.long q2), (.int p3)] below meth c s₁ [] 0 0 := Stand.of_body Bd
  have e0 : s₁.heap = h0 := by rw [← hh, Bd.state]; rfl
  have N0 := Fr.nil n0
  have K : Ctx0 p s m meth c Z a0 := ⟨hx, hZ, hw, hby, hml, hown, hret, hlk, hnm⟩
  show OwnGo p e below s room_1.cells room_1.slots (Q0 Z q1 q2 p3 h0 n0) s₁ (entryFrame m #[(.long q1), (.long q2), (.int p3)] maxLocals)
  refine own_cast (own_ef_rm0 m q1 q2 p3) ?_
  show OwnGo p e below s _ _ _ s₁ (mkF m 0 #[.val (.long q1), .second, .val (.long q2), .second, .val (.int p3), .unset, .unset, .unset, .unset, .unset, .unset, .unset, .unset] [])
  obtain ⟨T1, h1, X1, e1, E1, A1, D1, -, st1⟩ := newO X0 hx hZ hown (hw _ (List.mem_of_getElem? (i := 0) rfl)) (hw _ (List.mem_of_getElem? (i := 1) rfl)) (hw _ (List.mem_of_getElem? (i := 2) rfl)) e0 (g := (mkF m 0 #[.val (.long q1), .second, .val (.long q2), .second, .val (.int p3), .unset, .unset, .unset, .unset, .unset, .unset, .unset, .unset] [])) rfl (hb hby at_0) (by decide) (by decide)
  obtain ⟨o, g1⟩ : ∃ z, z = h0.size := ⟨_, rfl⟩
  rw [← g1] at A1 D1 st1
  have g_o : n0 ≤ o := Nat.le_trans Z0 (Nat.le_of_eq g1.symm)
  have Z1 : n0 ≤ h1.size := Nat.le_trans Z0 E1.1
  have F1_cells : Fld Z h1 o "com/example/brocade/brocade/CellReads" "cells" "I" (.int (0 : Int32)) := D1 (Or.inl (hw _ (List.mem_of_getElem? (i := 15) rfl))) (ty := .int) (by decide)
  have F1_bytes : Fld Z h1 o "com/example/brocade/brocade/CellReads" "bytes" "J" (.long (0 : Int64)) := D1 (Or.inl (hw _ (List.mem_of_getElem? (i := 18) rfl))) (ty := .long) (by decide)
  have F1_values : Fld Z h1 o "com/example/brocade/brocade/CellReads" "values" "J" (.long (0 : Int64)) := D1 (Or.inl (hw _ (List.mem_of_getElem? (i := 21) rfl))) (ty := .long) (by decide)
  refine own_st st1 ?_
  show OwnGo p e below s _ _ _ T1 (mkF m 3 #[.val (.long q1), .second, .val (.long q2), .second, .val (.int p3), .unset, .unset, .unset, .unset, .unset, .unset, .unset, .unset] [(.ref o)])
  refine own_st (T' := T1) (g' := (mkF m 4 #[.val (.long q1), .second, .val (.long q2), .second, .val (.int p3), .unset, .unset, .unset, .unset, .unset, .unset, .unset, .unset] [(.ref o), (.ref o)])) (fun uT uK => ?_) ?_
  · show Steps p.tables e below (T1.setTop (mkF m 3 #[.val (.long q1), .second, .val (.long q2), .second, .val (.int p3), .unset, .unset, .unset, .unset, .unset, .unset, .unset, .unset] [(.ref o)])) _
    refine XS.dup X1.here hx rfl (hb hby at_3) rfl rfl ?_
    exact uK
  obtain ⟨_, _, ⟨T2, L2, k2, n2⟩, -, X2, ⟨Lc2, hQ2, l2, y2, z2⟩, st2⟩ := X1.specialBack hx (y := (⟨"com/example/brocade/brocade/CellReads", "<init>", "()V"⟩ : MethodName)) rfl hown (mvT hZ (hw _ (List.mem_of_getElem? (i := 3) rfl))) (mvT hZ (hw _ (List.mem_of_getElem? (i := 4) rfl))) (mvT hZ (hw _ (List.mem_of_getElem? (i := 5) rfl))) (by decide) (backOf (W := 1) (rm1 l Z a0 hw [] o h1 n0 Z1) hZ (hw _ (List.mem_of_getElem? (i := 5) rfl)) (hw _ (List.mem_of_getElem? (i := 2) rfl)) (by decide) (by decide)) (g := (mkF m 4 #[.val (.long q1), .second, .val (.long q2), .second, .val (.int p3), .unset, .unset, .unset, .unset, .unset, .unset, .unset, .unset] [(.ref o), (.ref o)])) rfl (by rw [hml]; rfl) (Steps.refl _) (a := o) (argsL := []) (rest := [(.ref o)]) (lenOf own_pd1 rfl) rfl (by show 2 * 0 + _ ≤ _; exact Nat.le_of_eq rfl) (hb hby at_4) (fun _ _ => ⟨rfl, e1, (by decide : 1 + 0 ≤ _), (by decide : 3 + 0 ≤ _)⟩)
  dsimp only [Pt.U, Pt.locs, Pt.cells, Pt.slots] at X2 l2 y2 z2 st2 hQ2
  subst l2 y2 z2
  obtain ⟨rfl, Nq2, e2⟩ := hQ2
  have N2 := Fr.app N0 Nq2
  refine own_tr st2 ?_
  show OwnGo p e below s _ _ _ T2 (mkF m 7 #[.val (.long q1), .second, .val (.long q2), .second, .val (.int p3), .unset, .unset, .unset, .unset, .unset, .unset, .unset, .unset] [(.ref o)])
  refine own_st (T' := T2) (g' := (mkF m 11 #[.val (.long q1), .second, .val (.long q2), .second, .val (.int p3), .val (.ref o), .unset, .unset, .unset, .unset, .unset, .unset, .unset] [(.ref o)])) (fun uT uK => ?_) ?_
  · show Steps p.tables e below (T2.setTop (mkF m 7 #[.val (.long q1), .second, .val (.long q2), .second, .val (.int p3), .unset, .unset, .unset, .unset, .unset, .unset, .unset, .unset] [(.ref o)])) _
    refine XS.astore X2.here hx rfl (hb hby at_7) rfl rfl (l' := #[.val (.long q1), .second, .val (.long q2), .second, .val (.int p3), .val (.ref o), .unset, .unset, .unset, .unset, .unset, .unset, .unset]) rfl ?_
    show Steps p.tables e below (T2.setTop (mkF m 9 #[.val (.long q1), .second, .val (.long q2), .second, .val (.int p3), .val (.ref o), .unset, .unset, .unset, .unset, .unset, .unset, .unset] [])) _
    refine XS.aload X2.here hx rfl (hb hby at_9) rfl rfl ?_
    exact uK
  obtain ⟨cq3, kq3, qa3, qb3, qc3⟩ := isOf hZ e2 (A1)
  obtain ⟨_, _, ⟨T3, L3, k3, n3⟩, -, X3, ⟨Lc3, hQ3, l3, y3, z3⟩, st3⟩ := X2.virtualBack hx (y := (⟨"com/example/brocade/brocade/CellReads", "spent", "()Z"⟩ : MethodName)) (z := (⟨"com/example/brocade/brocade/CellReads", "spent", "()Z"⟩ : MethodName)) hown (mvT hZ (hw _ (List.mem_of_getElem? (i := 9) rfl))) (mvT hZ (hw _ (List.mem_of_getElem? (i := 10) rfl))) (notFace_of_selects (args := #[]) (mvT hZ (hw _ (List.mem_of_getElem? (i := 12) rfl)))) (mvT hZ (hw _ (List.mem_of_getElem? (i := 12) rfl))) (mvT hZ (hw _ (List.mem_of_getElem? (i := 11) rfl))) (by decide) (backOf (W := 0) (rm3 l Z a0 hw [] o (0 : Int64) h1 n0 Z1 F1_cells F1_bytes F1_values) hZ (hw _ (List.mem_of_getElem? (i := 13) rfl)) (hw _ (List.mem_of_getElem? (i := 2) rfl)) (by decide) (by decide)) qa3 qc3 (g := (mkF m 11 #[.val (.long q1), .second, .val (.long q2), .second, .val (.int p3), .val (.ref o), .unset, .unset, .unset, .unset, .unset, .unset, .unset] [(.ref o)])) rfl (by rw [hml]; rfl) (Steps.refl _) (argsL := []) (rest := []) (lenOf own_pd0 rfl) rfl (by show 2 * 0 + _ ≤ _; exact Nat.le_of_eq rfl) (hb hby at_11) (fun _ _ => ⟨rfl, e2, (by decide : 1 + 0 ≤ _), (by decide : 3 + 0 ≤ _)⟩)
  dsimp only [Pt.U, Pt.locs, Pt.cells, Pt.slots] at X3 l3 y3 z3 st3 hQ3
  subst l3 y3 z3
  obtain ⟨rfl, Nq3, e3⟩ := hQ3
  have N3 := Fr.app N2 Nq3
  refine own_tr st3 ?_
  show OwnGo p e below s _ _ _ T3 (mkF m 14 #[.val (.long q1), .second, .val (.long q2), .second, .val (.int p3), .val (.ref o), .unset, .unset, .unset, .unset, .unset, .unset, .unset] [(.int (own_sp (0 : Int64)))])
  refine own_st (T' := T3) (g' := (mkF m 20 #[.val (.long q1), .second, .val (.long q2), .second, .val (.int p3), .val (.ref o), .val (.int (own_sp (0 : Int64))), .unset, .unset, .unset, .unset, .unset, .unset] [(.long (524288 : Int64)), (.long q1)])) (fun uT uK => ?_) ?_
  · show Steps p.tables e below (T3.setTop (mkF m 14 #[.val (.long q1), .second, .val (.long q2), .second, .val (.int p3), .val (.ref o), .unset, .unset, .unset, .unset, .unset, .unset, .unset] [(.int (own_sp (0 : Int64)))])) _
    refine XS.istore X3.here hx rfl (hb hby at_14) rfl (l' := #[.val (.long q1), .second, .val (.long q2), .second, .val (.int p3), .val (.ref o), .val (.int (own_sp (0 : Int64))), .unset, .unset, .unset, .unset, .unset, .unset]) rfl ?_
    show Steps p.tables e below (T3.setTop (mkF m 16 #[.val (.long q1), .second, .val (.long q2), .second, .val (.int p3), .val (.ref o), .val (.int (own_sp (0 : Int64))), .unset, .unset, .unset, .unset, .unset, .unset] [])) _
    refine XT.lloadN X3.here hx rfl (hb hby at_16) rfl ?_
    show Steps p.tables e below (T3.setTop (mkF m 17 #[.val (.long q1), .second, .val (.long q2), .second, .val (.int p3), .val (.ref o), .val (.int (own_sp (0 : Int64))), .unset, .unset, .unset, .unset, .unset, .unset] [(.long q1)])) _
    refine X3.ldc2Long hx hown (mvT hZ (hw _ (List.mem_of_getElem? (i := 23) rfl))) (g := (mkF m 17 #[.val (.long q1), .second, .val (.long q2), .second, .val (.int p3), .val (.ref o), .val (.int (own_sp (0 : Int64))), .unset, .unset, .unset, .unset, .unset, .unset] [(.long q1)])) rfl (hb hby at_17) _ ?_
    exact uK
  obtain ⟨_, _, ⟨T4, L4, k4, n4⟩, -, X4, ⟨Lc4, hQ4, l4, y4, z4⟩, st4⟩ := Jvm.LawKit.callS X3 hx (y := (⟨"java/lang/Math", "min", "(JJ)J"⟩ : MethodName)) hown (mvT hZ (hw _ (List.mem_of_getElem? (i := 24) rfl))) (mvT hZ (hw _ (List.mem_of_getElem? (i := 25) rfl))) (mvT hZ (hw _ (List.mem_of_getElem? (i := 26) rfl))) (mvT hZ (hw _ (List.mem_of_getElem? (i := 27) rfl))) (by decide) (backOf (W := 0) (rm4 l Z a0 hw [] q1 (524288 : Int64) h1 n0 Z1) hZ (hw _ (List.mem_of_getElem? (i := 27) rfl)) (hw _ (List.mem_of_getElem? (i := 26) rfl)) (by decide) (by decide)) (g := (mkF m 20 #[.val (.long q1), .second, .val (.long q2), .second, .val (.int p3), .val (.ref o), .val (.int (own_sp (0 : Int64))), .unset, .unset, .unset, .unset, .unset, .unset] [(.long (524288 : Int64)), (.long q1)])) rfl (by rw [hml]; rfl) (argsL := [(.long q1), (.long (524288 : Int64))]) (rest := []) (lenOf own_pd3 rfl) rfl (by show 2 * 0 + _ ≤ _; exact Nat.le_of_eq rfl) (hb hby at_20) (fun _ _ => ⟨rfl, e3, (by decide : 1 + 0 ≤ _), (by decide : 3 + 0 ≤ _)⟩)
  dsimp only [Pt.U, Pt.locs, Pt.cells, Pt.slots] at X4 l4 y4 z4 st4 hQ4
  subst l4 y4 z4
  obtain ⟨rfl, Nq4, e4⟩ := hQ4
  have N4 := Fr.app N3 Nq4
  refine own_st st4 ?_
  show OwnGo p e below s _ _ _ T4 (mkF m 23 #[.val (.long q1), .second, .val (.long q2), .second, .val (.int p3), .val (.ref o), .val (.int (own_sp (0 : Int64))), .unset, .unset, .unset, .unset, .unset, .unset] [(.long (own_min q1 (524288 : Int64)))])
  refine own_st (T' := T4) (g' := (mkF m 29 #[.val (.long q1), .second, .val (.long q2), .second, .val (.int p3), .val (.ref o), .val (.int (own_sp (0 : Int64))), .val (.long (own_min q1 (524288 : Int64))), .second, .unset, .unset, .unset, .unset] [(.int (p3 &&& (1 : Int32)))])) (fun uT uK => ?_) ?_
  · show Steps p.tables e below (T4.setTop (mkF m 23 #[.val (.long q1), .second, .val (.long q2), .second, .val (.int p3), .val (.ref o), .val (.int (own_sp (0 : Int64))), .unset, .unset, .unset, .unset, .unset, .unset] [(.long (own_min q1 (524288 : Int64)))])) _
    refine XT.lstore X4.here hx rfl (hb hby at_23) rfl (l' := #[.val (.long q1), .second, .val (.long q2), .second, .val (.int p3), .val (.ref o), .val (.int (own_sp (0 : Int64))), .val (.long (own_min q1 (524288 : Int64))), .second, .unset, .unset, .unset, .unset]) rfl ?_
    show Steps p.tables e below (T4.setTop (mkF m 25 #[.val (.long q1), .second, .val (.long q2), .second, .val (.int p3), .val (.ref o), .val (.int (own_sp (0 : Int64))), .val (.long (own_min q1 (524288 : Int64))), .second, .unset, .unset, .unset, .unset] [])) _
    refine XS.iload X4.here hx rfl (hb hby at_25) rfl ?_
    show Steps p.tables e below (T4.setTop (mkF m 27 #[.val (.long q1), .second, .val (.long q2), .second, .val (.int p3), .val (.ref o), .val (.int (own_sp (0 : Int64))), .val (.long (own_min q1 (524288 : Int64))), .second, .unset, .unset, .unset, .unset] [(.int p3)])) _
    refine XS.iconst X4.here hx rfl (hb hby at_27) ?_
    show Steps p.tables e below (T4.setTop (mkF m 28 #[.val (.long q1), .second, .val (.long q2), .second, .val (.int p3), .val (.ref o), .val (.int (own_sp (0 : Int64))), .val (.long (own_min q1 (524288 : Int64))), .second, .unset, .unset, .unset, .unset] [(.int (1 : Int32)), (.int p3)])) _
    refine XS.iand X4.here hx rfl (hb hby at_28) rfl ?_
    exact uK
  by_cases hc29 : (p3 &&& (1 : Int32)) = (0 : Int32)
  · refine own_st (T' := T4) (g' := (mkF m 40 #[.val (.long q1), .second, .val (.long q2), .second, .val (.int p3), .val (.ref o), .val (.int (own_sp (0 : Int64))), .val (.long (own_min q1 (524288 : Int64))), .second, .unset, .unset, .unset, .unset] [(.int (XT.cmpL ((own_min q1 (524288 : Int64)) + q2) (524288 : Int64)))])) (fun uT uK => ?_) ?_
    · show Steps p.tables e below (T4.setTop (mkF m 29 #[.val (.long q1), .second, .val (.long q2), .second, .val (.int p3), .val (.ref o), .val (.int (own_sp (0 : Int64))), .val (.long (own_min q1 (524288 : Int64))), .second, .unset, .unset, .unset, .unset] [(.int (p3 &&& (1 : Int32)))])) _
      refine XS.ifNo X4.here hx rfl (hb hby at_29) rfl (XT.i0_ne_f hc29) ?_
      show Steps p.tables e below (T4.setTop (mkF m 32 #[.val (.long q1), .second, .val (.long q2), .second, .val (.int p3), .val (.ref o), .val (.int (own_sp (0 : Int64))), .val (.long (own_min q1 (524288 : Int64))), .second, .unset, .unset, .unset, .unset] [])) _
      refine XT.lload X4.here hx rfl (hb hby at_32) rfl ?_
      show Steps p.tables e below (T4.setTop (mkF m 34 #[.val (.long q1), .second, .val (.long q2), .second, .val (.int p3), .val (.ref o), .val (.int (own_sp (0 : Int64))), .val (.long (own_min q1 (524288 : Int64))), .second, .unset, .unset, .unset, .unset] [(.long (own_min q1 (524288 : Int64)))])) _
      refine XT.lloadN X4.here hx rfl (hb hby at_34) rfl ?_
      show Steps p.tables e below (T4.setTop (mkF m 35 #[.val (.long q1), .second, .val (.long q2), .second, .val (.int p3), .val (.ref o), .val (.int (own_sp (0 : Int64))), .val (.long (own_min q1 (524288 : Int64))), .second, .unset, .unset, .unset, .unset] [(.long q2), (.long (own_min q1 (524288 : Int64)))])) _
      refine XT.ladd X4.here hx rfl (hb hby at_35) rfl ?_
      show Steps p.tables e below (T4.setTop (mkF m 36 #[.val (.long q1), .second, .val (.long q2), .second, .val (.int p3), .val (.ref o), .val (.int (own_sp (0 : Int64))), .val (.long (own_min q1 (524288 : Int64))), .second, .unset, .unset, .unset, .unset] [(.long ((own_min q1 (524288 : Int64)) + q2))])) _
      refine X4.ldc2Long hx hown (mvT hZ (hw _ (List.mem_of_getElem? (i := 23) rfl))) (g := (mkF m 36 #[.val (.long q1), .second, .val (.long q2), .second, .val (.int p3), .val (.ref o), .val (.int (own_sp (0 : Int64))), .val (.long (own_min q1 (524288 : Int64))), .second, .unset, .unset, .unset, .unset] [(.long ((own_min q1 (524288 : Int64)) + q2))])) rfl (hb hby at_36) _ ?_
      show Steps p.tables e below (T4.setTop (mkF m 39 #[.val (.long q1), .second, .val (.long q2), .second, .val (.int p3), .val (.ref o), .val (.int (own_sp (0 : Int64))), .val (.long (own_min q1 (524288 : Int64))), .second, .unset, .unset, .unset, .unset] [(.long (524288 : Int64)), (.long ((own_min q1 (524288 : Int64)) + q2))])) _
      refine XT.lcmp X4.here hx rfl (hb hby at_39) rfl ?_
      exact uK
    by_cases hc40 : (524288 : Int64) < ((own_min q1 (524288 : Int64)) + q2)
    · refine own_st (T' := T4) (g' := (mkF m 53 #[.val (.long q1), .second, .val (.long q2), .second, .val (.int p3), .val (.ref o), .val (.int (own_sp (0 : Int64))), .val (.long (own_min q1 (524288 : Int64))), .second, .unset, .unset, .unset, .unset] [(.long ((524288 : Int64) - (own_min q1 (524288 : Int64))))])) (fun uT uK => ?_) ?_
      · show Steps p.tables e below (T4.setTop (mkF m 40 #[.val (.long q1), .second, .val (.long q2), .second, .val (.int p3), .val (.ref o), .val (.int (own_sp (0 : Int64))), .val (.long (own_min q1 (524288 : Int64))), .second, .unset, .unset, .unset, .unset] [(.int (XT.cmpL ((own_min q1 (524288 : Int64)) + q2) (524288 : Int64)))])) _
        refine XS.ifNo X4.here hx rfl (hb hby at_40) rfl (XT.ll_le_f hc40) ?_
        show Steps p.tables e below (T4.setTop (mkF m 43 #[.val (.long q1), .second, .val (.long q2), .second, .val (.int p3), .val (.ref o), .val (.int (own_sp (0 : Int64))), .val (.long (own_min q1 (524288 : Int64))), .second, .unset, .unset, .unset, .unset] [])) _
        refine X4.ldc2Long hx hown (mvT hZ (hw _ (List.mem_of_getElem? (i := 23) rfl))) (g := (mkF m 43 #[.val (.long q1), .second, .val (.long q2), .second, .val (.int p3), .val (.ref o), .val (.int (own_sp (0 : Int64))), .val (.long (own_min q1 (524288 : Int64))), .second, .unset, .unset, .unset, .unset] [])) rfl (hb hby at_43) _ ?_
        show Steps p.tables e below (T4.setTop (mkF m 46 #[.val (.long q1), .second, .val (.long q2), .second, .val (.int p3), .val (.ref o), .val (.int (own_sp (0 : Int64))), .val (.long (own_min q1 (524288 : Int64))), .second, .unset, .unset, .unset, .unset] [(.long (524288 : Int64))])) _
        refine XT.lload X4.here hx rfl (hb hby at_46) rfl ?_
        show Steps p.tables e below (T4.setTop (mkF m 48 #[.val (.long q1), .second, .val (.long q2), .second, .val (.int p3), .val (.ref o), .val (.int (own_sp (0 : Int64))), .val (.long (own_min q1 (524288 : Int64))), .second, .unset, .unset, .unset, .unset] [(.long (own_min q1 (524288 : Int64))), (.long (524288 : Int64))])) _
        refine XT.lsub X4.here hx rfl (hb hby at_48) rfl ?_
        show Steps p.tables e below (T4.setTop (mkF m 49 #[.val (.long q1), .second, .val (.long q2), .second, .val (.int p3), .val (.ref o), .val (.int (own_sp (0 : Int64))), .val (.long (own_min q1 (524288 : Int64))), .second, .unset, .unset, .unset, .unset] [(.long ((524288 : Int64) - (own_min q1 (524288 : Int64))))])) _
        refine XS.goto X4.here hx rfl (pc0 := 49) (pc' := 53) rfl (hb hby at_49) (by decide) (by decide) ?_
        exact uK
      exact own_t53 q1 q2 ((524288 : Int64) - (own_min q1 (524288 : Int64))) p3 o h0 (own_fill _) K X4 e4 N4 Z1 A1 F1_cells F1_bytes F1_values g_o
    · refine own_st (T' := T4) (g' := (mkF m 53 #[.val (.long q1), .second, .val (.long q2), .second, .val (.int p3), .val (.ref o), .val (.int (own_sp (0 : Int64))), .val (.long (own_min q1 (524288 : Int64))), .second, .unset, .unset, .unset, .unset] [(.long q2)])) (fun uT uK => ?_) ?_
      · show Steps p.tables e below (T4.setTop (mkF m 40 #[.val (.long q1), .second, .val (.long q2), .second, .val (.int p3), .val (.ref o), .val (.int (own_sp (0 : Int64))), .val (.long (own_min q1 (524288 : Int64))), .second, .unset, .unset, .unset, .unset] [(.int (XT.cmpL ((own_min q1 (524288 : Int64)) + q2) (524288 : Int64)))])) _
        refine XS.ifYes X4.here hx rfl (pc0 := 40) (pc' := 52) rfl (hb hby at_40) rfl (XT.ll_le_t hc40) (by decide) (by decide) ?_
        show Steps p.tables e below (T4.setTop (mkF m 52 #[.val (.long q1), .second, .val (.long q2), .second, .val (.int p3), .val (.ref o), .val (.int (own_sp (0 : Int64))), .val (.long (own_min q1 (524288 : Int64))), .second, .unset, .unset, .unset, .unset] [])) _
        refine XT.lloadN X4.here hx rfl (hb hby at_52) rfl ?_
        exact uK
      exact own_t53 q1 q2 q2 p3 o h0 hc40 K X4 e4 N4 Z1 A1 F1_cells F1_bytes F1_values g_o
  · refine own_st (T' := T4) (g' := (mkF m 53 #[.val (.long q1), .second, .val (.long q2), .second, .val (.int p3), .val (.ref o), .val (.int (own_sp (0 : Int64))), .val (.long (own_min q1 (524288 : Int64))), .second, .unset, .unset, .unset, .unset] [(.long ((524288 : Int64) - (own_min q1 (524288 : Int64))))])) (fun uT uK => ?_) ?_
    · show Steps p.tables e below (T4.setTop (mkF m 29 #[.val (.long q1), .second, .val (.long q2), .second, .val (.int p3), .val (.ref o), .val (.int (own_sp (0 : Int64))), .val (.long (own_min q1 (524288 : Int64))), .second, .unset, .unset, .unset, .unset] [(.int (p3 &&& (1 : Int32)))])) _
      refine XS.ifYes X4.here hx rfl (pc0 := 29) (pc' := 43) rfl (hb hby at_29) rfl (XT.i0_ne_t hc29) (by decide) (by decide) ?_
      show Steps p.tables e below (T4.setTop (mkF m 43 #[.val (.long q1), .second, .val (.long q2), .second, .val (.int p3), .val (.ref o), .val (.int (own_sp (0 : Int64))), .val (.long (own_min q1 (524288 : Int64))), .second, .unset, .unset, .unset, .unset] [])) _
      refine X4.ldc2Long hx hown (mvT hZ (hw _ (List.mem_of_getElem? (i := 23) rfl))) (g := (mkF m 43 #[.val (.long q1), .second, .val (.long q2), .second, .val (.int p3), .val (.ref o), .val (.int (own_sp (0 : Int64))), .val (.long (own_min q1 (524288 : Int64))), .second, .unset, .unset, .unset, .unset] [])) rfl (hb hby at_43) _ ?_
      show Steps p.tables e below (T4.setTop (mkF m 46 #[.val (.long q1), .second, .val (.long q2), .second, .val (.int p3), .val (.ref o), .val (.int (own_sp (0 : Int64))), .val (.long (own_min q1 (524288 : Int64))), .second, .unset, .unset, .unset, .unset] [(.long (524288 : Int64))])) _
      refine XT.lload X4.here hx rfl (hb hby at_46) rfl ?_
      show Steps p.tables e below (T4.setTop (mkF m 48 #[.val (.long q1), .second, .val (.long q2), .second, .val (.int p3), .val (.ref o), .val (.int (own_sp (0 : Int64))), .val (.long (own_min q1 (524288 : Int64))), .second, .unset, .unset, .unset, .unset] [(.long (own_min q1 (524288 : Int64))), (.long (524288 : Int64))])) _
      refine XT.lsub X4.here hx rfl (hb hby at_48) rfl ?_
      show Steps p.tables e below (T4.setTop (mkF m 49 #[.val (.long q1), .second, .val (.long q2), .second, .val (.int p3), .val (.ref o), .val (.int (own_sp (0 : Int64))), .val (.long (own_min q1 (524288 : Int64))), .second, .unset, .unset, .unset, .unset] [(.long ((524288 : Int64) - (own_min q1 (524288 : Int64))))])) _
      refine XS.goto X4.here hx rfl (pc0 := 49) (pc' := 53) rfl (hb hby at_49) (by decide) (by decide) ?_
      exact uK
    exact own_t53 q1 q2 ((524288 : Int64) - (own_min q1 (524288 : Int64))) p3 o h0 (own_fill _) K X4 e4 N4 Z1 A1 F1_cells F1_bytes F1_values g_o
set_option maxRecDepth 65536 in
set_option maxHeartbeats 40000000 in
theorem comes_1 {Post : Tables → Env → Array Value → State → Outcome → State → Prop} (hpost : ∀ tb e args s v u, (limb_1_1.after args s (.returned v) u = true ∧ limb_1_2.after args s (.returned v) u = true ∧ True) → FrameEnd s (.returned v) u (Jvm.fieldLocs frame_1_writes args s ++ Jvm.arrayLocs frame_1_arrays args s ++ Jvm.staticLocs frame_1_statics s) 16 128 → Post tb e args s (.returned v) u) :
    ArmFor flags0 classFile x code maxLocals ret World_1 tables_1 room_1 Calls_1 rest_1 Pre_1 Post := by
  intro l hfl _ _ p e ha hc hk s m args below hf hA hF happ hP
  obtain ⟨hcalls, hrest, hpre⟩ := hP
  obtain ⟨-, -, -, hnamed, -, -, -, hat⟩ := (Spec.applies_iff hf).mp happ
  obtain ⟨hg, hn⟩ := and_e (Cond.before_iff.mp (show (Jvm.Cond.and given_1 narrow_1).before args s = true from hpre))
  obtain ⟨hcount, ha0⟩ := and_e hg
  obtain ⟨hv0, ha1⟩ := and_e ha0
  obtain ⟨hv1, ha2⟩ := and_e ha1
  have hv2 := ha2
  obtain ⟨w0, w1, w2, rfl⟩ : ∃ w0 w1 w2 : Value, args = #[w0, w1, w2] := by
    have hs : args.size = 3 := by simpa [Cond.value, given_1] using hcount
    obtain ⟨L⟩ := args
    match L, hs with
    | [w0, w1, w2], _ => exact ⟨w0, w1, w2, rfl⟩
  have hw := fun d (hd : d ∈ tables_1) => atoms_spec (ws := Jvm.Cond.code x code maxLocals ret :: tables_1) hat d (List.mem_cons_of_mem _ hd)
  obtain ⟨i0, ei0⟩ := isL_v hv0
  obtain rfl : w0 = (.long i0) := Option.some.inj ei0
  obtain ⟨i1, ei1⟩ := isL_v hv1
  obtain rfl : w1 = (.long i1) := Option.some.inj ei1
  obtain ⟨i2, ei2⟩ := is_v hv2
  obtain rfl : w2 = (.int i2) := Option.some.inj ei2
  obtain ⟨n, o, h1, h2, h3, _, L, rfl, ⟨rfl, N⟩, hq⟩ := rm0 l s _ hw tables_1 i0 i1 i2 s.heap s.heap.size (Nat.le_refl _) p e ha hc hk s m _ below hf ((Spec.applies_iff_loose hf).mp happ).1 ⟨rfl, State.Warmed39.refl s, rfl⟩ trivial
  refine ⟨n, _, h1, h2, h3, hpost _ _ _ _ _ _ ⟨Cond.after_iff.mpr rfl, Cond.after_iff.mpr (eq_i res_at (Term.int_eval (1)) rfl), trivial⟩ ⟨hq.1, hq.2.1, (hq.2.2.sift fun y hy => Or.inr (N y hy)).mono (by decide) (by decide)⟩⟩
theorem main_1_1 : Claimed_1_1 := comes_1 fun _ _ _ _ _ _ h hF => ⟨h.1, hF⟩
theorem main_1_2 : Claimed_1_2 := comes_1 fun _ _ _ _ _ _ h hF => ⟨h.2.1, hF⟩
end Jvm.Pilot.@@N@@
namespace Jvm.Pilot.@@N@@
open Jvm Jvm.ClassFile Sem Op Lib Jvm.Free Jvm.Stand Jvm.Pilot.@@N@@.Jvm.D
/-! MADE BY PROGRAM (witnessworld.py) out of the Statement's table words and the real class files: 10 classes; the members and pool entries that the words name. The judged class is class 1, her method 1. -/
namespace start1
open Jvm.ClassFile
def u (s : String) : CpInfo := .utf8 (stringToUtf16 s)
/-- a pool by its gaps: so many unusable entries, then the entry; so many at the end -/
def gap : Nat → List CpInfo → List CpInfo
  | 0, r => r
  | n + 1, r => .unusable :: gap n r
def poolList (es : List (Nat × CpInfo)) (last : Nat) : List CpInfo := es.foldr (fun e r => gap e.1 (e.2 :: r)) (gap last [])
def pool (es : List (Nat × CpInfo)) (last : Nat) : Array CpInfo := ⟨poolList es last⟩
def fileOf (pool : Array CpInfo) (this : Nat) (attrs : Array Attribute := #[]) (ms : Array MethodInfo := #[]) (fl : Nat := 33) (sup : Nat := 0) (ifs : Array Nat := #[]) (fds : Array FieldInfo := #[]) : ClassFile where
  minorVersion := 0
  majorVersion := 65
  constantPool := pool
  accessFlags := fl
  thisClass := this
  superClass := sup
  interfaces := ifs
  fields := fds
  methods := ms
  attributes := attrs
def plain (name : String) (sup : Option ClassId) : Class where
  name := name
  kind := .ordinary
  loader := none
  accessFlags := 33
  super := sup
  interfaces := #[]
  cf := none
  fields := #[]
  methods := #[]
  instanceTypes := #[]
  staticTypes := #[]
  resolved := #[]
  callSites := []
  init := .initialized
  statics := none
  mirror := none

def pool0 : Array CpInfo := pool [(5, u "<init>"), (0, u "()V"), (1, .class_ 10), (1, u "java/lang/Object")] 113

def k0c0 : Code := { maxStack := 0, maxLocals := 1, code := object_method_1_code, exceptionTable := #[], attributes := #[] }
def k0m0 : Method := { name := "<init>", desc := "()V", sig := { parameters := [], returnType := none }, accessFlags := 1, code := some k0c0 }
/-- java/lang/Object -/
def k0 : Class := { plain "java/lang/Object" none with
  accessFlags := 33
  interfaces := #[]
  cf := some (fileOf pool0 8 #[] #[{ accessFlags := 1, nameIndex := 5, descriptorIndex := 6, attributes := #[] }] 33 0 #[] #[])
  fields := #[]
  methods := #[k0m0]
  instanceTypes := #[]
  staticTypes := #[]
  resolved := Array.replicate 124 none
  statics := none }

def pool1 : Array CpInfo := pool [(2, .class_ 4), (0, .nameAndType 5 6), (0, u "java/lang/Object"), (0, u "<init>"), (0, u "()V"), (0, .class_ 8), (0, u "com/example/brocade/brocade/CellReads"), (0, .methodref 7 3), (0, .methodref 7 11), (0, .nameAndType 12 13), (0, u "spent"), (0, u "()Z"), (0, .long 524288), (1, .methodref 17 18), (0, .class_ 19), (0, .nameAndType 20 21), (0, u "java/lang/Math"), (0, u "min"), (0, u "(JJ)J"), (0, .methodref 7 23), (0, .nameAndType 24 25), (0, u "countValues"), (0, u "(J)V"), (0, .class_ 27), (0, u "com/example/brocade/brocade/CellReadsSpentPinLaw"), (2, u "law"), (0, u "(JJI)Z")] 3

def k1m0 : Method := { name := "<init>", desc := "()V", sig := { parameters := [], returnType := none }, accessFlags := 1, code := none }
def k1c1 : Code := { maxStack := 4, maxLocals := 13, code := code, exceptionTable := #[], attributes := #[] }
def k1m1 : Method := { name := "law", desc := "(JJI)Z", sig := { parameters := [.long, .long, .int], returnType := some .boolean }, accessFlags := 9, code := some k1c1 }
/-- com/example/brocade/brocade/CellReadsSpentPinLaw -/
def k1 : Class := { plain "com/example/brocade/brocade/CellReadsSpentPinLaw" (some 0) with
  accessFlags := 49
  interfaces := #[]
  cf := some (fileOf pool1 26 #[] #[{ accessFlags := 1, nameIndex := 5, descriptorIndex := 6, attributes := #[] }, { accessFlags := 9, nameIndex := 30, descriptorIndex := 31, attributes := #[] }] 49 2 #[] #[])
  fields := #[]
  methods := #[k1m0, k1m1]
  instanceTypes := #[]
  staticTypes := #[]
  resolved := Array.replicate 35 none
  statics := none }

def pool2 : Array CpInfo := pool [(3, .methodref 4 5), (0, .class_ 6), (0, .nameAndType 7 8), (0, u "java/lang/Object"), (0, u "<init>"), (0, u "()V"), (0, .fieldref 10 11), (0, .class_ 12), (0, .nameAndType 13 14), (0, u "com/example/brocade/brocade/CellReads"), (0, u "cells"), (0, u "I"), (0, .fieldref 10 16), (0, .nameAndType 17 18), (0, u "bytes"), (0, u "J"), (6, .methodref 10 26), (0, .nameAndType 27 8), (0, u "refuseOnceSpent"), (0, .fieldref 10 29), (0, .nameAndType 30 18), (0, u "values"), (0, .integer 524288), (0, .long 16777216), (1, .long 524288), (9, .methodref 10 45), (0, .nameAndType 46 47), (0, u "spent"), (0, u "()Z"), (11, u "MAX_VALUES"), (3, u "countValues"), (0, u "(J)V")] 8

def k2c0 : Code := { maxStack := 1, maxLocals := 1, code := prog_23_method_1_code, exceptionTable := #[], attributes := #[] }
def k2m0 : Method := { name := "<init>", desc := "()V", sig := { parameters := [], returnType := none }, accessFlags := 0, code := some k2c0 }
def k2c1 : Code := { maxStack := 5, maxLocals := 3, code := prog_23_method_3_code, exceptionTable := #[], attributes := #[] }
def k2m1 : Method := { name := "countValues", desc := "(J)V", sig := { parameters := [.long], returnType := none }, accessFlags := 0, code := some k2c1 }
def k2c2 : Code := { maxStack := 4, maxLocals := 1, code := prog_23_method_4_code, exceptionTable := #[], attributes := #[] }
def k2m2 : Method := { name := "spent", desc := "()Z", sig := { parameters := [], returnType := some .boolean }, accessFlags := 0, code := some k2c2 }
def k2c3 : Code := { maxStack := 4, maxLocals := 2, code := prog_23_method_6_code, exceptionTable := #[], attributes := #[] }
def k2m3 : Method := { name := "refuseOnceSpent", desc := "()V", sig := { parameters := [], returnType := none }, accessFlags := 2, code := some k2c3 }
/-- com/example/brocade/brocade/CellReads -/
def k2 : Class := { plain "com/example/brocade/brocade/CellReads" (some 0) with
  accessFlags := 48
  interfaces := #[]
  cf := some (fileOf pool2 10 #[] #[{ accessFlags := 0, nameIndex := 7, descriptorIndex := 8, attributes := #[] }, { accessFlags := 0, nameIndex := 63, descriptorIndex := 64, attributes := #[] }, { accessFlags := 0, nameIndex := 46, descriptorIndex := 47, attributes := #[] }, { accessFlags := 2, nameIndex := 27, descriptorIndex := 8, attributes := #[] }] 48 4 #[] #[{ accessFlags := 24, nameIndex := 59, descriptorIndex := 14, attributes := #[] }, { accessFlags := 2, nameIndex := 13, descriptorIndex := 14, attributes := #[] }, { accessFlags := 2, nameIndex := 17, descriptorIndex := 18, attributes := #[] }, { accessFlags := 2, nameIndex := 30, descriptorIndex := 18, attributes := #[] }])
  fields := #[{ name := "MAX_VALUES", type := .int, accessFlags := 24, slot := 0, constantValue := 0 }, { name := "cells", type := .int, accessFlags := 2, slot := 0, constantValue := 0 }, { name := "bytes", type := .long, accessFlags := 2, slot := 1, constantValue := 0 }, { name := "values", type := .long, accessFlags := 2, slot := 2, constantValue := 0 }]
  methods := #[k2m0, k2m1, k2m2, k2m3]
  instanceTypes := #[.int, .long, .long]
  staticTypes := #[.int]
  resolved := Array.replicate 73 none
  statics := none }

def pool3 : Array CpInfo := pool [(1, .class_ 2), (0, u "java/lang/Math"), (1, .class_ 6), (1, u "java/lang/Object"), (0, u "<init>"), (0, u "()V"), (89, .class_ 100), (1, u "java/lang/Math$RandomNumberGeneratorHolder"), (20, u "(JJ)J"), (50, u "negativeZeroFloatBits"), (0, u "J"), (2, u "negativeZeroDoubleBits"), (24, u "min"), (43, u "$assertionsDisabled"), (0, u "Z"), (91, u "twoToTheDoubleScaleDown"), (0, u "D"), (4, u "twoToTheDoubleScaleUp"), (9, u "E"), (3, u "PI"), (2, u "TAU"), (2, u "DEGREES_TO_RADIANS"), (0, u "RADIANS_TO_DEGREES")] 94

def k3m0 : Method := { name := "<init>", desc := "()V", sig := { parameters := [], returnType := none }, accessFlags := 2, code := none }
def k3c1 : Code := { maxStack := 4, maxLocals := 4, code := jdk_29_method_70_code, exceptionTable := #[], attributes := #[] }
def k3m1 : Method := { name := "min", desc := "(JJ)J", sig := { parameters := [.long, .long], returnType := some .long }, accessFlags := 9, code := some k3c1 }
/-- java/lang/Math -/
def k3 : Class := { plain "java/lang/Math" (some 0) with
  accessFlags := 49
  interfaces := #[]
  cf := some (fileOf pool3 1 #[.nestMembers #[98]] #[{ accessFlags := 2, nameIndex := 7, descriptorIndex := 8, attributes := #[] }, { accessFlags := 9, nameIndex := 201, descriptorIndex := 121, attributes := #[] }] 49 4 #[] #[{ accessFlags := 25, nameIndex := 354, descriptorIndex := 339, attributes := #[] }, { accessFlags := 25, nameIndex := 358, descriptorIndex := 339, attributes := #[] }, { accessFlags := 25, nameIndex := 361, descriptorIndex := 339, attributes := #[] }, { accessFlags := 26, nameIndex := 364, descriptorIndex := 339, attributes := #[] }, { accessFlags := 26, nameIndex := 365, descriptorIndex := 339, attributes := #[] }, { accessFlags := 26, nameIndex := 172, descriptorIndex := 173, attributes := #[] }, { accessFlags := 26, nameIndex := 176, descriptorIndex := 173, attributes := #[] }, { accessFlags := 8, nameIndex := 344, descriptorIndex := 339, attributes := #[] }, { accessFlags := 8, nameIndex := 338, descriptorIndex := 339, attributes := #[] }, { accessFlags := 4120, nameIndex := 245, descriptorIndex := 246, attributes := #[] }])
  fields := #[{ name := "E", type := .double, accessFlags := 25, slot := 0, constantValue := 0 }, { name := "PI", type := .double, accessFlags := 25, slot := 1, constantValue := 0 }, { name := "TAU", type := .double, accessFlags := 25, slot := 2, constantValue := 0 }, { name := "DEGREES_TO_RADIANS", type := .double, accessFlags := 26, slot := 3, constantValue := 0 }, { name := "RADIANS_TO_DEGREES", type := .double, accessFlags := 26, slot := 4, constantValue := 0 }, { name := "negativeZeroFloatBits", type := .long, accessFlags := 26, slot := 5, constantValue := 0 }, { name := "negativeZeroDoubleBits", type := .long, accessFlags := 26, slot := 6, constantValue := 0 }, { name := "twoToTheDoubleScaleUp", type := .double, accessFlags := 8, slot := 7, constantValue := 0 }, { name := "twoToTheDoubleScaleDown", type := .double, accessFlags := 8, slot := 8, constantValue := 0 }, { name := "$assertionsDisabled", type := .boolean, accessFlags := 4120, slot := 9, constantValue := 0 }]
  methods := #[k3m0, k3m1]
  instanceTypes := #[]
  staticTypes := #[.double, .double, .double, .double, .double, .long, .long, .double, .double, .boolean]
  resolved := Array.replicate 460 none
  statics := none }

def pool4 : Array CpInfo := pool [(1, u "java/lang/Cloneable"), (0, .class_ 1), (0, u "java/lang/Object"), (0, .class_ 3)] 3

/-- java/lang/Cloneable -/
def k4 : Class := { plain "java/lang/Cloneable" (some 0) with
  accessFlags := 1537
  interfaces := #[]
  cf := some (fileOf pool4 2 #[] #[] 1537 4 #[] #[])
  fields := #[]
  methods := #[]
  instanceTypes := #[]
  staticTypes := #[]
  resolved := Array.replicate 8 none
  statics := none }

def pool5 : Array CpInfo := pool [(1, u "java/io/Serializable"), (0, .class_ 1), (0, u "java/lang/Object"), (0, .class_ 3)] 3

/-- java/io/Serializable -/
def k5 : Class := { plain "java/io/Serializable" (some 0) with
  accessFlags := 1537
  interfaces := #[]
  cf := some (fileOf pool5 2 #[] #[] 1537 4 #[] #[])
  fields := #[]
  methods := #[]
  instanceTypes := #[]
  staticTypes := #[]
  resolved := Array.replicate 8 none
  statics := none }

/-- the primitive byte -/
def k6 : Class := { plain "byte" none with kind := .primitive 'B', accessFlags := 0x411 }
/-- [B -/
def k7 : Class := { plain "[B" (some 0) with kind := .array 6 .byte, interfaces := #[4, 5], accessFlags := 1041 }

/-- the primitive int -/
def k8 : Class := { plain "int" none with kind := .primitive 'I', accessFlags := 0x411 }
/-- [I -/
def k9 : Class := { plain "[I" (some 0) with kind := .array 8 .int, interfaces := #[4, 5], accessFlags := 1041 }

def heap : Heap := #[]
def classes : Array Class := #[k0, k1, k2, k3, k4, k5, k6, k7, k8, k9]
def interned : List (Array UInt16 × Addr) := []
def slotsUsed : Nat := 0
def theMethod : MethodId := ⟨1, 1⟩
def args0 : Array Value := #[.long 5, .long 6, .int 0]
def aboutOver (below : List Frame) : State where
  vm := { classes := classes, interned := interned.toArray }
  heap := heap
  slotsUsed := slotsUsed
  threads := #[{ frames := .invoking theMethod args0 :: below }]
def below0 : List Frame := [.native { method := ⟨0, 0⟩, args := #[] }]
def about1 : State := aboutOver below0
def p0 : Program := .bare "" "" ""
def e0 : Env := launch0.env 0 0 0
theorem w_frames : about1.frames = Frame.invoking theMethod args0 :: below0 := rfl
set_option maxRecDepth 65536 in
theorem w_args : argsFit about1.vm theMethod args0 = true := by decide +kernel
set_option maxRecDepth 65536 in
theorem w_heap : heapFits about1 = true := by decide +kernel
set_option maxRecDepth 65536 in
theorem w_runnable : about1.curStatus? = some .runnable := by decide +kernel
set_option maxRecDepth 65536 in
theorem w_alone : about1.alone = true := by decide +kernel
set_option maxRecDepth 65536 in
theorem w_named : about1.methodNamed? x = some theMethod := by decide +kernel
set_option maxRecDepth 65536 in
theorem w_hears : about1.hears theMethod below0 = true := by decide +kernel
set_option maxRecDepth 65536 in
theorem w_ripe : about1.ripe theMethod args0 below0 = true := by decide +kernel
theorem w_running : about1.status = .running := rfl
set_option maxRecDepth 65536 in
theorem w_room : about1.hasRoom e0.platform room_1 = true :=
  launch0.hasRoom_least _ room_1 (by decide +kernel) (by decide +kernel) (by decide +kernel) (by decide +kernel) (by decide +kernel) (by decide +kernel)
theorem allAtoms_all (ts : List Jvm.Cond) (a : Array Jvm.Value) (st : Jvm.State) : (allAtoms ts).before a st = ts.all (fun c => c.before a st) := by
  induction ts with
  | nil => rfl
  | cons c t ih =>
    show (Jvm.Cond.and c (allAtoms t)).before a st = _
    rw [Jvm.Cond.before_and, ih, List.all_cons]
def words1 : List Jvm.Cond := Jvm.Cond.code x code maxLocals ret :: tables_1
/-- a 'code' word, met by the world's own term for the bytes: nothing is compared byte by byte -/
theorem code_word {y : MethodName} {bytes : ByteArray} {mx : Nat} {rt : Option FieldType} {a : Array Value} {s : State} {m : MethodId} {meth : Method} {c : Code} (h1 : s.methodNamed? y = some m) (h2 : s.vm.method? m = some meth) (h3 : meth.code = some c) (h4 : c.code = bytes)
    (h5 : (c.maxLocals == mx && c.exceptionTable.isEmpty && decide (c.maxStack ≤ mostOperands) && decide (meth.sig.returnType = rt) && !meth.locks && decide (parseMethodDescriptor y.desc = some meth.sig)) = true) : (Jvm.Cond.code y bytes mx rt).before a s = true := by
  simp only [Bool.and_eq_true, beq_iff_eq, Bool.not_eq_true', decide_eq_true_eq] at h5
  obtain ⟨⟨⟨⟨⟨g1, g2⟩, g3⟩, g4⟩, g5⟩, g6⟩ := h5
  simp [Cond.before, Cond.holds, Cond.value, h1, h2, h3, h4, g1, g2, g3, g4, g5, g6]
def isCode : Jvm.Cond → Bool
  | .code _ _ _ _ => true
  | _ => false
theorem all_split {L : List Jvm.Cond} {P : Jvm.Cond → Bool} (h1 : L.all (fun c => isCode c || P c) = true) (h2 : ∀ c ∈ L.filter isCode, P c = true) : L.all P = true := by
  refine List.all_eq_true.mpr fun c hc => ?_
  have h := List.all_eq_true.mp h1 c hc
  rcases Bool.eq_false_or_eq_true (isCode c) with hi | hi
  · exact h2 c (List.mem_filter.mpr ⟨hc, hi⟩)
  · simpa [hi] using h
set_option maxRecDepth 65536 in
theorem w_c0 : (Jvm.Cond.code x code maxLocals ret).before args0 about1 = true := code_word (m := ⟨1, 1⟩) (meth := k1m1) (c := k1c1) (by decide +kernel) rfl rfl rfl (by decide +kernel)
set_option maxRecDepth 65536 in
theorem w_c1 : (Jvm.Cond.code ({ cls := "com/example/brocade/brocade/CellReads", name := "<init>", desc := "()V" } : Jvm.MethodName) prog_23_method_1_code (1 : Nat) (Option.none : Option Jvm.ClassFile.FieldType)).before args0 about1 = true := code_word (m := ⟨2, 0⟩) (meth := k2m0) (c := k2c0) (by decide +kernel) rfl rfl rfl (by decide +kernel)
set_option maxRecDepth 65536 in
theorem w_c2 : (Jvm.Cond.code ({ cls := "java/lang/Object", name := "<init>", desc := "()V" } : Jvm.MethodName) object_method_1_code (1 : Nat) (Option.none : Option Jvm.ClassFile.FieldType)).before args0 about1 = true := code_word (m := ⟨0, 0⟩) (meth := k0m0) (c := k0c0) (by decide +kernel) rfl rfl rfl (by decide +kernel)
set_option maxRecDepth 65536 in
theorem w_c3 : (Jvm.Cond.code ({ cls := "com/example/brocade/brocade/CellReads", name := "spent", desc := "()Z" } : Jvm.MethodName) prog_23_method_4_code (1 : Nat) (Option.some Jvm.ClassFile.FieldType.boolean)).before args0 about1 = true := code_word (m := ⟨2, 2⟩) (meth := k2m2) (c := k2c2) (by decide +kernel) rfl rfl rfl (by decide +kernel)
set_option maxRecDepth 65536 in
theorem w_c4 : (Jvm.Cond.code ({ cls := "java/lang/Math", name := "min", desc := "(JJ)J" } : Jvm.MethodName) jdk_29_method_70_code (4 : Nat) (Option.some Jvm.ClassFile.FieldType.long)).before args0 about1 = true := code_word (m := ⟨3, 1⟩) (meth := k3m1) (c := k3c1) (by decide +kernel) rfl rfl rfl (by decide +kernel)
set_option maxRecDepth 65536 in
theorem w_c5 : (Jvm.Cond.code ({ cls := "com/example/brocade/brocade/CellReads", name := "countValues", desc := "(J)V" } : Jvm.MethodName) prog_23_method_3_code (3 : Nat) (Option.none : Option Jvm.ClassFile.FieldType)).before args0 about1 = true := code_word (m := ⟨2, 1⟩) (meth := k2m1) (c := k2c1) (by decide +kernel) rfl rfl rfl (by decide +kernel)
set_option maxRecDepth 65536 in
theorem w_c6 : (Jvm.Cond.code ({ cls := "com/example/brocade/brocade/CellReads", name := "refuseOnceSpent", desc := "()V" } : Jvm.MethodName) prog_23_method_6_code (2 : Nat) (Option.none : Option Jvm.ClassFile.FieldType)).before args0 about1 = true := code_word (m := ⟨2, 3⟩) (meth := k2m3) (c := k2c3) (by decide +kernel) rfl rfl rfl (by decide +kernel)
def codes1 : List Jvm.Cond := [Jvm.Cond.code x code maxLocals ret, Jvm.Cond.code ({ cls := "com/example/brocade/brocade/CellReads", name := "<init>", desc := "()V" } : Jvm.MethodName) prog_23_method_1_code (1 : Nat) (Option.none : Option Jvm.ClassFile.FieldType), Jvm.Cond.code ({ cls := "java/lang/Object", name := "<init>", desc := "()V" } : Jvm.MethodName) object_method_1_code (1 : Nat) (Option.none : Option Jvm.ClassFile.FieldType), Jvm.Cond.code ({ cls := "com/example/brocade/brocade/CellReads", name := "spent", desc := "()Z" } : Jvm.MethodName) prog_23_method_4_code (1 : Nat) (Option.some Jvm.ClassFile.FieldType.boolean), Jvm.Cond.code ({ cls := "java/lang/Math", name := "min", desc := "(JJ)J" } : Jvm.MethodName) jdk_29_method_70_code (4 : Nat) (Option.some Jvm.ClassFile.FieldType.long), Jvm.Cond.code ({ cls := "com/example/brocade/brocade/CellReads", name := "countValues", desc := "(J)V" } : Jvm.MethodName) prog_23_method_3_code (3 : Nat) (Option.none : Option Jvm.ClassFile.FieldType), Jvm.Cond.code ({ cls := "com/example/brocade/brocade/CellReads", name := "refuseOnceSpent", desc := "()V" } : Jvm.MethodName) prog_23_method_6_code (2 : Nat) (Option.none : Option Jvm.ClassFile.FieldType)]
set_option maxRecDepth 65536 in
theorem codes_eq : words1.filter isCode = codes1 := rfl
theorem w_codes : ∀ c ∈ words1.filter isCode, c.before args0 about1 = true := by
  rw [codes_eq]
  intro c hc
  simp only [codes1, List.mem_cons, List.not_mem_nil, or_false] at hc
  rcases hc with rfl | rfl | rfl | rfl | rfl | rfl | rfl
  · exact w_c0
  · exact w_c1
  · exact w_c2
  · exact w_c3
  · exact w_c4
  · exact w_c5
  · exact w_c6
set_option maxRecDepth 65536 in
theorem w_t1 : (words1.take 24).all (fun c => isCode c || c.before args0 about1) = true := by decide +kernel
set_option maxRecDepth 65536 in
theorem w_t2 : (words1.drop 24).all (fun c => isCode c || c.before args0 about1) = true := by decide +kernel
theorem w_tables : (allAtoms (Jvm.Cond.code x code maxLocals ret :: tables_1)).before args0 about1 = true := by
  rw [allAtoms_all]
  show words1.all (fun c => c.before args0 about1) = true
  refine all_split ?_ w_codes
  rw [← List.take_append_drop 24 words1, List.all_append, w_t1, w_t2]
  rfl
set_option maxRecDepth 65536 in
theorem w_case : (Jvm.Cond.and given_1 narrow_1).before args0 about1 = true := by decide +kernel
theorem w_applies : (headSpec (Jvm.Cond.code x code maxLocals ret :: tables_1) room_1).applies x e0.platform about1 = true :=
  (Spec.applies_iff w_frames).mpr ⟨w_running, w_runnable, w_alone, w_named, w_hears, w_ripe, w_room, w_tables⟩
theorem atStart : AtStart classFile x code maxLocals ret World_1 tables_1 room_1 Calls_1 rest_1 Pre_1 launch0 p0 e0 about1 theMethod args0 below0 :=
  ⟨lists_1, trivial, launch0.admits_env _ _ _, launch0.least_env, fairChoices_fair.cas, fairChoices_fair.clock, w_frames, w_args, w_heap, w_applies, trivial, trivial, w_case⟩
end start1
theorem witness_1 : WitnessClaimed_1 := ⟨start1.p0, start1.e0, start1.about1, start1.theMethod, start1.args0, start1.below0, start1.atStart⟩
end Jvm.Pilot.@@N@@
