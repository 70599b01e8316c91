import JvmDerived
import JvmDerived.Pilot.@@N@@Statement
import JvmDerived.Pilot.@@N@@Code
set_option linter.unusedVariables false
set_option linter.unusedSimpArgs false
@@BLOCK:NumsL.lean.txt@@
namespace Jvm.Pilot.@@N@@
open Jvm Jvm.ClassFile Sem Op Lib Jvm.Free Jvm.Stand Jvm.LawKit Jvm.RoadKit Bundle Jvm.Pilot.@@N@@.Jvm.D
/-! OwnGo: from here the run ends, returning as Q says -/
def OwnGo (p : Program) (e : Env) (below : List Frame) (s : State) (C S : Nat) (Q : Option Value → Heap → List Loc → Prop) (T : State) (g : JFrame) : Prop :=
  ∃ s₂ o, Steps p.tables e below (T.setTop g) s₂ ∧ s₂.status = .running ∧ Ended s₂ below o ∧ ∃ v L, o = .returned v ∧ Q v s₂.heap L ∧ FrameEnd s o s₂ L C S
section OwnBase
variable {p : Program} {l : Launch} {e : Env} {R : Room} {s : State} {m : MethodId} {args : Array Value} {below : List Frame} {meth : Method} {c : Code} {T T' : State} {locs : List Loc} {cells slots C S : Nat} {Q : Option Value → Heap → List Loc → Prop} {g g' : JFrame}
theorem own_st (k : ∀ t, Steps p.tables e below (T'.setTop g') t → Steps p.tables e below (T.setTop g) t) (h : OwnGo p e below s C S Q T' g') : OwnGo p e below s C S Q T g := by
  obtain ⟨s₂, o, h1, h2⟩ := h
  exact ⟨s₂, o, k _ h1, h2⟩
theorem own_tr (k : Steps p.tables e below (T.setTop g) (T'.setTop g')) (h : OwnGo p e below s C S Q T' g') : OwnGo p e below s C S Q T g := by
  obtain ⟨s₂, o, h1, h2⟩ := h
  exact ⟨s₂, o, k.trans h1, h2⟩
theorem own_cast (q : g = g') (h : OwnGo p e below s C S Q T g') : OwnGo p e below s C S Q T g := q ▸ h
theorem own_ret {v : Option Value} (X : Stand p l e R s m args below meth c T locs cells slots) (hlk : meth.locks = false) (hv : meth.sig.returnType = none → v = none)
    (step : ∀ fs, (∀ (f : JFrame) (acts : List Action), f.method = m → f.locked = none → f.entered = [] → (doReturn e (T.setTop f) acts v).1 = T.setFrames fs) → Steps p.tables e below (T.setTop g) (T.setFrames fs))
    (hQ : Q v T.heap locs) (hc : cells ≤ C) (hs : slots ≤ S) : OwnGo p e below s C S Q T g := by
  obtain ⟨fs, hr, hrun, hended, hW, hsame⟩ := X.leave (v := v) hv hlk
  exact ⟨_, _, step fs hr, hrun, hended, v, locs, rfl, hQ, ⟨_, rfl⟩, hW, hsame.mono hc hs⟩
end OwnBase

def own_any (k : Int64) : Int32 := if 0 < k then 1 else 0
theorem own_up {k : Int64} {i : Int} (hi : i ≤ 100) (h : 0 ≤ k.toInt ∧ k.toInt ≤ i) : 0 ≤ (k + 1).toInt ∧ (k + 1).toInt ≤ i + 1 := by
  have e1 : (1 : Int64).toInt = 1 := rfl
  rw [Jvm.Kit.i64_add (by omega) (by omega), e1]; omega
theorem own_keep {k : Int64} {i : Int} (h : 0 ≤ k.toInt ∧ k.toInt ≤ i) : 0 ≤ k.toInt ∧ k.toInt ≤ i + 1 := by omega
theorem own_one {k : Int64} {i : Int} (hi : i ≤ 100) (h : 0 ≤ k.toInt ∧ k.toInt ≤ i) : own_any (k + 1) = 1 := by
  have e1 : (1 : Int64).toInt = 1 := rfl
  have e2 : (0 : Int64) < k + 1 := by rw [Int64.lt_iff_toInt_lt, Jvm.Kit.i64_add (by omega) (by omega), e1]; show (0 : Int) < _; omega
  rw [own_any, if_pos e2]
theorem pn_0 : plainName "com/example/mokrok/mokrok/ValidationSummaryQuarantinedAnyPinLaw" = true := by first | (simp [plainName, overriddenIn]; done) | decide +kernel
def Ctx0 (p : Program) (s : State) (m : MethodId) (meth : Method) (c : Code) (Z : State) (a0 : Array Value) : Prop := p.tables.exec = Jvm.exec ∧ Z.Warmed39 s.vm ∧ (∀ d ∈ tables_1, d.before a0 Z = true) ∧ c.code = code ∧ c.maxLocals = 10 ∧ s.vm.findClass "com/example/mokrok/mokrok/ValidationSummaryQuarantinedAnyPinLaw" = some m.cls ∧ meth.sig.returnType = ret ∧ meth.locks = false ∧ meth.name = "law"
theorem d1_0 : decode prog_39_method_1_code 0 = .ok (.aload_n 0, 1) := by decide +kernel
theorem d1_1 : decode prog_39_method_1_code 1 = .ok (.invokespecial 1, 3) := by decide +kernel
theorem d1_4 : decode prog_39_method_1_code 4 = .ok (.return_, 1) := by decide +kernel
theorem pn_1 : plainName "com/example/mokrok/mokrok/ValidationSummary" = true := by first | (simp [plainName, overriddenIn]; done) | decide +kernel
def Ctx1 (p : Program) (s : State) (m : MethodId) (meth : Method) (c : Code) (Z : State) (a0 : Array Value) : Prop := p.tables.exec = Jvm.exec ∧ Z.Warmed39 s.vm ∧ (∀ d ∈ tables_1, d.before a0 Z = true) ∧ c.code = prog_39_method_1_code ∧ c.maxLocals = 1 ∧ s.vm.findClass "com/example/mokrok/mokrok/ValidationSummary" = some m.cls ∧ meth.sig.returnType = none ∧ meth.locks = false ∧ meth.name = "<init>"
theorem d3_0 : decode prog_39_method_4_code 0 = .ok (.aload_n 0, 1) := by decide +kernel
theorem d3_1 : decode prog_39_method_4_code 1 = .ok (.getfield 19, 3) := by decide +kernel
theorem d3_4 : decode prog_39_method_4_code 4 = .ok (.lconst 0, 1) := by decide +kernel
theorem d3_5 : decode prog_39_method_4_code 5 = .ok (.lcmp, 1) := by decide +kernel
theorem d3_6 : decode prog_39_method_4_code 6 = .ok (.ifCond .le 7, 3) := by decide +kernel
theorem d3_9 : decode prog_39_method_4_code 9 = .ok (.iconst 1, 1) := by decide +kernel
theorem d3_10 : decode prog_39_method_4_code 10 = .ok (.goto 4, 3) := by decide +kernel
theorem d3_13 : decode prog_39_method_4_code 13 = .ok (.iconst 0, 1) := by decide +kernel
theorem d3_14 : decode prog_39_method_4_code 14 = .ok (.ireturn, 1) := by decide +kernel
theorem pn_3 : plainName "com/example/mokrok/mokrok/ValidationSummary" = true := by first | (simp [plainName, overriddenIn]; done) | decide +kernel
def Ctx3 (p : Program) (s : State) (m : MethodId) (meth : Method) (c : Code) (Z : State) (a0 : Array Value) : Prop := p.tables.exec = Jvm.exec ∧ Z.Warmed39 s.vm ∧ (∀ d ∈ tables_1, d.before a0 Z = true) ∧ c.code = prog_39_method_4_code ∧ c.maxLocals = 1 ∧ s.vm.findClass "com/example/mokrok/mokrok/ValidationSummary" = some m.cls ∧ meth.sig.returnType = (some .boolean) ∧ meth.locks = false ∧ meth.name = "quarantinedAny"
theorem d4_0 : decode prog_39_method_3_code 0 = .ok (.aload_n 0, 1) := by decide +kernel
theorem d4_1 : decode prog_39_method_3_code 1 = .ok (.dup, 1) := by decide +kernel
theorem d4_2 : decode prog_39_method_3_code 2 = .ok (.getfield 7, 3) := by decide +kernel
theorem d4_5 : decode prog_39_method_3_code 5 = .ok (.lconst 1, 1) := by decide +kernel
theorem d4_6 : decode prog_39_method_3_code 6 = .ok (.ladd, 1) := by decide +kernel
theorem d4_7 : decode prog_39_method_3_code 7 = .ok (.putfield 7, 3) := by decide +kernel
theorem d4_10 : decode prog_39_method_3_code 10 = .ok (.aload_n 0, 1) := by decide +kernel
theorem d4_11 : decode prog_39_method_3_code 11 = .ok (.dup, 1) := by decide +kernel
theorem d4_12 : decode prog_39_method_3_code 12 = .ok (.getfield 19, 3) := by decide +kernel
theorem d4_15 : decode prog_39_method_3_code 15 = .ok (.lconst 1, 1) := by decide +kernel
theorem d4_16 : decode prog_39_method_3_code 16 = .ok (.ladd, 1) := by decide +kernel
theorem d4_17 : decode prog_39_method_3_code 17 = .ok (.putfield 19, 3) := by decide +kernel
theorem d4_20 : decode prog_39_method_3_code 20 = .ok (.return_, 1) := by decide +kernel
theorem pn_4 : plainName "com/example/mokrok/mokrok/ValidationSummary" = true := by first | (simp [plainName, overriddenIn]; done) | decide +kernel
def Ctx4 (p : Program) (s : State) (m : MethodId) (meth : Method) (c : Code) (Z : State) (a0 : Array Value) : Prop := p.tables.exec = Jvm.exec ∧ Z.Warmed39 s.vm ∧ (∀ d ∈ tables_1, d.before a0 Z = true) ∧ c.code = prog_39_method_3_code ∧ c.maxLocals = 1 ∧ s.vm.findClass "com/example/mokrok/mokrok/ValidationSummary" = some m.cls ∧ meth.sig.returnType = none ∧ meth.locks = false ∧ meth.name = "quarantined"
theorem d5_0 : decode prog_39_method_2_code 0 = .ok (.aload_n 0, 1) := by decide +kernel
theorem d5_1 : decode prog_39_method_2_code 1 = .ok (.dup, 1) := by decide +kernel
theorem d5_2 : decode prog_39_method_2_code 2 = .ok (.getfield 7, 3) := by decide +kernel
theorem d5_5 : decode prog_39_method_2_code 5 = .ok (.lconst 1, 1) := by decide +kernel
theorem d5_6 : decode prog_39_method_2_code 6 = .ok (.ladd, 1) := by decide +kernel
theorem d5_7 : decode prog_39_method_2_code 7 = .ok (.putfield 7, 3) := by decide +kernel
theorem d5_10 : decode prog_39_method_2_code 10 = .ok (.aload_n 0, 1) := by decide +kernel
theorem d5_11 : decode prog_39_method_2_code 11 = .ok (.dup, 1) := by decide +kernel
theorem d5_12 : decode prog_39_method_2_code 12 = .ok (.getfield 13, 3) := by decide +kernel
theorem d5_15 : decode prog_39_method_2_code 15 = .ok (.lconst 1, 1) := by decide +kernel
theorem d5_16 : decode prog_39_method_2_code 16 = .ok (.ladd, 1) := by decide +kernel
theorem d5_17 : decode prog_39_method_2_code 17 = .ok (.putfield 13, 3) := by decide +kernel
theorem d5_20 : decode prog_39_method_2_code 20 = .ok (.aload_n 0, 1) := by decide +kernel
theorem d5_21 : decode prog_39_method_2_code 21 = .ok (.dup, 1) := by decide +kernel
theorem d5_22 : decode prog_39_method_2_code 22 = .ok (.getfield 16, 3) := by decide +kernel
theorem d5_25 : decode prog_39_method_2_code 25 = .ok (.iload_n 1, 1) := by decide +kernel
theorem d5_26 : decode prog_39_method_2_code 26 = .ok (.i2l, 1) := by decide +kernel
theorem d5_27 : decode prog_39_method_2_code 27 = .ok (.ladd, 1) := by decide +kernel
theorem d5_28 : decode prog_39_method_2_code 28 = .ok (.putfield 16, 3) := by decide +kernel
theorem d5_31 : decode prog_39_method_2_code 31 = .ok (.return_, 1) := by decide +kernel
theorem pn_5 : plainName "com/example/mokrok/mokrok/ValidationSummary" = true := by first | (simp [plainName, overriddenIn]; done) | decide +kernel
def Ctx5 (p : Program) (s : State) (m : MethodId) (meth : Method) (c : Code) (Z : State) (a0 : Array Value) : Prop := p.tables.exec = Jvm.exec ∧ Z.Warmed39 s.vm ∧ (∀ d ∈ tables_1, d.before a0 Z = true) ∧ c.code = prog_39_method_2_code ∧ c.maxLocals = 2 ∧ s.vm.findClass "com/example/mokrok/mokrok/ValidationSummary" = some m.cls ∧ meth.sig.returnType = none ∧ meth.locks = false ∧ meth.name = "published"
theorem own_pd0 : parseMethodDescriptor "()Z" = some ⟨[], some .boolean⟩ := by decide +kernel
theorem own_pd1 : parseMethodDescriptor "(I)V" = some ⟨[.int], none⟩ := by decide +kernel
theorem own_pd2 : parseMethodDescriptor "()V" = some ⟨[], none⟩ := by decide +kernel
def Q1 (Z : State) (a : Addr) (h0 : Heap) (n0 : Nat) (v : Option Value) (h : Heap) (L : List Loc) : Prop := v = none ∧ Fr n0 L ∧ h = h0
theorem own_ef_rm1 (m : MethodId) (x0 : Addr) : entryFrame m #[(.ref x0)] 1 = mkF m 0 #[.val (.ref x0)] [] := by first | (simp [entryFrame, mkF, argsToLocals, Value.category]; done) | rfl
set_option maxRecDepth 65536 in
set_option maxHeartbeats 40000000 in
theorem rm1 (l : Launch) (Z : State) (a0 : Array Value) (hw : ∀ d ∈ tables_1, d.before a0 Z = true) (ws : List Jvm.Cond) (a : Addr) (h0 : Heap) (n0 : Nat) (Z0 : n0 ≤ h0.size) :
    MetFree l (⟨"com/example/mokrok/mokrok/ValidationSummary", "<init>", "()V"⟩ : MethodName) (head1 (Jvm.Cond.code (⟨"com/example/mokrok/mokrok/ValidationSummary", "<init>", "()V"⟩ : MethodName) prog_39_method_1_code 1 none :: ws) ({ frames := 1, cells := 0, slots := 0, locals := 12 } : Room)) (fun aQ UQ => aQ = #[(.ref a)] ∧ Z.Warmed39 UQ.vm ∧ UQ.heap = h0) (fun _ _ _ _ _ => True) (fun _ UQ oQ UR => ∃ vQ LQ, oQ = .returned vQ ∧ Q1 Z a h0 n0 vQ UR.heap LQ ∧ FrameEnd UQ oQ UR LQ ({ frames := 1, cells := 0, slots := 0, locals := 12 } : Room).cells ({ frames := 1, cells := 0, slots := 0, locals := 12 } : Room).slots) := by
  refine MetFree.of_bodySF (plainFor_of_name pn_1) hisR ?_
  intro p e s m args below meth c s₁ Bd hml0 hP hK
  obtain ⟨rfl, hZ, hh⟩ := hP
  have hx := Bd.exec
  have hby := Bd.bytes
  have hml : c.maxLocals = 1 := hml0
  have hown : s.vm.findClass "com/example/mokrok/mokrok/ValidationSummary" = some m.cls := findClass_of_methodNamed Bd.named
  have hnm := (name_of_methodNamed Bd.named Bd.method).1
  have hret := Bd.returns
  have hlk : meth.locks = false := Bd.notSynchronized
  have X0 : Stand p l e ({ frames := 1, cells := 0, slots := 0, locals := 12 } : Room) s m #[(.ref a)] below meth c s₁ [] 0 0 := Stand.of_body Bd
  have e0 : s₁.heap = h0 := by rw [← hh, Bd.state]; rfl
  have N0 := Fr.nil n0
  have K : Ctx1 p s m meth c Z a0 := ⟨hx, hZ, hw, hby, hml, hown, hret, hlk, hnm⟩
  show OwnGo p e below s ({ frames := 1, cells := 0, slots := 0, locals := 12 } : Room).cells ({ frames := 1, cells := 0, slots := 0, locals := 12 } : Room).slots (Q1 Z a h0 n0) s₁ (entryFrame m #[(.ref a)] 1)
  refine own_cast (own_ef_rm1 m a) ?_
  show OwnGo p e below s _ _ _ s₁ (mkF m 0 #[.val (.ref a)] [])
  refine own_st (T' := s₁) (g' := (mkF m 1 #[.val (.ref a)] [(.ref a)])) (fun uT uK => ?_) ?_
  · show Steps p.tables e below (s₁.setTop (mkF m 0 #[.val (.ref a)] [])) _
    refine XS.aloadN X0.here hx rfl (hb hby d1_0) rfl rfl ?_
    exact uK
  obtain ⟨T1, X1, e1, st1⟩ := initO X0 hx hZ hown (hw _ (List.mem_of_getElem? (i := 6) rfl)) (hw _ (List.mem_of_getElem? (i := 7) rfl)) (hw _ (List.mem_of_getElem? (i := 8) rfl)) e0 (g := (mkF m 1 #[.val (.ref a)] [(.ref a)])) rfl (by rw [hml]; rfl) rfl (hb hby d1_1) (by decide) (W := 0) (by show 2 * 0 + _ ≤ _; exact Nat.le_of_eq rfl) (by decide)
  refine own_st st1 ?_
  show OwnGo p e below s _ _ _ T1 (mkF m 4 #[.val (.ref a)] [])
  exact own_ret (v := none) X1 hlk (fun _ => rfl) (fun fs hr => X1.returnOut hx hret (hb hby d1_4) hr) (by rw [e1]; exact ⟨rfl, N0, rfl⟩) (by decide) (by decide)
def Q3 (Z : State) (a : Addr) (k : Int64) (h0 : Heap) (n0 : Nat) (v : Option Value) (h : Heap) (L : List Loc) : Prop := v = some (.int (own_any k)) ∧ Fr n0 L ∧ h = h0
theorem own_ef_rm3 (m : MethodId) (x0 : Addr) : entryFrame m #[(.ref x0)] 1 = mkF m 0 #[.val (.ref x0)] [] := by first | (simp [entryFrame, mkF, argsToLocals, Value.category]; done) | rfl
set_option maxRecDepth 65536 in
set_option maxHeartbeats 40000000 in
theorem rm3 (l : Launch) (Z : State) (a0 : Array Value) (hw : ∀ d ∈ tables_1, d.before a0 Z = true) (ws : List Jvm.Cond) (a : Addr) (k : Int64) (h0 : Heap) (n0 : Nat) (Z0 : n0 ≤ h0.size) (Fq : Fld Z h0 a "com/example/mokrok/mokrok/ValidationSummary" "recordsQuarantined" "J" (.long k)) :
    MetFree l (⟨"com/example/mokrok/mokrok/ValidationSummary", "quarantinedAny", "()Z"⟩ : MethodName) (head1 (Jvm.Cond.code (⟨"com/example/mokrok/mokrok/ValidationSummary", "quarantinedAny", "()Z"⟩ : MethodName) prog_39_method_4_code 1 (some .boolean) :: ws) ({ frames := 0, cells := 0, slots := 0, locals := 0 } : Room)) (fun aQ UQ => aQ = #[(.ref a)] ∧ Z.Warmed39 UQ.vm ∧ UQ.heap = h0) (fun _ _ _ _ _ => True) (fun _ UQ oQ UR => ∃ vQ LQ, oQ = .returned vQ ∧ Q3 Z a k h0 n0 vQ UR.heap LQ ∧ FrameEnd UQ oQ UR LQ ({ frames := 0, cells := 0, slots := 0, locals := 0 } : Room).cells ({ frames := 0, cells := 0, slots := 0, locals := 0 } : Room).slots) := by
  refine MetFree.of_bodySF (plainFor_of_name pn_3) hisR ?_
  intro p e s m args below meth c s₁ Bd hml0 hP hK
  obtain ⟨rfl, hZ, hh⟩ := hP
  have hx := Bd.exec
  have hby := Bd.bytes
  have hml : c.maxLocals = 1 := hml0
  have hown : s.vm.findClass "com/example/mokrok/mokrok/ValidationSummary" = some m.cls := findClass_of_methodNamed Bd.named
  have hnm := (name_of_methodNamed Bd.named Bd.method).1
  have hret := Bd.returns
  have hlk : meth.locks = false := Bd.notSynchronized
  have X0 : Stand p l e ({ frames := 0, cells := 0, slots := 0, locals := 0 } : Room) s m #[(.ref a)] below meth c s₁ [] 0 0 := Stand.of_body Bd
  have e0 : s₁.heap = h0 := by rw [← hh, Bd.state]; rfl
  have N0 := Fr.nil n0
  have K : Ctx3 p s m meth c Z a0 := ⟨hx, hZ, hw, hby, hml, hown, hret, hlk, hnm⟩
  show OwnGo p e below s ({ frames := 0, cells := 0, slots := 0, locals := 0 } : Room).cells ({ frames := 0, cells := 0, slots := 0, locals := 0 } : Room).slots (Q3 Z a k h0 n0) s₁ (entryFrame m #[(.ref a)] 1)
  refine own_cast (own_ef_rm3 m a) ?_
  show OwnGo p e below s _ _ _ s₁ (mkF m 0 #[.val (.ref a)] [])
  refine own_st (T' := s₁) (g' := (mkF m 1 #[.val (.ref a)] [(.ref a)])) (fun uT uK => ?_) ?_
  · show Steps p.tables e below (s₁.setTop (mkF m 0 #[.val (.ref a)] [])) _
    refine XS.aloadN X0.here hx rfl (hb hby d3_0) rfl rfl ?_
    exact uK
  obtain ⟨T1, X1, e1, st1⟩ := getF X0 hx hZ hown (host := "") (Or.inl (hw _ (List.mem_of_getElem? (i := 14) rfl))) Via.refl e0 Fq (g := (mkF m 1 #[.val (.ref a)] [(.ref a)])) rfl rfl (hb hby d3_1)
  refine own_st st1 ?_
  show OwnGo p e below s _ _ _ T1 (mkF m 4 #[.val (.ref a)] [(.long k)])
  refine own_st (T' := T1) (g' := (mkF m 6 #[.val (.ref a)] [(.int (XT.cmpL k (0 : Int64)))])) (fun uT uK => ?_) ?_
  · show Steps p.tables e below (T1.setTop (mkF m 4 #[.val (.ref a)] [(.long k)])) _
    refine XT.lconst X1.here hx rfl (hb hby d3_4) ?_
    show Steps p.tables e below (T1.setTop (mkF m 5 #[.val (.ref a)] [(.long (0 : Int64)), (.long k)])) _
    refine XT.lcmp X1.here hx rfl (hb hby d3_5) rfl ?_
    exact uK
  by_cases hc6 : (0 : Int64) < k
  · refine own_st (T' := T1) (g' := (mkF m 14 #[.val (.ref a)] [(.int (1 : Int32))])) (fun uT uK => ?_) ?_
    · show Steps p.tables e below (T1.setTop (mkF m 6 #[.val (.ref a)] [(.int (XT.cmpL k (0 : Int64)))])) _
      refine XS.ifNo X1.here hx rfl (hb hby d3_6) rfl (XT.ll_le_f hc6) ?_
      show Steps p.tables e below (T1.setTop (mkF m 9 #[.val (.ref a)] [])) _
      refine XS.iconst X1.here hx rfl (hb hby d3_9) ?_
      show Steps p.tables e below (T1.setTop (mkF m 10 #[.val (.ref a)] [(.int (1 : Int32))])) _
      refine XS.goto X1.here hx rfl (pc0 := 10) (pc' := 14) rfl (hb hby d3_10) (by decide) (by decide) ?_
      exact uK
    exact own_ret (v := some (.int (1 : Int32))) X1 hlk (fun h => by rw [hret] at h; cases h) (fun fs hr => retOut X1 hx hret rfl (Or.inl ⟨rfl, by simp, _, rfl⟩) (hb hby d3_14) hr) (by rw [e1]; exact ⟨by first | rw [own_any, if_pos hc6] | rw [own_any, if_neg hc6], N0, rfl⟩) (by decide) (by decide)
  · refine own_st (T' := T1) (g' := (mkF m 14 #[.val (.ref a)] [(.int (0 : Int32))])) (fun uT uK => ?_) ?_
    · show Steps p.tables e below (T1.setTop (mkF m 6 #[.val (.ref a)] [(.int (XT.cmpL k (0 : Int64)))])) _
      refine XS.ifYes X1.here hx rfl (pc0 := 6) (pc' := 13) rfl (hb hby d3_6) rfl (XT.ll_le_t hc6) (by decide) (by decide) ?_
      show Steps p.tables e below (T1.setTop (mkF m 13 #[.val (.ref a)] [])) _
      refine XS.iconst X1.here hx rfl (hb hby d3_13) ?_
      exact uK
    exact own_ret (v := some (.int (0 : Int32))) X1 hlk (fun h => by rw [hret] at h; cases h) (fun fs hr => retOut X1 hx hret rfl (Or.inl ⟨rfl, by simp, _, rfl⟩) (hb hby d3_14) hr) (by rw [e1]; exact ⟨by first | rw [own_any, if_pos hc6] | rw [own_any, if_neg hc6], N0, rfl⟩) (by decide) (by decide)
def Q4 (Z : State) (a : Addr) (r : Int64) (u : Int64) (b : Int64) (k : Int64) (h0 : Heap) (n0 : Nat) (v : Option Value) (h : Heap) (L : List Loc) : Prop := v = none ∧ Fr n0 L ∧ Keep h0 h [a] ∧ Exa Z h a "com/example/mokrok/mokrok/ValidationSummary" ∧ Fld Z h a "com/example/mokrok/mokrok/ValidationSummary" "recordsRead" "J" (.long (r + 1)) ∧ Fld Z h a "com/example/mokrok/mokrok/ValidationSummary" "recordsPublished" "J" (.long u) ∧ Fld Z h a "com/example/mokrok/mokrok/ValidationSummary" "problems" "J" (.long b) ∧ Fld Z h a "com/example/mokrok/mokrok/ValidationSummary" "recordsQuarantined" "J" (.long (k + 1))
theorem own_ef_rm4 (m : MethodId) (x0 : Addr) : entryFrame m #[(.ref x0)] 1 = mkF m 0 #[.val (.ref x0)] [] := by first | (simp [entryFrame, mkF, argsToLocals, Value.category]; done) | rfl
set_option maxRecDepth 65536 in
set_option maxHeartbeats 40000000 in
theorem rm4 (l : Launch) (Z : State) (a0 : Array Value) (hw : ∀ d ∈ tables_1, d.before a0 Z = true) (ws : List Jvm.Cond) (a : Addr) (r : Int64) (u : Int64) (b : Int64) (k : Int64) (h0 : Heap) (n0 : Nat) (Z0 : n0 ≤ h0.size) (E_a : Exa Z h0 a "com/example/mokrok/mokrok/ValidationSummary") (F_r : Fld Z h0 a "com/example/mokrok/mokrok/ValidationSummary" "recordsRead" "J" (.long r)) (F_u : Fld Z h0 a "com/example/mokrok/mokrok/ValidationSummary" "recordsPublished" "J" (.long u)) (F_b : Fld Z h0 a "com/example/mokrok/mokrok/ValidationSummary" "problems" "J" (.long b)) (F_k : Fld Z h0 a "com/example/mokrok/mokrok/ValidationSummary" "recordsQuarantined" "J" (.long k)) (g_a : n0 ≤ a) :
    MetFree l (⟨"com/example/mokrok/mokrok/ValidationSummary", "quarantined", "()V"⟩ : MethodName) (head1 (Jvm.Cond.code (⟨"com/example/mokrok/mokrok/ValidationSummary", "quarantined", "()V"⟩ : MethodName) prog_39_method_3_code 1 none :: ws) ({ frames := 0, cells := 0, slots := 0, locals := 0 } : Room)) (fun aQ UQ => aQ = #[(.ref a)] ∧ Z.Warmed39 UQ.vm ∧ UQ.heap = h0) (fun _ _ _ _ _ => True) (fun _ UQ oQ UR => ∃ vQ LQ, oQ = .returned vQ ∧ Q4 Z a r u b k h0 n0 vQ UR.heap LQ ∧ FrameEnd UQ oQ UR LQ ({ frames := 0, cells := 0, slots := 0, locals := 0 } : Room).cells ({ frames := 0, cells := 0, slots := 0, locals := 0 } : Room).slots) := by
  refine MetFree.of_bodySF (plainFor_of_name pn_4) hisR ?_
  intro p e s m args below meth c s₁ Bd hml0 hP hK
  obtain ⟨rfl, hZ, hh⟩ := hP
  have hx := Bd.exec
  have hby := Bd.bytes
  have hml : c.maxLocals = 1 := hml0
  have hown : s.vm.findClass "com/example/mokrok/mokrok/ValidationSummary" = some m.cls := findClass_of_methodNamed Bd.named
  have hnm := (name_of_methodNamed Bd.named Bd.method).1
  have hret := Bd.returns
  have hlk : meth.locks = false := Bd.notSynchronized
  have X0 : Stand p l e ({ frames := 0, cells := 0, slots := 0, locals := 0 } : Room) s m #[(.ref a)] below meth c s₁ [] 0 0 := Stand.of_body Bd
  have e0 : s₁.heap = h0 := by rw [← hh, Bd.state]; rfl
  have N0 := Fr.nil n0
  have K : Ctx4 p s m meth c Z a0 := ⟨hx, hZ, hw, hby, hml, hown, hret, hlk, hnm⟩
  show OwnGo p e below s ({ frames := 0, cells := 0, slots := 0, locals := 0 } : Room).cells ({ frames := 0, cells := 0, slots := 0, locals := 0 } : Room).slots (Q4 Z a r u b k h0 n0) s₁ (entryFrame m #[(.ref a)] 1)
  refine own_cast (own_ef_rm4 m a) ?_
  show OwnGo p e below s _ _ _ s₁ (mkF m 0 #[.val (.ref a)] [])
  refine own_st (T' := s₁) (g' := (mkF m 2 #[.val (.ref a)] [(.ref a), (.ref a)])) (fun uT uK => ?_) ?_
  · show Steps p.tables e below (s₁.setTop (mkF m 0 #[.val (.ref a)] [])) _
    refine XS.aloadN X0.here hx rfl (hb hby d4_0) rfl rfl ?_
    show Steps p.tables e below (s₁.setTop (mkF m 1 #[.val (.ref a)] [(.ref a)])) _
    refine XS.dup X0.here hx rfl (hb hby d4_1) rfl rfl ?_
    exact uK
  obtain ⟨T1, X1, e1, st1⟩ := getF X0 hx hZ hown (host := "") (Or.inl (hw _ (List.mem_of_getElem? (i := 21) rfl))) Via.refl e0 F_r (g := (mkF m 2 #[.val (.ref a)] [(.ref a), (.ref a)])) rfl rfl (hb hby d4_2)
  refine own_st st1 ?_
  show OwnGo p e below s _ _ _ T1 (mkF m 5 #[.val (.ref a)] [(.long r), (.ref a)])
  refine own_st (T' := T1) (g' := (mkF m 7 #[.val (.ref a)] [(.long (r + (1 : Int64))), (.ref a)])) (fun uT uK => ?_) ?_
  · show Steps p.tables e below (T1.setTop (mkF m 5 #[.val (.ref a)] [(.long r), (.ref a)])) _
    refine XT.lconst X1.here hx rfl (hb hby d4_5) ?_
    show Steps p.tables e below (T1.setTop (mkF m 6 #[.val (.ref a)] [(.long (1 : Int64)), (.long r), (.ref a)])) _
    refine XT.ladd X1.here hx rfl (hb hby d4_6) rfl ?_
    exact uK
  obtain ⟨T2, h2, X2, e2, W2, st2⟩ := putF X1 hx hZ hown (host := "") (Or.inl (hw _ (List.mem_of_getElem? (i := 21) rfl))) Via.refl e1 F_r E_a (Or.inl (hw _ (List.mem_of_getElem? (i := 22) rfl))) (hw _ (List.mem_of_getElem? (i := 1) rfl)) (ty := .long) (by decide) rfl rfl (g := (mkF m 7 #[.val (.ref a)] [(.long (r + (1 : Int64))), (.ref a)])) rfl rfl (hb hby d4_7)
  have E2_a := (E_a).wr W2
  have K2 := (Keep.refl h0 [a]).wr W2 (Or.inl (List.mem_of_getElem? (i := 0) rfl))
  have F2_recordsRead_a := (F_r).same W2
  have F2_recordsPublished_a := (F_u).other W2 (Or.inr (slot_ne (Or.inl (hw _ (List.mem_of_getElem? (i := 29) rfl))) (Or.inl (hw _ (List.mem_of_getElem? (i := 22) rfl))) (by decide) (t := .long) (t' := .long) (by decide) (by decide)))
  have F2_problems_a := (F_b).other W2 (Or.inr (slot_ne (Or.inl (hw _ (List.mem_of_getElem? (i := 31) rfl))) (Or.inl (hw _ (List.mem_of_getElem? (i := 22) rfl))) (by decide) (t := .long) (t' := .long) (by decide) (by decide)))
  have F2_recordsQuarantined_a := (F_k).other W2 (Or.inr (slot_ne (Or.inl (hw _ (List.mem_of_getElem? (i := 15) rfl))) (Or.inl (hw _ (List.mem_of_getElem? (i := 22) rfl))) (by decide) (t := .long) (t' := .long) (by decide) (by decide)))
  have N2 := Fr.snoc X2 N0 g_a
  have Z2 : n0 ≤ h2.size := Nat.le_trans Z0 (Keep.of_wr W2).1
  refine own_st st2 ?_
  show OwnGo p e below s _ _ _ T2 (mkF m 10 #[.val (.ref a)] [])
  refine own_st (T' := T2) (g' := (mkF m 12 #[.val (.ref a)] [(.ref a), (.ref a)])) (fun uT uK => ?_) ?_
  · show Steps p.tables e below (T2.setTop (mkF m 10 #[.val (.ref a)] [])) _
    refine XS.aloadN X2.here hx rfl (hb hby d4_10) rfl rfl ?_
    show Steps p.tables e below (T2.setTop (mkF m 11 #[.val (.ref a)] [(.ref a)])) _
    refine XS.dup X2.here hx rfl (hb hby d4_11) rfl rfl ?_
    exact uK
  obtain ⟨T3, X3, e3, st3⟩ := getF X2 hx hZ hown (host := "") (Or.inl (hw _ (List.mem_of_getElem? (i := 14) rfl))) Via.refl e2 F2_recordsQuarantined_a (g := (mkF m 12 #[.val (.ref a)] [(.ref a), (.ref a)])) rfl rfl (hb hby d4_12)
  refine own_st st3 ?_
  show OwnGo p e below s _ _ _ T3 (mkF m 15 #[.val (.ref a)] [(.long k), (.ref a)])
  refine own_st (T' := T3) (g' := (mkF m 17 #[.val (.ref a)] [(.long (k + (1 : Int64))), (.ref a)])) (fun uT uK => ?_) ?_
  · show Steps p.tables e below (T3.setTop (mkF m 15 #[.val (.ref a)] [(.long k), (.ref a)])) _
    refine XT.lconst X3.here hx rfl (hb hby d4_15) ?_
    show Steps p.tables e below (T3.setTop (mkF m 16 #[.val (.ref a)] [(.long (1 : Int64)), (.long k), (.ref a)])) _
    refine XT.ladd X3.here hx rfl (hb hby d4_16) rfl ?_
    exact uK
  obtain ⟨T4, h4, X4, e4, W4, st4⟩ := putF X3 hx hZ hown (host := "") (Or.inl (hw _ (List.mem_of_getElem? (i := 14) rfl))) Via.refl e3 F2_recordsQuarantined_a E2_a (Or.inl (hw _ (List.mem_of_getElem? (i := 15) rfl))) (hw _ (List.mem_of_getElem? (i := 1) rfl)) (ty := .long) (by decide) rfl rfl (g := (mkF m 17 #[.val (.ref a)] [(.long (k + (1 : Int64))), (.ref a)])) rfl rfl (hb hby d4_17)
  have E4_a := (E2_a).wr W4
  have K4 := (K2).wr W4 (Or.inl (List.mem_of_getElem? (i := 0) rfl))
  have F4_recordsRead_a := (F2_recordsRead_a).other W4 (Or.inr (slot_ne (Or.inl (hw _ (List.mem_of_getElem? (i := 22) rfl))) (Or.inl (hw _ (List.mem_of_getElem? (i := 15) rfl))) (by decide) (t := .long) (t' := .long) (by decide) (by decide)))
  have F4_recordsPublished_a := (F2_recordsPublished_a).other W4 (Or.inr (slot_ne (Or.inl (hw _ (List.mem_of_getElem? (i := 29) rfl))) (Or.inl (hw _ (List.mem_of_getElem? (i := 15) rfl))) (by decide) (t := .long) (t' := .long) (by decide) (by decide)))
  have F4_problems_a := (F2_problems_a).other W4 (Or.inr (slot_ne (Or.inl (hw _ (List.mem_of_getElem? (i := 31) rfl))) (Or.inl (hw _ (List.mem_of_getElem? (i := 15) rfl))) (by decide) (t := .long) (t' := .long) (by decide) (by decide)))
  have F4_recordsQuarantined_a := (F2_recordsQuarantined_a).same W4
  have N4 := Fr.snoc X4 N2 g_a
  have Z4 : n0 ≤ h4.size := Nat.le_trans Z2 (Keep.of_wr W4).1
  refine own_st st4 ?_
  show OwnGo p e below s _ _ _ T4 (mkF m 20 #[.val (.ref a)] [])
  exact own_ret (v := none) X4 hlk (fun _ => rfl) (fun fs hr => X4.returnOut hx hret (hb hby d4_20) hr) (by rw [e4]; exact ⟨rfl, N4, K4, E4_a, F4_recordsRead_a, F4_recordsPublished_a, F4_problems_a, F4_recordsQuarantined_a⟩) (by decide) (by decide)
def Q5 (Z : State) (a : Addr) (r : Int64) (u : Int64) (b : Int64) (k : Int64) (pv : Int32) (h0 : Heap) (n0 : Nat) (v : Option Value) (h : Heap) (L : List Loc) : Prop := v = none ∧ Fr n0 L ∧ Keep h0 h [a] ∧ Exa Z h a "com/example/mokrok/mokrok/ValidationSummary" ∧ Fld Z h a "com/example/mokrok/mokrok/ValidationSummary" "recordsRead" "J" (.long (r + 1)) ∧ Fld Z h a "com/example/mokrok/mokrok/ValidationSummary" "recordsPublished" "J" (.long (u + 1)) ∧ Fld Z h a "com/example/mokrok/mokrok/ValidationSummary" "problems" "J" (.long (b + pv.toInt64)) ∧ Fld Z h a "com/example/mokrok/mokrok/ValidationSummary" "recordsQuarantined" "J" (.long k)
theorem own_ef_rm5 (m : MethodId) (x0 : Addr) (x1 : Int32) : entryFrame m #[(.ref x0), (.int x1)] 2 = mkF m 0 #[.val (.ref x0), .val (.int x1)] [] := by first | (simp [entryFrame, mkF, argsToLocals, Value.category]; done) | rfl
set_option maxRecDepth 65536 in
set_option maxHeartbeats 40000000 in
theorem rm5 (l : Launch) (Z : State) (a0 : Array Value) (hw : ∀ d ∈ tables_1, d.before a0 Z = true) (ws : List Jvm.Cond) (a : Addr) (r : Int64) (u : Int64) (b : Int64) (k : Int64) (pv : Int32) (h0 : Heap) (n0 : Nat) (Z0 : n0 ≤ h0.size) (E_a : Exa Z h0 a "com/example/mokrok/mokrok/ValidationSummary") (F_r : Fld Z h0 a "com/example/mokrok/mokrok/ValidationSummary" "recordsRead" "J" (.long r)) (F_u : Fld Z h0 a "com/example/mokrok/mokrok/ValidationSummary" "recordsPublished" "J" (.long u)) (F_b : Fld Z h0 a "com/example/mokrok/mokrok/ValidationSummary" "problems" "J" (.long b)) (F_k : Fld Z h0 a "com/example/mokrok/mokrok/ValidationSummary" "recordsQuarantined" "J" (.long k)) (g_a : n0 ≤ a) :
    MetFree l (⟨"com/example/mokrok/mokrok/ValidationSummary", "published", "(I)V"⟩ : MethodName) (head1 (Jvm.Cond.code (⟨"com/example/mokrok/mokrok/ValidationSummary", "published", "(I)V"⟩ : MethodName) prog_39_method_2_code 2 none :: ws) ({ frames := 0, cells := 0, slots := 0, locals := 0 } : Room)) (fun aQ UQ => aQ = #[(.ref a), (.int pv)] ∧ Z.Warmed39 UQ.vm ∧ UQ.heap = h0) (fun _ _ _ _ _ => True) (fun _ UQ oQ UR => ∃ vQ LQ, oQ = .returned vQ ∧ Q5 Z a r u b k pv h0 n0 vQ UR.heap LQ ∧ FrameEnd UQ oQ UR LQ ({ frames := 0, cells := 0, slots := 0, locals := 0 } : Room).cells ({ frames := 0, cells := 0, slots := 0, locals := 0 } : Room).slots) := by
  refine MetFree.of_bodySF (plainFor_of_name pn_5) hisR ?_
  intro p e s m args below meth c s₁ Bd hml0 hP hK
  obtain ⟨rfl, hZ, hh⟩ := hP
  have hx := Bd.exec
  have hby := Bd.bytes
  have hml : c.maxLocals = 2 := hml0
  have hown : s.vm.findClass "com/example/mokrok/mokrok/ValidationSummary" = some m.cls := findClass_of_methodNamed Bd.named
  have hnm := (name_of_methodNamed Bd.named Bd.method).1
  have hret := Bd.returns
  have hlk : meth.locks = false := Bd.notSynchronized
  have X0 : Stand p l e ({ frames := 0, cells := 0, slots := 0, locals := 0 } : Room) s m #[(.ref a), (.int pv)] below meth c s₁ [] 0 0 := Stand.of_body Bd
  have e0 : s₁.heap = h0 := by rw [← hh, Bd.state]; rfl
  have N0 := Fr.nil n0
  have K : Ctx5 p s m meth c Z a0 := ⟨hx, hZ, hw, hby, hml, hown, hret, hlk, hnm⟩
  show OwnGo p e below s ({ frames := 0, cells := 0, slots := 0, locals := 0 } : Room).cells ({ frames := 0, cells := 0, slots := 0, locals := 0 } : Room).slots (Q5 Z a r u b k pv h0 n0) s₁ (entryFrame m #[(.ref a), (.int pv)] 2)
  refine own_cast (own_ef_rm5 m a pv) ?_
  show OwnGo p e below s _ _ _ s₁ (mkF m 0 #[.val (.ref a), .val (.int pv)] [])
  refine own_st (T' := s₁) (g' := (mkF m 2 #[.val (.ref a), .val (.int pv)] [(.ref a), (.ref a)])) (fun uT uK => ?_) ?_
  · show Steps p.tables e below (s₁.setTop (mkF m 0 #[.val (.ref a), .val (.int pv)] [])) _
    refine XS.aloadN X0.here hx rfl (hb hby d5_0) rfl rfl ?_
    show Steps p.tables e below (s₁.setTop (mkF m 1 #[.val (.ref a), .val (.int pv)] [(.ref a)])) _
    refine XS.dup X0.here hx rfl (hb hby d5_1) rfl rfl ?_
    exact uK
  obtain ⟨T1, X1, e1, st1⟩ := getF X0 hx hZ hown (host := "") (Or.inl (hw _ (List.mem_of_getElem? (i := 21) rfl))) Via.refl e0 F_r (g := (mkF m 2 #[.val (.ref a), .val (.int pv)] [(.ref a), (.ref a)])) rfl rfl (hb hby d5_2)
  refine own_st st1 ?_
  show OwnGo p e below s _ _ _ T1 (mkF m 5 #[.val (.ref a), .val (.int pv)] [(.long r), (.ref a)])
  refine own_st (T' := T1) (g' := (mkF m 7 #[.val (.ref a), .val (.int pv)] [(.long (r + (1 : Int64))), (.ref a)])) (fun uT uK => ?_) ?_
  · show Steps p.tables e below (T1.setTop (mkF m 5 #[.val (.ref a), .val (.int pv)] [(.long r), (.ref a)])) _
    refine XT.lconst X1.here hx rfl (hb hby d5_5) ?_
    show Steps p.tables e below (T1.setTop (mkF m 6 #[.val (.ref a), .val (.int pv)] [(.long (1 : Int64)), (.long r), (.ref a)])) _
    refine XT.ladd X1.here hx rfl (hb hby d5_6) rfl ?_
    exact uK
  obtain ⟨T2, h2, X2, e2, W2, st2⟩ := putF X1 hx hZ hown (host := "") (Or.inl (hw _ (List.mem_of_getElem? (i := 21) rfl))) Via.refl e1 F_r E_a (Or.inl (hw _ (List.mem_of_getElem? (i := 22) rfl))) (hw _ (List.mem_of_getElem? (i := 1) rfl)) (ty := .long) (by decide) rfl rfl (g := (mkF m 7 #[.val (.ref a), .val (.int pv)] [(.long (r + (1 : Int64))), (.ref a)])) rfl rfl (hb hby d5_7)
  have E2_a := (E_a).wr W2
  have K2 := (Keep.refl h0 [a]).wr W2 (Or.inl (List.mem_of_getElem? (i := 0) rfl))
  have F2_recordsRead_a := (F_r).same W2
  have F2_recordsPublished_a := (F_u).other W2 (Or.inr (slot_ne (Or.inl (hw _ (List.mem_of_getElem? (i := 29) rfl))) (Or.inl (hw _ (List.mem_of_getElem? (i := 22) rfl))) (by decide) (t := .long) (t' := .long) (by decide) (by decide)))
  have F2_problems_a := (F_b).other W2 (Or.inr (slot_ne (Or.inl (hw _ (List.mem_of_getElem? (i := 31) rfl))) (Or.inl (hw _ (List.mem_of_getElem? (i := 22) rfl))) (by decide) (t := .long) (t' := .long) (by decide) (by decide)))
  have F2_recordsQuarantined_a := (F_k).other W2 (Or.inr (slot_ne (Or.inl (hw _ (List.mem_of_getElem? (i := 15) rfl))) (Or.inl (hw _ (List.mem_of_getElem? (i := 22) rfl))) (by decide) (t := .long) (t' := .long) (by decide) (by decide)))
  have N2 := Fr.snoc X2 N0 g_a
  have Z2 : n0 ≤ h2.size := Nat.le_trans Z0 (Keep.of_wr W2).1
  refine own_st st2 ?_
  show OwnGo p e below s _ _ _ T2 (mkF m 10 #[.val (.ref a), .val (.int pv)] [])
  refine own_st (T' := T2) (g' := (mkF m 12 #[.val (.ref a), .val (.int pv)] [(.ref a), (.ref a)])) (fun uT uK => ?_) ?_
  · show Steps p.tables e below (T2.setTop (mkF m 10 #[.val (.ref a), .val (.int pv)] [])) _
    refine XS.aloadN X2.here hx rfl (hb hby d5_10) rfl rfl ?_
    show Steps p.tables e below (T2.setTop (mkF m 11 #[.val (.ref a), .val (.int pv)] [(.ref a)])) _
    refine XS.dup X2.here hx rfl (hb hby d5_11) rfl rfl ?_
    exact uK
  obtain ⟨T3, X3, e3, st3⟩ := getF X2 hx hZ hown (host := "") (Or.inl (hw _ (List.mem_of_getElem? (i := 28) rfl))) Via.refl e2 F2_recordsPublished_a (g := (mkF m 12 #[.val (.ref a), .val (.int pv)] [(.ref a), (.ref a)])) rfl rfl (hb hby d5_12)
  refine own_st st3 ?_
  show OwnGo p e below s _ _ _ T3 (mkF m 15 #[.val (.ref a), .val (.int pv)] [(.long u), (.ref a)])
  refine own_st (T' := T3) (g' := (mkF m 17 #[.val (.ref a), .val (.int pv)] [(.long (u + (1 : Int64))), (.ref a)])) (fun uT uK => ?_) ?_
  · show Steps p.tables e below (T3.setTop (mkF m 15 #[.val (.ref a), .val (.int pv)] [(.long u), (.ref a)])) _
    refine XT.lconst X3.here hx rfl (hb hby d5_15) ?_
    show Steps p.tables e below (T3.setTop (mkF m 16 #[.val (.ref a), .val (.int pv)] [(.long (1 : Int64)), (.long u), (.ref a)])) _
    refine XT.ladd X3.here hx rfl (hb hby d5_16) rfl ?_
    exact uK
  obtain ⟨T4, h4, X4, e4, W4, st4⟩ := putF X3 hx hZ hown (host := "") (Or.inl (hw _ (List.mem_of_getElem? (i := 28) rfl))) Via.refl e3 F2_recordsPublished_a E2_a (Or.inl (hw _ (List.mem_of_getElem? (i := 29) rfl))) (hw _ (List.mem_of_getElem? (i := 1) rfl)) (ty := .long) (by decide) rfl rfl (g := (mkF m 17 #[.val (.ref a), .val (.int pv)] [(.long (u + (1 : Int64))), (.ref a)])) rfl rfl (hb hby d5_17)
  have E4_a := (E2_a).wr W4
  have K4 := (K2).wr W4 (Or.inl (List.mem_of_getElem? (i := 0) rfl))
  have F4_recordsRead_a := (F2_recordsRead_a).other W4 (Or.inr (slot_ne (Or.inl (hw _ (List.mem_of_getElem? (i := 22) rfl))) (Or.inl (hw _ (List.mem_of_getElem? (i := 29) rfl))) (by decide) (t := .long) (t' := .long) (by decide) (by decide)))
  have F4_recordsPublished_a := (F2_recordsPublished_a).same W4
  have F4_problems_a := (F2_problems_a).other W4 (Or.inr (slot_ne (Or.inl (hw _ (List.mem_of_getElem? (i := 31) rfl))) (Or.inl (hw _ (List.mem_of_getElem? (i := 29) rfl))) (by decide) (t := .long) (t' := .long) (by decide) (by decide)))
  have F4_recordsQuarantined_a := (F2_recordsQuarantined_a).other W4 (Or.inr (slot_ne (Or.inl (hw _ (List.mem_of_getElem? (i := 15) rfl))) (Or.inl (hw _ (List.mem_of_getElem? (i := 29) rfl))) (by decide) (t := .long) (t' := .long) (by decide) (by decide)))
  have N4 := Fr.snoc X4 N2 g_a
  have Z4 : n0 ≤ h4.size := Nat.le_trans Z2 (Keep.of_wr W4).1
  refine own_st st4 ?_
  show OwnGo p e below s _ _ _ T4 (mkF m 20 #[.val (.ref a), .val (.int pv)] [])
  refine own_st (T' := T4) (g' := (mkF m 22 #[.val (.ref a), .val (.int pv)] [(.ref a), (.ref a)])) (fun uT uK => ?_) ?_
  · show Steps p.tables e below (T4.setTop (mkF m 20 #[.val (.ref a), .val (.int pv)] [])) _
    refine XS.aloadN X4.here hx rfl (hb hby d5_20) rfl rfl ?_
    show Steps p.tables e below (T4.setTop (mkF m 21 #[.val (.ref a), .val (.int pv)] [(.ref a)])) _
    refine XS.dup X4.here hx rfl (hb hby d5_21) rfl rfl ?_
    exact uK
  obtain ⟨T5, X5, e5, st5⟩ := getF X4 hx hZ hown (host := "") (Or.inl (hw _ (List.mem_of_getElem? (i := 30) rfl))) Via.refl e4 F4_problems_a (g := (mkF m 22 #[.val (.ref a), .val (.int pv)] [(.ref a), (.ref a)])) rfl rfl (hb hby d5_22)
  refine own_st st5 ?_
  show OwnGo p e below s _ _ _ T5 (mkF m 25 #[.val (.ref a), .val (.int pv)] [(.long b), (.ref a)])
  refine own_st (T' := T5) (g' := (mkF m 28 #[.val (.ref a), .val (.int pv)] [(.long (b + (pv.toInt64))), (.ref a)])) (fun uT uK => ?_) ?_
  · show Steps p.tables e below (T5.setTop (mkF m 25 #[.val (.ref a), .val (.int pv)] [(.long b), (.ref a)])) _
    refine XS.iloadN X5.here hx rfl (hb hby d5_25) rfl ?_
    show Steps p.tables e below (T5.setTop (mkF m 26 #[.val (.ref a), .val (.int pv)] [(.int pv), (.long b), (.ref a)])) _
    refine XT.i2l X5.here hx rfl (hb hby d5_26) rfl ?_
    show Steps p.tables e below (T5.setTop (mkF m 27 #[.val (.ref a), .val (.int pv)] [(.long (pv.toInt64)), (.long b), (.ref a)])) _
    refine XT.ladd X5.here hx rfl (hb hby d5_27) rfl ?_
    exact uK
  obtain ⟨T6, h6, X6, e6, W6, st6⟩ := putF X5 hx hZ hown (host := "") (Or.inl (hw _ (List.mem_of_getElem? (i := 30) rfl))) Via.refl e5 F4_problems_a E4_a (Or.inl (hw _ (List.mem_of_getElem? (i := 31) rfl))) (hw _ (List.mem_of_getElem? (i := 1) rfl)) (ty := .long) (by decide) rfl rfl (g := (mkF m 28 #[.val (.ref a), .val (.int pv)] [(.long (b + (pv.toInt64))), (.ref a)])) rfl rfl (hb hby d5_28)
  have E6_a := (E4_a).wr W6
  have K6 := (K4).wr W6 (Or.inl (List.mem_of_getElem? (i := 0) rfl))
  have F6_recordsRead_a := (F4_recordsRead_a).other W6 (Or.inr (slot_ne (Or.inl (hw _ (List.mem_of_getElem? (i := 22) rfl))) (Or.inl (hw _ (List.mem_of_getElem? (i := 31) rfl))) (by decide) (t := .long) (t' := .long) (by decide) (by decide)))
  have F6_recordsPublished_a := (F4_recordsPublished_a).other W6 (Or.inr (slot_ne (Or.inl (hw _ (List.mem_of_getElem? (i := 29) rfl))) (Or.inl (hw _ (List.mem_of_getElem? (i := 31) rfl))) (by decide) (t := .long) (t' := .long) (by decide) (by decide)))
  have F6_problems_a := (F4_problems_a).same W6
  have F6_recordsQuarantined_a := (F4_recordsQuarantined_a).other W6 (Or.inr (slot_ne (Or.inl (hw _ (List.mem_of_getElem? (i := 15) rfl))) (Or.inl (hw _ (List.mem_of_getElem? (i := 31) rfl))) (by decide) (t := .long) (t' := .long) (by decide) (by decide)))
  have N6 := Fr.snoc X6 N4 g_a
  have Z6 : n0 ≤ h6.size := Nat.le_trans Z4 (Keep.of_wr W6).1
  refine own_st st6 ?_
  show OwnGo p e below s _ _ _ T6 (mkF m 31 #[.val (.ref a), .val (.int pv)] [])
  exact own_ret (v := none) X6 hlk (fun _ => rfl) (fun fs hr => X6.returnOut hx hret (hb hby d5_31) hr) (by rw [e6]; exact ⟨rfl, N6, K6, E6_a, F6_recordsRead_a, F6_recordsPublished_a, F6_problems_a, F6_recordsQuarantined_a⟩) (by decide) (by decide)
def Q0 (Z : State) (p1 : Int32) (p2 : Int32) (p3 : Int32) (p4 : Int32) (h0 : Heap) (n0 : Nat) (v : Option Value) (h : Heap) (L : List Loc) : Prop := v = some (.int 1) ∧ Fr n0 L
set_option maxRecDepth 65536 in
set_option maxHeartbeats 40000000 in
theorem own_t177 {p : Program} {l : Launch} {e : Env} {s : State} {m : MethodId} {args : Array Value} {below : List Frame} {meth : Method} {c : Code} {T : State} {locs : List Loc} {Z : State} {a0 : Array Value} {h : Heap} {n0 : Nat} (p1 p2 p3 p4 : Int32) (a : Addr) (r u b k : Int64) (q : Int32) (v7 : Int32) (v8 : Int32) (v9 : Int32) (h0 : Heap) (hk : 0 ≤ k.toInt ∧ k.toInt ≤ 3) (hq : own_any k = q)
    (K : Ctx0 p s m meth c Z a0) (X : Stand p l e room_1 s m args below meth c T locs 1 4) (eT : T.heap = h) (N : Fr n0 locs) (Z0 : n0 ≤ h.size) (E_a : Exa Z h a "com/example/mokrok/mokrok/ValidationSummary") (F_r : Fld Z h a "com/example/mokrok/mokrok/ValidationSummary" "recordsRead" "J" (.long r)) (F_u : Fld Z h a "com/example/mokrok/mokrok/ValidationSummary" "recordsPublished" "J" (.long u)) (F_b : Fld Z h a "com/example/mokrok/mokrok/ValidationSummary" "problems" "J" (.long b)) (F_k : Fld Z h a "com/example/mokrok/mokrok/ValidationSummary" "recordsQuarantined" "J" (.long k)) (g_a : n0 ≤ a) :
    OwnGo p e below s room_1.cells room_1.slots (Q0 Z p1 p2 p3 p4 h0 n0) T (mkF m 177 #[.val (.int p1), .val (.int p2), .val (.int p3), .val (.int p4), .val (.ref a), .val (.int (1 : Int32)), .val (.int q), .val (.int v7), .val (.int v8), .val (.int v9)] []) := by
  obtain ⟨hx, hZ, hw, hby, hml, hown, hret, hlk, hnm⟩ := id K
  refine own_st (T' := T) (g' := (mkF m 184 #[.val (.int p1), .val (.int p2), .val (.int p3), .val (.int p4), .val (.ref a), .val (.int (1 : Int32)), .val (.int q), .val (.int v7), .val (.int v8), .val (.int v9)] [(.ref a)])) (fun uT uK => ?_) ?_
  · show Steps p.tables e below (T.setTop (mkF m 177 #[.val (.int p1), .val (.int p2), .val (.int p3), .val (.int p4), .val (.ref a), .val (.int (1 : Int32)), .val (.int q), .val (.int v7), .val (.int v8), .val (.int v9)] [])) _
    refine XS.iload X.here hx rfl (hb hby at_177) rfl ?_
    show Steps p.tables e below (T.setTop (mkF m 179 #[.val (.int p1), .val (.int p2), .val (.int p3), .val (.int p4), .val (.ref a), .val (.int (1 : Int32)), .val (.int q), .val (.int v7), .val (.int v8), .val (.int v9)] [(.int (1 : Int32))])) _
    refine XS.ifNo X.here hx rfl (hb hby at_179) rfl (XT.i0_eq_f (by decide)) ?_
    show Steps p.tables e below (T.setTop (mkF m 182 #[.val (.int p1), .val (.int p2), .val (.int p3), .val (.int p4), .val (.ref a), .val (.int (1 : Int32)), .val (.int q), .val (.int v7), .val (.int v8), .val (.int v9)] [])) _
    refine XS.aload X.here hx rfl (hb hby at_182) rfl rfl ?_
    exact uK
  obtain ⟨cq1, kq1, qa1, qb1, qc1⟩ := isOf hZ eT (E_a)
  obtain ⟨_, _, ⟨T1, L1, k1, n1⟩, -, X1, ⟨Lc1, hQ1, l1, y1, z1⟩, st1⟩ := X.virtualBack hx (y := (⟨"com/example/mokrok/mokrok/ValidationSummary", "quarantinedAny", "()Z"⟩ : MethodName)) (z := (⟨"com/example/mokrok/mokrok/ValidationSummary", "quarantinedAny", "()Z"⟩ : MethodName)) hown (mvT hZ (hw _ (List.mem_of_getElem? (i := 9) rfl))) (mvT hZ (hw _ (List.mem_of_getElem? (i := 10) rfl))) (notFace_of_selects (args := #[]) (mvT hZ (hw _ (List.mem_of_getElem? (i := 12) rfl)))) (mvT hZ (hw _ (List.mem_of_getElem? (i := 12) rfl))) (mvT hZ (hw _ (List.mem_of_getElem? (i := 11) rfl))) (by decide) (backOf (W := 0) (rm3 l Z a0 hw [] a k h n0 Z0 F_k) hZ (hw _ (List.mem_of_getElem? (i := 13) rfl)) (hw _ (List.mem_of_getElem? (i := 2) rfl)) (by decide) (by decide)) qa1 qc1 (g := (mkF m 184 #[.val (.int p1), .val (.int p2), .val (.int p3), .val (.int p4), .val (.ref a), .val (.int (1 : Int32)), .val (.int q), .val (.int v7), .val (.int v8), .val (.int v9)] [(.ref a)])) rfl (by rw [hml]; rfl) (Steps.refl _) (argsL := []) (rest := []) (lenOf own_pd0 rfl) rfl (by show 2 * 0 + _ ≤ _; exact Nat.le_of_eq rfl) (hb hby at_184) (fun _ _ => ⟨rfl, eT, (by decide : 1 + 0 ≤ _), (by decide : 4 + 0 ≤ _)⟩)
  dsimp only [Pt.U, Pt.locs, Pt.cells, Pt.slots] at X1 l1 y1 z1 st1 hQ1
  subst l1 y1 z1
  obtain ⟨rfl, Nq1, e1⟩ := hQ1
  have N1 := Fr.app N Nq1
  refine own_tr st1 ?_
  show OwnGo p e below s _ _ _ T1 (mkF m 187 #[.val (.int p1), .val (.int p2), .val (.int p3), .val (.int p4), .val (.ref a), .val (.int (1 : Int32)), .val (.int q), .val (.int v7), .val (.int v8), .val (.int v9)] [(.int (own_any k))])
  refine own_st (T' := T1) (g' := (mkF m 201 #[.val (.int p1), .val (.int p2), .val (.int p3), .val (.int p4), .val (.ref a), .val (.int (1 : Int32)), .val (.int q), .val (.int v7), .val (.int v8), .val (.int v9)] [(.int (1 : Int32))])) (fun uT uK => ?_) ?_
  · show Steps p.tables e below (T1.setTop (mkF m 187 #[.val (.int p1), .val (.int p2), .val (.int p3), .val (.int p4), .val (.ref a), .val (.int (1 : Int32)), .val (.int q), .val (.int v7), .val (.int v8), .val (.int v9)] [(.int (own_any k))])) _
    refine XS.iload X1.here hx rfl (hb hby at_187) rfl ?_
    show Steps p.tables e below (T1.setTop (mkF m 189 #[.val (.int p1), .val (.int p2), .val (.int p3), .val (.int p4), .val (.ref a), .val (.int (1 : Int32)), .val (.int q), .val (.int v7), .val (.int v8), .val (.int v9)] [(.int q), (.int (own_any k))])) _
    refine XS.icmpNo X1.here hx rfl (hb hby at_189) rfl (XT.ii_ne_f hq) ?_
    show Steps p.tables e below (T1.setTop (mkF m 192 #[.val (.int p1), .val (.int p2), .val (.int p3), .val (.int p4), .val (.ref a), .val (.int (1 : Int32)), .val (.int q), .val (.int v7), .val (.int v8), .val (.int v9)] [])) _
    refine XS.iconst X1.here hx rfl (hb hby at_192) ?_
    show Steps p.tables e below (T1.setTop (mkF m 193 #[.val (.int p1), .val (.int p2), .val (.int p3), .val (.int p4), .val (.ref a), .val (.int (1 : Int32)), .val (.int q), .val (.int v7), .val (.int v8), .val (.int v9)] [(.int (1 : Int32))])) _
    refine XS.goto X1.here hx rfl (pc0 := 193) (pc' := 197) rfl (hb hby at_193) (by decide) (by decide) ?_
    show Steps p.tables e below (T1.setTop (mkF m 197 #[.val (.int p1), .val (.int p2), .val (.int p3), .val (.int p4), .val (.ref a), .val (.int (1 : Int32)), .val (.int q), .val (.int v7), .val (.int v8), .val (.int v9)] [(.int (1 : Int32))])) _
    refine XS.istore X1.here hx rfl (hb hby at_197) rfl (l' := #[.val (.int p1), .val (.int p2), .val (.int p3), .val (.int p4), .val (.ref a), .val (.int (1 : Int32)), .val (.int q), .val (.int v7), .val (.int v8), .val (.int v9)]) rfl ?_
    show Steps p.tables e below (T1.setTop (mkF m 199 #[.val (.int p1), .val (.int p2), .val (.int p3), .val (.int p4), .val (.ref a), .val (.int (1 : Int32)), .val (.int q), .val (.int v7), .val (.int v8), .val (.int v9)] [])) _
    refine XS.iload X1.here hx rfl (hb hby at_199) rfl ?_
    exact uK
  exact own_ret (v := some (.int (1 : Int32))) X1 hlk (fun h => by rw [hret] at h; cases h) (fun fs hr => retOut X1 hx hret rfl (Or.inl ⟨rfl, by simp, _, rfl⟩) (hb hby at_201) hr) ⟨rfl, N1⟩ (by decide) (by decide)
set_option maxRecDepth 65536 in
set_option maxHeartbeats 40000000 in
theorem own_t119 {p : Program} {l : Launch} {e : Env} {s : State} {m : MethodId} {args : Array Value} {below : List Frame} {meth : Method} {c : Code} {T : State} {locs : List Loc} {Z : State} {a0 : Array Value} {h : Heap} {n0 : Nat} (p1 p2 p3 p4 : Int32) (a : Addr) (r u b k : Int64) (q : Int32) (v7 : Int32) (v8 : Int32) (h0 : Heap) (hk : 0 ≤ k.toInt ∧ k.toInt ≤ 2) (hq : own_any k = q)
    (K : Ctx0 p s m meth c Z a0) (X : Stand p l e room_1 s m args below meth c T locs 1 4) (eT : T.heap = h) (N : Fr n0 locs) (Z0 : n0 ≤ h.size) (E_a : Exa Z h a "com/example/mokrok/mokrok/ValidationSummary") (F_r : Fld Z h a "com/example/mokrok/mokrok/ValidationSummary" "recordsRead" "J" (.long r)) (F_u : Fld Z h a "com/example/mokrok/mokrok/ValidationSummary" "recordsPublished" "J" (.long u)) (F_b : Fld Z h a "com/example/mokrok/mokrok/ValidationSummary" "problems" "J" (.long b)) (F_k : Fld Z h a "com/example/mokrok/mokrok/ValidationSummary" "recordsQuarantined" "J" (.long k)) (g_a : n0 ≤ a) :
    OwnGo p e below s room_1.cells room_1.slots (Q0 Z p1 p2 p3 p4 h0 n0) T (mkF m 119 #[.val (.int p1), .val (.int p2), .val (.int p3), .val (.int p4), .val (.ref a), .val (.int (1 : Int32)), .val (.int q), .val (.int v7), .val (.int v8), .unset] []) := by
  obtain ⟨hx, hZ, hw, hby, hml, hown, hret, hlk, hnm⟩ := id K
  refine own_st (T' := T) (g' := (mkF m 126 #[.val (.int p1), .val (.int p2), .val (.int p3), .val (.int p4), .val (.ref a), .val (.int (1 : Int32)), .val (.int q), .val (.int v7), .val (.int v8), .unset] [(.ref a)])) (fun uT uK => ?_) ?_
  · show Steps p.tables e below (T.setTop (mkF m 119 #[.val (.int p1), .val (.int p2), .val (.int p3), .val (.int p4), .val (.ref a), .val (.int (1 : Int32)), .val (.int q), .val (.int v7), .val (.int v8), .unset] [])) _
    refine XS.iload X.here hx rfl (hb hby at_119) rfl ?_
    show Steps p.tables e below (T.setTop (mkF m 121 #[.val (.int p1), .val (.int p2), .val (.int p3), .val (.int p4), .val (.ref a), .val (.int (1 : Int32)), .val (.int q), .val (.int v7), .val (.int v8), .unset] [(.int (1 : Int32))])) _
    refine XS.ifNo X.here hx rfl (hb hby at_121) rfl (XT.i0_eq_f (by decide)) ?_
    show Steps p.tables e below (T.setTop (mkF m 124 #[.val (.int p1), .val (.int p2), .val (.int p3), .val (.int p4), .val (.ref a), .val (.int (1 : Int32)), .val (.int q), .val (.int v7), .val (.int v8), .unset] [])) _
    refine XS.aload X.here hx rfl (hb hby at_124) rfl rfl ?_
    exact uK
  obtain ⟨cq1, kq1, qa1, qb1, qc1⟩ := isOf hZ eT (E_a)
  obtain ⟨_, _, ⟨T1, L1, k1, n1⟩, -, X1, ⟨Lc1, hQ1, l1, y1, z1⟩, st1⟩ := X.virtualBack hx (y := (⟨"com/example/mokrok/mokrok/ValidationSummary", "quarantinedAny", "()Z"⟩ : MethodName)) (z := (⟨"com/example/mokrok/mokrok/ValidationSummary", "quarantinedAny", "()Z"⟩ : MethodName)) hown (mvT hZ (hw _ (List.mem_of_getElem? (i := 9) rfl))) (mvT hZ (hw _ (List.mem_of_getElem? (i := 10) rfl))) (notFace_of_selects (args := #[]) (mvT hZ (hw _ (List.mem_of_getElem? (i := 12) rfl)))) (mvT hZ (hw _ (List.mem_of_getElem? (i := 12) rfl))) (mvT hZ (hw _ (List.mem_of_getElem? (i := 11) rfl))) (by decide) (backOf (W := 0) (rm3 l Z a0 hw [] a k h n0 Z0 F_k) hZ (hw _ (List.mem_of_getElem? (i := 13) rfl)) (hw _ (List.mem_of_getElem? (i := 2) rfl)) (by decide) (by decide)) qa1 qc1 (g := (mkF m 126 #[.val (.int p1), .val (.int p2), .val (.int p3), .val (.int p4), .val (.ref a), .val (.int (1 : Int32)), .val (.int q), .val (.int v7), .val (.int v8), .unset] [(.ref a)])) rfl (by rw [hml]; rfl) (Steps.refl _) (argsL := []) (rest := []) (lenOf own_pd0 rfl) rfl (by show 2 * 0 + _ ≤ _; exact Nat.le_of_eq rfl) (hb hby at_126) (fun _ _ => ⟨rfl, eT, (by decide : 1 + 0 ≤ _), (by decide : 4 + 0 ≤ _)⟩)
  dsimp only [Pt.U, Pt.locs, Pt.cells, Pt.slots] at X1 l1 y1 z1 st1 hQ1
  subst l1 y1 z1
  obtain ⟨rfl, Nq1, e1⟩ := hQ1
  have N1 := Fr.app N Nq1
  refine own_tr st1 ?_
  show OwnGo p e below s _ _ _ T1 (mkF m 129 #[.val (.int p1), .val (.int p2), .val (.int p3), .val (.int p4), .val (.ref a), .val (.int (1 : Int32)), .val (.int q), .val (.int v7), .val (.int v8), .unset] [(.int (own_any k))])
  refine own_st (T' := T1) (g' := (mkF m 151 #[.val (.int p1), .val (.int p2), .val (.int p3), .val (.int p4), .val (.ref a), .val (.int (1 : Int32)), .val (.int q), .val (.int v7), .val (.int v8), .val (.int ((XT.ushr p1 (4 : Int32)) &&& (3 : Int32)))] [(.int (1 : Int32)), (.int ((XT.ushr p1 (4 : Int32)) &&& (3 : Int32)))])) (fun uT uK => ?_) ?_
  · show Steps p.tables e below (T1.setTop (mkF m 129 #[.val (.int p1), .val (.int p2), .val (.int p3), .val (.int p4), .val (.ref a), .val (.int (1 : Int32)), .val (.int q), .val (.int v7), .val (.int v8), .unset] [(.int (own_any k))])) _
    refine XS.iload X1.here hx rfl (hb hby at_129) rfl ?_
    show Steps p.tables e below (T1.setTop (mkF m 131 #[.val (.int p1), .val (.int p2), .val (.int p3), .val (.int p4), .val (.ref a), .val (.int (1 : Int32)), .val (.int q), .val (.int v7), .val (.int v8), .unset] [(.int q), (.int (own_any k))])) _
    refine XS.icmpNo X1.here hx rfl (hb hby at_131) rfl (XT.ii_ne_f hq) ?_
    show Steps p.tables e below (T1.setTop (mkF m 134 #[.val (.int p1), .val (.int p2), .val (.int p3), .val (.int p4), .val (.ref a), .val (.int (1 : Int32)), .val (.int q), .val (.int v7), .val (.int v8), .unset] [])) _
    refine XS.iconst X1.here hx rfl (hb hby at_134) ?_
    show Steps p.tables e below (T1.setTop (mkF m 135 #[.val (.int p1), .val (.int p2), .val (.int p3), .val (.int p4), .val (.ref a), .val (.int (1 : Int32)), .val (.int q), .val (.int v7), .val (.int v8), .unset] [(.int (1 : Int32))])) _
    refine XS.goto X1.here hx rfl (pc0 := 135) (pc' := 139) rfl (hb hby at_135) (by decide) (by decide) ?_
    show Steps p.tables e below (T1.setTop (mkF m 139 #[.val (.int p1), .val (.int p2), .val (.int p3), .val (.int p4), .val (.ref a), .val (.int (1 : Int32)), .val (.int q), .val (.int v7), .val (.int v8), .unset] [(.int (1 : Int32))])) _
    refine XS.istore X1.here hx rfl (hb hby at_139) rfl (l' := #[.val (.int p1), .val (.int p2), .val (.int p3), .val (.int p4), .val (.ref a), .val (.int (1 : Int32)), .val (.int q), .val (.int v7), .val (.int v8), .unset]) rfl ?_
    show Steps p.tables e below (T1.setTop (mkF m 141 #[.val (.int p1), .val (.int p2), .val (.int p3), .val (.int p4), .val (.ref a), .val (.int (1 : Int32)), .val (.int q), .val (.int v7), .val (.int v8), .unset] [])) _
    refine XS.iloadN X1.here hx rfl (hb hby at_141) rfl ?_
    show Steps p.tables e below (T1.setTop (mkF m 142 #[.val (.int p1), .val (.int p2), .val (.int p3), .val (.int p4), .val (.ref a), .val (.int (1 : Int32)), .val (.int q), .val (.int v7), .val (.int v8), .unset] [(.int p1)])) _
    refine XS.iconst X1.here hx rfl (hb hby at_142) ?_
    show Steps p.tables e below (T1.setTop (mkF m 143 #[.val (.int p1), .val (.int p2), .val (.int p3), .val (.int p4), .val (.ref a), .val (.int (1 : Int32)), .val (.int q), .val (.int v7), .val (.int v8), .unset] [(.int (4 : Int32)), (.int p1)])) _
    refine XT.iushr X1.here hx rfl (hb hby at_143) rfl ?_
    show Steps p.tables e below (T1.setTop (mkF m 144 #[.val (.int p1), .val (.int p2), .val (.int p3), .val (.int p4), .val (.ref a), .val (.int (1 : Int32)), .val (.int q), .val (.int v7), .val (.int v8), .unset] [(.int (XT.ushr p1 (4 : Int32)))])) _
    refine XS.iconst X1.here hx rfl (hb hby at_144) ?_
    show Steps p.tables e below (T1.setTop (mkF m 145 #[.val (.int p1), .val (.int p2), .val (.int p3), .val (.int p4), .val (.ref a), .val (.int (1 : Int32)), .val (.int q), .val (.int v7), .val (.int v8), .unset] [(.int (3 : Int32)), (.int (XT.ushr p1 (4 : Int32)))])) _
    refine XS.iand X1.here hx rfl (hb hby at_145) rfl ?_
    show Steps p.tables e below (T1.setTop (mkF m 146 #[.val (.int p1), .val (.int p2), .val (.int p3), .val (.int p4), .val (.ref a), .val (.int (1 : Int32)), .val (.int q), .val (.int v7), .val (.int v8), .unset] [(.int ((XT.ushr p1 (4 : Int32)) &&& (3 : Int32)))])) _
    refine XS.istore X1.here hx rfl (hb hby at_146) rfl (l' := #[.val (.int p1), .val (.int p2), .val (.int p3), .val (.int p4), .val (.ref a), .val (.int (1 : Int32)), .val (.int q), .val (.int v7), .val (.int v8), .val (.int ((XT.ushr p1 (4 : Int32)) &&& (3 : Int32)))]) rfl ?_
    show Steps p.tables e below (T1.setTop (mkF m 148 #[.val (.int p1), .val (.int p2), .val (.int p3), .val (.int p4), .val (.ref a), .val (.int (1 : Int32)), .val (.int q), .val (.int v7), .val (.int v8), .val (.int ((XT.ushr p1 (4 : Int32)) &&& (3 : Int32)))] [])) _
    refine XS.iload X1.here hx rfl (hb hby at_148) rfl ?_
    show Steps p.tables e below (T1.setTop (mkF m 150 #[.val (.int p1), .val (.int p2), .val (.int p3), .val (.int p4), .val (.ref a), .val (.int (1 : Int32)), .val (.int q), .val (.int v7), .val (.int v8), .val (.int ((XT.ushr p1 (4 : Int32)) &&& (3 : Int32)))] [(.int ((XT.ushr p1 (4 : Int32)) &&& (3 : Int32)))])) _
    refine XS.iconst X1.here hx rfl (hb hby at_150) ?_
    exact uK
  by_cases hc151 : ((XT.ushr p1 (4 : Int32)) &&& (3 : Int32)) = (1 : Int32)
  · refine own_st (T' := T1) (g' := (mkF m 157 #[.val (.int p1), .val (.int p2), .val (.int p3), .val (.int p4), .val (.ref a), .val (.int (1 : Int32)), .val (.int q), .val (.int v7), .val (.int v8), .val (.int ((XT.ushr p1 (4 : Int32)) &&& (3 : Int32)))] [(.int p4), (.ref a)])) (fun uT uK => ?_) ?_
    · show Steps p.tables e below (T1.setTop (mkF m 151 #[.val (.int p1), .val (.int p2), .val (.int p3), .val (.int p4), .val (.ref a), .val (.int (1 : Int32)), .val (.int q), .val (.int v7), .val (.int v8), .val (.int ((XT.ushr p1 (4 : Int32)) &&& (3 : Int32)))] [(.int (1 : Int32)), (.int ((XT.ushr p1 (4 : Int32)) &&& (3 : Int32)))])) _
      refine XS.icmpNo X1.here hx rfl (hb hby at_151) rfl (XT.ii_ne_f hc151) ?_
      show Steps p.tables e below (T1.setTop (mkF m 154 #[.val (.int p1), .val (.int p2), .val (.int p3), .val (.int p4), .val (.ref a), .val (.int (1 : Int32)), .val (.int q), .val (.int v7), .val (.int v8), .val (.int ((XT.ushr p1 (4 : Int32)) &&& (3 : Int32)))] [])) _
      refine XS.aload X1.here hx rfl (hb hby at_154) rfl rfl ?_
      show Steps p.tables e below (T1.setTop (mkF m 156 #[.val (.int p1), .val (.int p2), .val (.int p3), .val (.int p4), .val (.ref a), .val (.int (1 : Int32)), .val (.int q), .val (.int v7), .val (.int v8), .val (.int ((XT.ushr p1 (4 : Int32)) &&& (3 : Int32)))] [(.ref a)])) _
      refine XS.iloadN X1.here hx rfl (hb hby at_156) rfl ?_
      exact uK
    obtain ⟨cq2, kq2, qa2, qb2, qc2⟩ := isOf hZ e1 (E_a)
    obtain ⟨_, _, ⟨T2, L2, k2, n2⟩, -, X2, ⟨Lc2, hQ2, l2, y2, z2⟩, st2⟩ := X1.virtualBack hx (y := (⟨"com/example/mokrok/mokrok/ValidationSummary", "published", "(I)V"⟩ : MethodName)) (z := (⟨"com/example/mokrok/mokrok/ValidationSummary", "published", "(I)V"⟩ : MethodName)) hown (mvT hZ (hw _ (List.mem_of_getElem? (i := 23) rfl))) (mvT hZ (hw _ (List.mem_of_getElem? (i := 24) rfl))) (notFace_of_selects (args := #[]) (mvT hZ (hw _ (List.mem_of_getElem? (i := 26) rfl)))) (mvT hZ (hw _ (List.mem_of_getElem? (i := 26) rfl))) (mvT hZ (hw _ (List.mem_of_getElem? (i := 25) rfl))) (by decide) (backOf (W := 0) (rm5 l Z a0 hw [] a r u b k p4 h n0 Z0 E_a F_r F_u F_b F_k g_a) hZ (hw _ (List.mem_of_getElem? (i := 27) rfl)) (hw _ (List.mem_of_getElem? (i := 2) rfl)) (by decide) (by decide)) qa2 qc2 (g := (mkF m 157 #[.val (.int p1), .val (.int p2), .val (.int p3), .val (.int p4), .val (.ref a), .val (.int (1 : Int32)), .val (.int q), .val (.int v7), .val (.int v8), .val (.int ((XT.ushr p1 (4 : Int32)) &&& (3 : Int32)))] [(.int p4), (.ref a)])) rfl (by rw [hml]; rfl) (Steps.refl _) (argsL := [(.int p4)]) (rest := []) (lenOf own_pd1 rfl) rfl (by show 2 * 0 + _ ≤ _; exact Nat.le_of_eq rfl) (hb hby at_157) (fun _ _ => ⟨rfl, e1, (by decide : 1 + 0 ≤ _), (by decide : 4 + 0 ≤ _)⟩)
    dsimp only [Pt.U, Pt.locs, Pt.cells, Pt.slots] at X2 l2 y2 z2 st2 hQ2
    subst l2 y2 z2
    obtain ⟨rfl, Nq2, Kc2, Ec2, Fc_r2, Fc_u2, Fc_b2, Fc_k2⟩ := hQ2
    have N2 := Fr.app N1 Nq2
    refine own_tr st2 ?_
    show OwnGo p e below s _ _ _ T2 (mkF m 160 #[.val (.int p1), .val (.int p2), .val (.int p3), .val (.int p4), .val (.ref a), .val (.int (1 : Int32)), .val (.int q), .val (.int v7), .val (.int v8), .val (.int ((XT.ushr p1 (4 : Int32)) &&& (3 : Int32)))] [])
    have Z2 : n0 ≤ T2.heap.size := Nat.le_trans Z0 Kc2.1
    refine own_st (T' := T2) (g' := (mkF m 177 #[.val (.int p1), .val (.int p2), .val (.int p3), .val (.int p4), .val (.ref a), .val (.int (1 : Int32)), .val (.int q), .val (.int v7), .val (.int v8), .val (.int ((XT.ushr p1 (4 : Int32)) &&& (3 : Int32)))] [])) (fun uT uK => ?_) ?_
    · show Steps p.tables e below (T2.setTop (mkF m 160 #[.val (.int p1), .val (.int p2), .val (.int p3), .val (.int p4), .val (.ref a), .val (.int (1 : Int32)), .val (.int q), .val (.int v7), .val (.int v8), .val (.int ((XT.ushr p1 (4 : Int32)) &&& (3 : Int32)))] [])) _
      refine XS.goto X2.here hx rfl (pc0 := 160) (pc' := 177) rfl (hb hby at_160) (by decide) (by decide) ?_
      exact uK
    exact own_t177 p1 p2 p3 p4 a (r + 1) (u + 1) (b + p4.toInt64) k q v7 v8 ((XT.ushr p1 (4 : Int32)) &&& (3 : Int32)) h0 (by omega) hq K X2 rfl N2 Z2 Ec2 Fc_r2 Fc_u2 Fc_b2 Fc_k2 g_a
  · refine own_st (T' := T1) (g' := (mkF m 166 #[.val (.int p1), .val (.int p2), .val (.int p3), .val (.int p4), .val (.ref a), .val (.int (1 : Int32)), .val (.int q), .val (.int v7), .val (.int v8), .val (.int ((XT.ushr p1 (4 : Int32)) &&& (3 : Int32)))] [(.int (2 : Int32)), (.int ((XT.ushr p1 (4 : Int32)) &&& (3 : Int32)))])) (fun uT uK => ?_) ?_
    · show Steps p.tables e below (T1.setTop (mkF m 151 #[.val (.int p1), .val (.int p2), .val (.int p3), .val (.int p4), .val (.ref a), .val (.int (1 : Int32)), .val (.int q), .val (.int v7), .val (.int v8), .val (.int ((XT.ushr p1 (4 : Int32)) &&& (3 : Int32)))] [(.int (1 : Int32)), (.int ((XT.ushr p1 (4 : Int32)) &&& (3 : Int32)))])) _
      refine XS.icmpYes X1.here hx rfl (pc0 := 151) (pc' := 163) rfl (hb hby at_151) rfl (XT.ii_ne_t hc151) (by decide) (by decide) ?_
      show Steps p.tables e below (T1.setTop (mkF m 163 #[.val (.int p1), .val (.int p2), .val (.int p3), .val (.int p4), .val (.ref a), .val (.int (1 : Int32)), .val (.int q), .val (.int v7), .val (.int v8), .val (.int ((XT.ushr p1 (4 : Int32)) &&& (3 : Int32)))] [])) _
      refine XS.iload X1.here hx rfl (hb hby at_163) rfl ?_
      show Steps p.tables e below (T1.setTop (mkF m 165 #[.val (.int p1), .val (.int p2), .val (.int p3), .val (.int p4), .val (.ref a), .val (.int (1 : Int32)), .val (.int q), .val (.int v7), .val (.int v8), .val (.int ((XT.ushr p1 (4 : Int32)) &&& (3 : Int32)))] [(.int ((XT.ushr p1 (4 : Int32)) &&& (3 : Int32)))])) _
      refine XS.iconst X1.here hx rfl (hb hby at_165) ?_
      exact uK
    by_cases hc166 : ((XT.ushr p1 (4 : Int32)) &&& (3 : Int32)) < (2 : Int32)
    · refine own_st (T' := T1) (g' := (mkF m 177 #[.val (.int p1), .val (.int p2), .val (.int p3), .val (.int p4), .val (.ref a), .val (.int (1 : Int32)), .val (.int q), .val (.int v7), .val (.int v8), .val (.int ((XT.ushr p1 (4 : Int32)) &&& (3 : Int32)))] [])) (fun uT uK => ?_) ?_
      · show Steps p.tables e below (T1.setTop (mkF m 166 #[.val (.int p1), .val (.int p2), .val (.int p3), .val (.int p4), .val (.ref a), .val (.int (1 : Int32)), .val (.int q), .val (.int v7), .val (.int v8), .val (.int ((XT.ushr p1 (4 : Int32)) &&& (3 : Int32)))] [(.int (2 : Int32)), (.int ((XT.ushr p1 (4 : Int32)) &&& (3 : Int32)))])) _
        refine XS.icmpYes X1.here hx rfl (pc0 := 166) (pc' := 177) rfl (hb hby at_166) rfl (XT.ii_lt_t hc166) (by decide) (by decide) ?_
        exact uK
      exact own_t177 p1 p2 p3 p4 a r u b k q v7 v8 ((XT.ushr p1 (4 : Int32)) &&& (3 : Int32)) h0 (by omega) hq K X1 e1 N1 Z0 E_a F_r F_u F_b F_k g_a
    · refine own_st (T' := T1) (g' := (mkF m 171 #[.val (.int p1), .val (.int p2), .val (.int p3), .val (.int p4), .val (.ref a), .val (.int (1 : Int32)), .val (.int q), .val (.int v7), .val (.int v8), .val (.int ((XT.ushr p1 (4 : Int32)) &&& (3 : Int32)))] [(.ref a)])) (fun uT uK => ?_) ?_
      · show Steps p.tables e below (T1.setTop (mkF m 166 #[.val (.int p1), .val (.int p2), .val (.int p3), .val (.int p4), .val (.ref a), .val (.int (1 : Int32)), .val (.int q), .val (.int v7), .val (.int v8), .val (.int ((XT.ushr p1 (4 : Int32)) &&& (3 : Int32)))] [(.int (2 : Int32)), (.int ((XT.ushr p1 (4 : Int32)) &&& (3 : Int32)))])) _
        refine XS.icmpNo X1.here hx rfl (hb hby at_166) rfl (XT.ii_lt_f hc166) ?_
        show Steps p.tables e below (T1.setTop (mkF m 169 #[.val (.int p1), .val (.int p2), .val (.int p3), .val (.int p4), .val (.ref a), .val (.int (1 : Int32)), .val (.int q), .val (.int v7), .val (.int v8), .val (.int ((XT.ushr p1 (4 : Int32)) &&& (3 : Int32)))] [])) _
        refine XS.aload X1.here hx rfl (hb hby at_169) rfl rfl ?_
        exact uK
      obtain ⟨cq3, kq3, qa3, qb3, qc3⟩ := isOf hZ e1 (E_a)
      obtain ⟨_, _, ⟨T3, L3, k3, n3⟩, -, X3, ⟨Lc3, hQ3, l3, y3, z3⟩, st3⟩ := X1.virtualBack hx (y := (⟨"com/example/mokrok/mokrok/ValidationSummary", "quarantined", "()V"⟩ : MethodName)) (z := (⟨"com/example/mokrok/mokrok/ValidationSummary", "quarantined", "()V"⟩ : MethodName)) hown (mvT hZ (hw _ (List.mem_of_getElem? (i := 16) rfl))) (mvT hZ (hw _ (List.mem_of_getElem? (i := 17) rfl))) (notFace_of_selects (args := #[]) (mvT hZ (hw _ (List.mem_of_getElem? (i := 19) rfl)))) (mvT hZ (hw _ (List.mem_of_getElem? (i := 19) rfl))) (mvT hZ (hw _ (List.mem_of_getElem? (i := 18) rfl))) (by decide) (backOf (W := 0) (rm4 l Z a0 hw [] a r u b k h n0 Z0 E_a F_r F_u F_b F_k g_a) hZ (hw _ (List.mem_of_getElem? (i := 20) rfl)) (hw _ (List.mem_of_getElem? (i := 2) rfl)) (by decide) (by decide)) qa3 qc3 (g := (mkF m 171 #[.val (.int p1), .val (.int p2), .val (.int p3), .val (.int p4), .val (.ref a), .val (.int (1 : Int32)), .val (.int q), .val (.int v7), .val (.int v8), .val (.int ((XT.ushr p1 (4 : Int32)) &&& (3 : Int32)))] [(.ref a)])) rfl (by rw [hml]; rfl) (Steps.refl _) (argsL := []) (rest := []) (lenOf own_pd2 rfl) rfl (by show 2 * 0 + _ ≤ _; exact Nat.le_of_eq rfl) (hb hby at_171) (fun _ _ => ⟨rfl, e1, (by decide : 1 + 0 ≤ _), (by decide : 4 + 0 ≤ _)⟩)
      dsimp only [Pt.U, Pt.locs, Pt.cells, Pt.slots] at X3 l3 y3 z3 st3 hQ3
      subst l3 y3 z3
      obtain ⟨rfl, Nq3, Kc3, Ec3, Fc_r3, Fc_u3, Fc_b3, Fc_k3⟩ := hQ3
      have N3 := Fr.app N1 Nq3
      refine own_tr st3 ?_
      show OwnGo p e below s _ _ _ T3 (mkF m 174 #[.val (.int p1), .val (.int p2), .val (.int p3), .val (.int p4), .val (.ref a), .val (.int (1 : Int32)), .val (.int q), .val (.int v7), .val (.int v8), .val (.int ((XT.ushr p1 (4 : Int32)) &&& (3 : Int32)))] [])
      have Z3 : n0 ≤ T3.heap.size := Nat.le_trans Z0 Kc3.1
      refine own_st (T' := T3) (g' := (mkF m 177 #[.val (.int p1), .val (.int p2), .val (.int p3), .val (.int p4), .val (.ref a), .val (.int (1 : Int32)), .val (.int (1 : Int32)), .val (.int v7), .val (.int v8), .val (.int ((XT.ushr p1 (4 : Int32)) &&& (3 : Int32)))] [])) (fun uT uK => ?_) ?_
      · show Steps p.tables e below (T3.setTop (mkF m 174 #[.val (.int p1), .val (.int p2), .val (.int p3), .val (.int p4), .val (.ref a), .val (.int (1 : Int32)), .val (.int q), .val (.int v7), .val (.int v8), .val (.int ((XT.ushr p1 (4 : Int32)) &&& (3 : Int32)))] [])) _
        refine XS.iconst X3.here hx rfl (hb hby at_174) ?_
        show Steps p.tables e below (T3.setTop (mkF m 175 #[.val (.int p1), .val (.int p2), .val (.int p3), .val (.int p4), .val (.ref a), .val (.int (1 : Int32)), .val (.int q), .val (.int v7), .val (.int v8), .val (.int ((XT.ushr p1 (4 : Int32)) &&& (3 : Int32)))] [(.int (1 : Int32))])) _
        refine XS.istore X3.here hx rfl (hb hby at_175) rfl (l' := #[.val (.int p1), .val (.int p2), .val (.int p3), .val (.int p4), .val (.ref a), .val (.int (1 : Int32)), .val (.int (1 : Int32)), .val (.int v7), .val (.int v8), .val (.int ((XT.ushr p1 (4 : Int32)) &&& (3 : Int32)))]) rfl ?_
        exact uK
      exact own_t177 p1 p2 p3 p4 a (r + 1) u b (k + 1) (1 : Int32) v7 v8 ((XT.ushr p1 (4 : Int32)) &&& (3 : Int32)) h0 (by have := own_up (i := 2) (by decide) hk; omega) (own_one (i := 2) (by decide) hk) K X3 rfl N3 Z3 Ec3 Fc_r3 Fc_u3 Fc_b3 Fc_k3 g_a
set_option maxRecDepth 65536 in
set_option maxHeartbeats 40000000 in
theorem own_t61 {p : Program} {l : Launch} {e : Env} {s : State} {m : MethodId} {args : Array Value} {below : List Frame} {meth : Method} {c : Code} {T : State} {locs : List Loc} {Z : State} {a0 : Array Value} {h : Heap} {n0 : Nat} (p1 p2 p3 p4 : Int32) (a : Addr) (r u b k : Int64) (q : Int32) (v7 : Int32) (h0 : Heap) (hk : 0 ≤ k.toInt ∧ k.toInt ≤ 1) (hq : own_any k = q)
    (K : Ctx0 p s m meth c Z a0) (X : Stand p l e room_1 s m args below meth c T locs 1 4) (eT : T.heap = h) (N : Fr n0 locs) (Z0 : n0 ≤ h.size) (E_a : Exa Z h a "com/example/mokrok/mokrok/ValidationSummary") (F_r : Fld Z h a "com/example/mokrok/mokrok/ValidationSummary" "recordsRead" "J" (.long r)) (F_u : Fld Z h a "com/example/mokrok/mokrok/ValidationSummary" "recordsPublished" "J" (.long u)) (F_b : Fld Z h a "com/example/mokrok/mokrok/ValidationSummary" "problems" "J" (.long b)) (F_k : Fld Z h a "com/example/mokrok/mokrok/ValidationSummary" "recordsQuarantined" "J" (.long k)) (g_a : n0 ≤ a) :
    OwnGo p e below s room_1.cells room_1.slots (Q0 Z p1 p2 p3 p4 h0 n0) T (mkF m 61 #[.val (.int p1), .val (.int p2), .val (.int p3), .val (.int p4), .val (.ref a), .val (.int (1 : Int32)), .val (.int q), .val (.int v7), .unset, .unset] []) := by
  obtain ⟨hx, hZ, hw, hby, hml, hown, hret, hlk, hnm⟩ := id K
  refine own_st (T' := T) (g' := (mkF m 68 #[.val (.int p1), .val (.int p2), .val (.int p3), .val (.int p4), .val (.ref a), .val (.int (1 : Int32)), .val (.int q), .val (.int v7), .unset, .unset] [(.ref a)])) (fun uT uK => ?_) ?_
  · show Steps p.tables e below (T.setTop (mkF m 61 #[.val (.int p1), .val (.int p2), .val (.int p3), .val (.int p4), .val (.ref a), .val (.int (1 : Int32)), .val (.int q), .val (.int v7), .unset, .unset] [])) _
    refine XS.iload X.here hx rfl (hb hby at_61) rfl ?_
    show Steps p.tables e below (T.setTop (mkF m 63 #[.val (.int p1), .val (.int p2), .val (.int p3), .val (.int p4), .val (.ref a), .val (.int (1 : Int32)), .val (.int q), .val (.int v7), .unset, .unset] [(.int (1 : Int32))])) _
    refine XS.ifNo X.here hx rfl (hb hby at_63) rfl (XT.i0_eq_f (by decide)) ?_
    show Steps p.tables e below (T.setTop (mkF m 66 #[.val (.int p1), .val (.int p2), .val (.int p3), .val (.int p4), .val (.ref a), .val (.int (1 : Int32)), .val (.int q), .val (.int v7), .unset, .unset] [])) _
    refine XS.aload X.here hx rfl (hb hby at_66) rfl rfl ?_
    exact uK
  obtain ⟨cq1, kq1, qa1, qb1, qc1⟩ := isOf hZ eT (E_a)
  obtain ⟨_, _, ⟨T1, L1, k1, n1⟩, -, X1, ⟨Lc1, hQ1, l1, y1, z1⟩, st1⟩ := X.virtualBack hx (y := (⟨"com/example/mokrok/mokrok/ValidationSummary", "quarantinedAny", "()Z"⟩ : MethodName)) (z := (⟨"com/example/mokrok/mokrok/ValidationSummary", "quarantinedAny", "()Z"⟩ : MethodName)) hown (mvT hZ (hw _ (List.mem_of_getElem? (i := 9) rfl))) (mvT hZ (hw _ (List.mem_of_getElem? (i := 10) rfl))) (notFace_of_selects (args := #[]) (mvT hZ (hw _ (List.mem_of_getElem? (i := 12) rfl)))) (mvT hZ (hw _ (List.mem_of_getElem? (i := 12) rfl))) (mvT hZ (hw _ (List.mem_of_getElem? (i := 11) rfl))) (by decide) (backOf (W := 0) (rm3 l Z a0 hw [] a k h n0 Z0 F_k) hZ (hw _ (List.mem_of_getElem? (i := 13) rfl)) (hw _ (List.mem_of_getElem? (i := 2) rfl)) (by decide) (by decide)) qa1 qc1 (g := (mkF m 68 #[.val (.int p1), .val (.int p2), .val (.int p3), .val (.int p4), .val (.ref a), .val (.int (1 : Int32)), .val (.int q), .val (.int v7), .unset, .unset] [(.ref a)])) rfl (by rw [hml]; rfl) (Steps.refl _) (argsL := []) (rest := []) (lenOf own_pd0 rfl) rfl (by show 2 * 0 + _ ≤ _; exact Nat.le_of_eq rfl) (hb hby at_68) (fun _ _ => ⟨rfl, eT, (by decide : 1 + 0 ≤ _), (by decide : 4 + 0 ≤ _)⟩)
  dsimp only [Pt.U, Pt.locs, Pt.cells, Pt.slots] at X1 l1 y1 z1 st1 hQ1
  subst l1 y1 z1
  obtain ⟨rfl, Nq1, e1⟩ := hQ1
  have N1 := Fr.app N Nq1
  refine own_tr st1 ?_
  show OwnGo p e below s _ _ _ T1 (mkF m 71 #[.val (.int p1), .val (.int p2), .val (.int p3), .val (.int p4), .val (.ref a), .val (.int (1 : Int32)), .val (.int q), .val (.int v7), .unset, .unset] [(.int (own_any k))])
  refine own_st (T' := T1) (g' := (mkF m 93 #[.val (.int p1), .val (.int p2), .val (.int p3), .val (.int p4), .val (.ref a), .val (.int (1 : Int32)), .val (.int q), .val (.int v7), .val (.int ((XT.ushr p1 (2 : Int32)) &&& (3 : Int32))), .unset] [(.int (1 : Int32)), (.int ((XT.ushr p1 (2 : Int32)) &&& (3 : Int32)))])) (fun uT uK => ?_) ?_
  · show Steps p.tables e below (T1.setTop (mkF m 71 #[.val (.int p1), .val (.int p2), .val (.int p3), .val (.int p4), .val (.ref a), .val (.int (1 : Int32)), .val (.int q), .val (.int v7), .unset, .unset] [(.int (own_any k))])) _
    refine XS.iload X1.here hx rfl (hb hby at_71) rfl ?_
    show Steps p.tables e below (T1.setTop (mkF m 73 #[.val (.int p1), .val (.int p2), .val (.int p3), .val (.int p4), .val (.ref a), .val (.int (1 : Int32)), .val (.int q), .val (.int v7), .unset, .unset] [(.int q), (.int (own_any k))])) _
    refine XS.icmpNo X1.here hx rfl (hb hby at_73) rfl (XT.ii_ne_f hq) ?_
    show Steps p.tables e below (T1.setTop (mkF m 76 #[.val (.int p1), .val (.int p2), .val (.int p3), .val (.int p4), .val (.ref a), .val (.int (1 : Int32)), .val (.int q), .val (.int v7), .unset, .unset] [])) _
    refine XS.iconst X1.here hx rfl (hb hby at_76) ?_
    show Steps p.tables e below (T1.setTop (mkF m 77 #[.val (.int p1), .val (.int p2), .val (.int p3), .val (.int p4), .val (.ref a), .val (.int (1 : Int32)), .val (.int q), .val (.int v7), .unset, .unset] [(.int (1 : Int32))])) _
    refine XS.goto X1.here hx rfl (pc0 := 77) (pc' := 81) rfl (hb hby at_77) (by decide) (by decide) ?_
    show Steps p.tables e below (T1.setTop (mkF m 81 #[.val (.int p1), .val (.int p2), .val (.int p3), .val (.int p4), .val (.ref a), .val (.int (1 : Int32)), .val (.int q), .val (.int v7), .unset, .unset] [(.int (1 : Int32))])) _
    refine XS.istore X1.here hx rfl (hb hby at_81) rfl (l' := #[.val (.int p1), .val (.int p2), .val (.int p3), .val (.int p4), .val (.ref a), .val (.int (1 : Int32)), .val (.int q), .val (.int v7), .unset, .unset]) rfl ?_
    show Steps p.tables e below (T1.setTop (mkF m 83 #[.val (.int p1), .val (.int p2), .val (.int p3), .val (.int p4), .val (.ref a), .val (.int (1 : Int32)), .val (.int q), .val (.int v7), .unset, .unset] [])) _
    refine XS.iloadN X1.here hx rfl (hb hby at_83) rfl ?_
    show Steps p.tables e below (T1.setTop (mkF m 84 #[.val (.int p1), .val (.int p2), .val (.int p3), .val (.int p4), .val (.ref a), .val (.int (1 : Int32)), .val (.int q), .val (.int v7), .unset, .unset] [(.int p1)])) _
    refine XS.iconst X1.here hx rfl (hb hby at_84) ?_
    show Steps p.tables e below (T1.setTop (mkF m 85 #[.val (.int p1), .val (.int p2), .val (.int p3), .val (.int p4), .val (.ref a), .val (.int (1 : Int32)), .val (.int q), .val (.int v7), .unset, .unset] [(.int (2 : Int32)), (.int p1)])) _
    refine XT.iushr X1.here hx rfl (hb hby at_85) rfl ?_
    show Steps p.tables e below (T1.setTop (mkF m 86 #[.val (.int p1), .val (.int p2), .val (.int p3), .val (.int p4), .val (.ref a), .val (.int (1 : Int32)), .val (.int q), .val (.int v7), .unset, .unset] [(.int (XT.ushr p1 (2 : Int32)))])) _
    refine XS.iconst X1.here hx rfl (hb hby at_86) ?_
    show Steps p.tables e below (T1.setTop (mkF m 87 #[.val (.int p1), .val (.int p2), .val (.int p3), .val (.int p4), .val (.ref a), .val (.int (1 : Int32)), .val (.int q), .val (.int v7), .unset, .unset] [(.int (3 : Int32)), (.int (XT.ushr p1 (2 : Int32)))])) _
    refine XS.iand X1.here hx rfl (hb hby at_87) rfl ?_
    show Steps p.tables e below (T1.setTop (mkF m 88 #[.val (.int p1), .val (.int p2), .val (.int p3), .val (.int p4), .val (.ref a), .val (.int (1 : Int32)), .val (.int q), .val (.int v7), .unset, .unset] [(.int ((XT.ushr p1 (2 : Int32)) &&& (3 : Int32)))])) _
    refine XS.istore X1.here hx rfl (hb hby at_88) rfl (l' := #[.val (.int p1), .val (.int p2), .val (.int p3), .val (.int p4), .val (.ref a), .val (.int (1 : Int32)), .val (.int q), .val (.int v7), .val (.int ((XT.ushr p1 (2 : Int32)) &&& (3 : Int32))), .unset]) rfl ?_
    show Steps p.tables e below (T1.setTop (mkF m 90 #[.val (.int p1), .val (.int p2), .val (.int p3), .val (.int p4), .val (.ref a), .val (.int (1 : Int32)), .val (.int q), .val (.int v7), .val (.int ((XT.ushr p1 (2 : Int32)) &&& (3 : Int32))), .unset] [])) _
    refine XS.iload X1.here hx rfl (hb hby at_90) rfl ?_
    show Steps p.tables e below (T1.setTop (mkF m 92 #[.val (.int p1), .val (.int p2), .val (.int p3), .val (.int p4), .val (.ref a), .val (.int (1 : Int32)), .val (.int q), .val (.int v7), .val (.int ((XT.ushr p1 (2 : Int32)) &&& (3 : Int32))), .unset] [(.int ((XT.ushr p1 (2 : Int32)) &&& (3 : Int32)))])) _
    refine XS.iconst X1.here hx rfl (hb hby at_92) ?_
    exact uK
  by_cases hc93 : ((XT.ushr p1 (2 : Int32)) &&& (3 : Int32)) = (1 : Int32)
  · refine own_st (T' := T1) (g' := (mkF m 99 #[.val (.int p1), .val (.int p2), .val (.int p3), .val (.int p4), .val (.ref a), .val (.int (1 : Int32)), .val (.int q), .val (.int v7), .val (.int ((XT.ushr p1 (2 : Int32)) &&& (3 : Int32))), .unset] [(.int p3), (.ref a)])) (fun uT uK => ?_) ?_
    · show Steps p.tables e below (T1.setTop (mkF m 93 #[.val (.int p1), .val (.int p2), .val (.int p3), .val (.int p4), .val (.ref a), .val (.int (1 : Int32)), .val (.int q), .val (.int v7), .val (.int ((XT.ushr p1 (2 : Int32)) &&& (3 : Int32))), .unset] [(.int (1 : Int32)), (.int ((XT.ushr p1 (2 : Int32)) &&& (3 : Int32)))])) _
      refine XS.icmpNo X1.here hx rfl (hb hby at_93) rfl (XT.ii_ne_f hc93) ?_
      show Steps p.tables e below (T1.setTop (mkF m 96 #[.val (.int p1), .val (.int p2), .val (.int p3), .val (.int p4), .val (.ref a), .val (.int (1 : Int32)), .val (.int q), .val (.int v7), .val (.int ((XT.ushr p1 (2 : Int32)) &&& (3 : Int32))), .unset] [])) _
      refine XS.aload X1.here hx rfl (hb hby at_96) rfl rfl ?_
      show Steps p.tables e below (T1.setTop (mkF m 98 #[.val (.int p1), .val (.int p2), .val (.int p3), .val (.int p4), .val (.ref a), .val (.int (1 : Int32)), .val (.int q), .val (.int v7), .val (.int ((XT.ushr p1 (2 : Int32)) &&& (3 : Int32))), .unset] [(.ref a)])) _
      refine XS.iloadN X1.here hx rfl (hb hby at_98) rfl ?_
      exact uK
    obtain ⟨cq2, kq2, qa2, qb2, qc2⟩ := isOf hZ e1 (E_a)
    obtain ⟨_, _, ⟨T2, L2, k2, n2⟩, -, X2, ⟨Lc2, hQ2, l2, y2, z2⟩, st2⟩ := X1.virtualBack hx (y := (⟨"com/example/mokrok/mokrok/ValidationSummary", "published", "(I)V"⟩ : MethodName)) (z := (⟨"com/example/mokrok/mokrok/ValidationSummary", "published", "(I)V"⟩ : MethodName)) hown (mvT hZ (hw _ (List.mem_of_getElem? (i := 23) rfl))) (mvT hZ (hw _ (List.mem_of_getElem? (i := 24) rfl))) (notFace_of_selects (args := #[]) (mvT hZ (hw _ (List.mem_of_getElem? (i := 26) rfl)))) (mvT hZ (hw _ (List.mem_of_getElem? (i := 26) rfl))) (mvT hZ (hw _ (List.mem_of_getElem? (i := 25) rfl))) (by decide) (backOf (W := 0) (rm5 l Z a0 hw [] a r u b k p3 h n0 Z0 E_a F_r F_u F_b F_k g_a) hZ (hw _ (List.mem_of_getElem? (i := 27) rfl)) (hw _ (List.mem_of_getElem? (i := 2) rfl)) (by decide) (by decide)) qa2 qc2 (g := (mkF m 99 #[.val (.int p1), .val (.int p2), .val (.int p3), .val (.int p4), .val (.ref a), .val (.int (1 : Int32)), .val (.int q), .val (.int v7), .val (.int ((XT.ushr p1 (2 : Int32)) &&& (3 : Int32))), .unset] [(.int p3), (.ref a)])) rfl (by rw [hml]; rfl) (Steps.refl _) (argsL := [(.int p3)]) (rest := []) (lenOf own_pd1 rfl) rfl (by show 2 * 0 + _ ≤ _; exact Nat.le_of_eq rfl) (hb hby at_99) (fun _ _ => ⟨rfl, e1, (by decide : 1 + 0 ≤ _), (by decide : 4 + 0 ≤ _)⟩)
    dsimp only [Pt.U, Pt.locs, Pt.cells, Pt.slots] at X2 l2 y2 z2 st2 hQ2
    subst l2 y2 z2
    obtain ⟨rfl, Nq2, Kc2, Ec2, Fc_r2, Fc_u2, Fc_b2, Fc_k2⟩ := hQ2
    have N2 := Fr.app N1 Nq2
    refine own_tr st2 ?_
    show OwnGo p e below s _ _ _ T2 (mkF m 102 #[.val (.int p1), .val (.int p2), .val (.int p3), .val (.int p4), .val (.ref a), .val (.int (1 : Int32)), .val (.int q), .val (.int v7), .val (.int ((XT.ushr p1 (2 : Int32)) &&& (3 : Int32))), .unset] [])
    have Z2 : n0 ≤ T2.heap.size := Nat.le_trans Z0 Kc2.1
    refine own_st (T' := T2) (g' := (mkF m 119 #[.val (.int p1), .val (.int p2), .val (.int p3), .val (.int p4), .val (.ref a), .val (.int (1 : Int32)), .val (.int q), .val (.int v7), .val (.int ((XT.ushr p1 (2 : Int32)) &&& (3 : Int32))), .unset] [])) (fun uT uK => ?_) ?_
    · show Steps p.tables e below (T2.setTop (mkF m 102 #[.val (.int p1), .val (.int p2), .val (.int p3), .val (.int p4), .val (.ref a), .val (.int (1 : Int32)), .val (.int q), .val (.int v7), .val (.int ((XT.ushr p1 (2 : Int32)) &&& (3 : Int32))), .unset] [])) _
      refine XS.goto X2.here hx rfl (pc0 := 102) (pc' := 119) rfl (hb hby at_102) (by decide) (by decide) ?_
      exact uK
    exact own_t119 p1 p2 p3 p4 a (r + 1) (u + 1) (b + p3.toInt64) k q v7 ((XT.ushr p1 (2 : Int32)) &&& (3 : Int32)) h0 (by omega) hq K X2 rfl N2 Z2 Ec2 Fc_r2 Fc_u2 Fc_b2 Fc_k2 g_a
  · refine own_st (T' := T1) (g' := (mkF m 108 #[.val (.int p1), .val (.int p2), .val (.int p3), .val (.int p4), .val (.ref a), .val (.int (1 : Int32)), .val (.int q), .val (.int v7), .val (.int ((XT.ushr p1 (2 : Int32)) &&& (3 : Int32))), .unset] [(.int (2 : Int32)), (.int ((XT.ushr p1 (2 : Int32)) &&& (3 : Int32)))])) (fun uT uK => ?_) ?_
    · show Steps p.tables e below (T1.setTop (mkF m 93 #[.val (.int p1), .val (.int p2), .val (.int p3), .val (.int p4), .val (.ref a), .val (.int (1 : Int32)), .val (.int q), .val (.int v7), .val (.int ((XT.ushr p1 (2 : Int32)) &&& (3 : Int32))), .unset] [(.int (1 : Int32)), (.int ((XT.ushr p1 (2 : Int32)) &&& (3 : Int32)))])) _
      refine XS.icmpYes X1.here hx rfl (pc0 := 93) (pc' := 105) rfl (hb hby at_93) rfl (XT.ii_ne_t hc93) (by decide) (by decide) ?_
      show Steps p.tables e below (T1.setTop (mkF m 105 #[.val (.int p1), .val (.int p2), .val (.int p3), .val (.int p4), .val (.ref a), .val (.int (1 : Int32)), .val (.int q), .val (.int v7), .val (.int ((XT.ushr p1 (2 : Int32)) &&& (3 : Int32))), .unset] [])) _
      refine XS.iload X1.here hx rfl (hb hby at_105) rfl ?_
      show Steps p.tables e below (T1.setTop (mkF m 107 #[.val (.int p1), .val (.int p2), .val (.int p3), .val (.int p4), .val (.ref a), .val (.int (1 : Int32)), .val (.int q), .val (.int v7), .val (.int ((XT.ushr p1 (2 : Int32)) &&& (3 : Int32))), .unset] [(.int ((XT.ushr p1 (2 : Int32)) &&& (3 : Int32)))])) _
      refine XS.iconst X1.here hx rfl (hb hby at_107) ?_
      exact uK
    by_cases hc108 : ((XT.ushr p1 (2 : Int32)) &&& (3 : Int32)) < (2 : Int32)
    · refine own_st (T' := T1) (g' := (mkF m 119 #[.val (.int p1), .val (.int p2), .val (.int p3), .val (.int p4), .val (.ref a), .val (.int (1 : Int32)), .val (.int q), .val (.int v7), .val (.int ((XT.ushr p1 (2 : Int32)) &&& (3 : Int32))), .unset] [])) (fun uT uK => ?_) ?_
      · show Steps p.tables e below (T1.setTop (mkF m 108 #[.val (.int p1), .val (.int p2), .val (.int p3), .val (.int p4), .val (.ref a), .val (.int (1 : Int32)), .val (.int q), .val (.int v7), .val (.int ((XT.ushr p1 (2 : Int32)) &&& (3 : Int32))), .unset] [(.int (2 : Int32)), (.int ((XT.ushr p1 (2 : Int32)) &&& (3 : Int32)))])) _
        refine XS.icmpYes X1.here hx rfl (pc0 := 108) (pc' := 119) rfl (hb hby at_108) rfl (XT.ii_lt_t hc108) (by decide) (by decide) ?_
        exact uK
      exact own_t119 p1 p2 p3 p4 a r u b k q v7 ((XT.ushr p1 (2 : Int32)) &&& (3 : Int32)) h0 (by omega) hq K X1 e1 N1 Z0 E_a F_r F_u F_b F_k g_a
    · refine own_st (T' := T1) (g' := (mkF m 113 #[.val (.int p1), .val (.int p2), .val (.int p3), .val (.int p4), .val (.ref a), .val (.int (1 : Int32)), .val (.int q), .val (.int v7), .val (.int ((XT.ushr p1 (2 : Int32)) &&& (3 : Int32))), .unset] [(.ref a)])) (fun uT uK => ?_) ?_
      · show Steps p.tables e below (T1.setTop (mkF m 108 #[.val (.int p1), .val (.int p2), .val (.int p3), .val (.int p4), .val (.ref a), .val (.int (1 : Int32)), .val (.int q), .val (.int v7), .val (.int ((XT.ushr p1 (2 : Int32)) &&& (3 : Int32))), .unset] [(.int (2 : Int32)), (.int ((XT.ushr p1 (2 : Int32)) &&& (3 : Int32)))])) _
        refine XS.icmpNo X1.here hx rfl (hb hby at_108) rfl (XT.ii_lt_f hc108) ?_
        show Steps p.tables e below (T1.setTop (mkF m 111 #[.val (.int p1), .val (.int p2), .val (.int p3), .val (.int p4), .val (.ref a), .val (.int (1 : Int32)), .val (.int q), .val (.int v7), .val (.int ((XT.ushr p1 (2 : Int32)) &&& (3 : Int32))), .unset] [])) _
        refine XS.aload X1.here hx rfl (hb hby at_111) rfl rfl ?_
        exact uK
      obtain ⟨cq3, kq3, qa3, qb3, qc3⟩ := isOf hZ e1 (E_a)
      obtain ⟨_, _, ⟨T3, L3, k3, n3⟩, -, X3, ⟨Lc3, hQ3, l3, y3, z3⟩, st3⟩ := X1.virtualBack hx (y := (⟨"com/example/mokrok/mokrok/ValidationSummary", "quarantined", "()V"⟩ : MethodName)) (z := (⟨"com/example/mokrok/mokrok/ValidationSummary", "quarantined", "()V"⟩ : MethodName)) hown (mvT hZ (hw _ (List.mem_of_getElem? (i := 16) rfl))) (mvT hZ (hw _ (List.mem_of_getElem? (i := 17) rfl))) (notFace_of_selects (args := #[]) (mvT hZ (hw _ (List.mem_of_getElem? (i := 19) rfl)))) (mvT hZ (hw _ (List.mem_of_getElem? (i := 19) rfl))) (mvT hZ (hw _ (List.mem_of_getElem? (i := 18) rfl))) (by decide) (backOf (W := 0) (rm4 l Z a0 hw [] a r u b k h n0 Z0 E_a F_r F_u F_b F_k g_a) hZ (hw _ (List.mem_of_getElem? (i := 20) rfl)) (hw _ (List.mem_of_getElem? (i := 2) rfl)) (by decide) (by decide)) qa3 qc3 (g := (mkF m 113 #[.val (.int p1), .val (.int p2), .val (.int p3), .val (.int p4), .val (.ref a), .val (.int (1 : Int32)), .val (.int q), .val (.int v7), .val (.int ((XT.ushr p1 (2 : Int32)) &&& (3 : Int32))), .unset] [(.ref a)])) rfl (by rw [hml]; rfl) (Steps.refl _) (argsL := []) (rest := []) (lenOf own_pd2 rfl) rfl (by show 2 * 0 + _ ≤ _; exact Nat.le_of_eq rfl) (hb hby at_113) (fun _ _ => ⟨rfl, e1, (by decide : 1 + 0 ≤ _), (by decide : 4 + 0 ≤ _)⟩)
      dsimp only [Pt.U, Pt.locs, Pt.cells, Pt.slots] at X3 l3 y3 z3 st3 hQ3
      subst l3 y3 z3
      obtain ⟨rfl, Nq3, Kc3, Ec3, Fc_r3, Fc_u3, Fc_b3, Fc_k3⟩ := hQ3
      have N3 := Fr.app N1 Nq3
      refine own_tr st3 ?_
      show OwnGo p e below s _ _ _ T3 (mkF m 116 #[.val (.int p1), .val (.int p2), .val (.int p3), .val (.int p4), .val (.ref a), .val (.int (1 : Int32)), .val (.int q), .val (.int v7), .val (.int ((XT.ushr p1 (2 : Int32)) &&& (3 : Int32))), .unset] [])
      have Z3 : n0 ≤ T3.heap.size := Nat.le_trans Z0 Kc3.1
      refine own_st (T' := T3) (g' := (mkF m 119 #[.val (.int p1), .val (.int p2), .val (.int p3), .val (.int p4), .val (.ref a), .val (.int (1 : Int32)), .val (.int (1 : Int32)), .val (.int v7), .val (.int ((XT.ushr p1 (2 : Int32)) &&& (3 : Int32))), .unset] [])) (fun uT uK => ?_) ?_
      · show Steps p.tables e below (T3.setTop (mkF m 116 #[.val (.int p1), .val (.int p2), .val (.int p3), .val (.int p4), .val (.ref a), .val (.int (1 : Int32)), .val (.int q), .val (.int v7), .val (.int ((XT.ushr p1 (2 : Int32)) &&& (3 : Int32))), .unset] [])) _
        refine XS.iconst X3.here hx rfl (hb hby at_116) ?_
        show Steps p.tables e below (T3.setTop (mkF m 117 #[.val (.int p1), .val (.int p2), .val (.int p3), .val (.int p4), .val (.ref a), .val (.int (1 : Int32)), .val (.int q), .val (.int v7), .val (.int ((XT.ushr p1 (2 : Int32)) &&& (3 : Int32))), .unset] [(.int (1 : Int32))])) _
        refine XS.istore X3.here hx rfl (hb hby at_117) rfl (l' := #[.val (.int p1), .val (.int p2), .val (.int p3), .val (.int p4), .val (.ref a), .val (.int (1 : Int32)), .val (.int (1 : Int32)), .val (.int v7), .val (.int ((XT.ushr p1 (2 : Int32)) &&& (3 : Int32))), .unset]) rfl ?_
        exact uK
      exact own_t119 p1 p2 p3 p4 a (r + 1) u b (k + 1) (1 : Int32) v7 ((XT.ushr p1 (2 : Int32)) &&& (3 : Int32)) h0 (by have := own_up (i := 1) (by decide) hk; omega) (own_one (i := 1) (by decide) hk) K X3 rfl N3 Z3 Ec3 Fc_r3 Fc_u3 Fc_b3 Fc_k3 g_a
theorem own_ef_rm0 (m : MethodId) (x0 : Int32) (x1 : Int32) (x2 : Int32) (x3 : Int32) : entryFrame m #[(.int x0), (.int x1), (.int x2), (.int x3)] maxLocals = mkF m 0 #[.val (.int x0), .val (.int x1), .val (.int x2), .val (.int x3), .unset, .unset, .unset, .unset, .unset, .unset] [] := by first | (simp [entryFrame, mkF, argsToLocals, Value.category, maxLocals]; done) | rfl
set_option maxRecDepth 65536 in
set_option maxHeartbeats 40000000 in
theorem rm0 (l : Launch) (Z : State) (a0 : Array Value) (hw : ∀ d ∈ tables_1, d.before a0 Z = true) (ws : List Jvm.Cond) (p1 : Int32) (p2 : Int32) (p3 : Int32) (p4 : Int32) (h0 : Heap) (n0 : Nat) (Z0 : n0 ≤ h0.size) :
    MetFree l x (head1 (Jvm.Cond.code x code maxLocals ret :: ws) room_1) (fun aQ UQ => aQ = #[(.int p1), (.int p2), (.int p3), (.int p4)] ∧ Z.Warmed39 UQ.vm ∧ UQ.heap = h0) (fun _ _ _ _ _ => True) (fun _ UQ oQ UR => ∃ vQ LQ, oQ = .returned vQ ∧ Q0 Z p1 p2 p3 p4 h0 n0 vQ UR.heap LQ ∧ FrameEnd UQ oQ UR LQ room_1.cells room_1.slots) := by
  refine MetFree.of_bodySF (plainFor_of_name pn_0) hisR ?_
  intro p e s m args below meth c s₁ Bd hml0 hP hK
  obtain ⟨rfl, hZ, hh⟩ := hP
  have hx := Bd.exec
  have hby := Bd.bytes
  have hml : c.maxLocals = 10 := hml0
  have hown : s.vm.findClass "com/example/mokrok/mokrok/ValidationSummaryQuarantinedAnyPinLaw" = some m.cls := findClass_of_methodNamed Bd.named
  have hnm := (name_of_methodNamed Bd.named Bd.method).1
  have hret := Bd.returns
  have hlk : meth.locks = false := Bd.notSynchronized
  have X0 : Stand p l e room_1 s m #[(.int p1), (.int p2), (.int p3), (.int p4)] below meth c s₁ [] 0 0 := Stand.of_body Bd
  have e0 : s₁.heap = h0 := by rw [← hh, Bd.state]; rfl
  have N0 := Fr.nil n0
  have K : Ctx0 p s m meth c Z a0 := ⟨hx, hZ, hw, hby, hml, hown, hret, hlk, hnm⟩
  show OwnGo p e below s room_1.cells room_1.slots (Q0 Z p1 p2 p3 p4 h0 n0) s₁ (entryFrame m #[(.int p1), (.int p2), (.int p3), (.int p4)] maxLocals)
  refine own_cast (own_ef_rm0 m p1 p2 p3 p4) ?_
  show OwnGo p e below s _ _ _ s₁ (mkF m 0 #[.val (.int p1), .val (.int p2), .val (.int p3), .val (.int p4), .unset, .unset, .unset, .unset, .unset, .unset] [])
  obtain ⟨T1, h1, X1, e1, E1, A1, D1, -, st1⟩ := newO X0 hx hZ hown (hw _ (List.mem_of_getElem? (i := 0) rfl)) (hw _ (List.mem_of_getElem? (i := 1) rfl)) (hw _ (List.mem_of_getElem? (i := 2) rfl)) e0 (g := (mkF m 0 #[.val (.int p1), .val (.int p2), .val (.int p3), .val (.int p4), .unset, .unset, .unset, .unset, .unset, .unset] [])) rfl (hb hby at_0) (by decide) (by decide)
  obtain ⟨a, g1⟩ : ∃ z, z = h0.size := ⟨_, rfl⟩
  rw [← g1] at A1 D1 st1
  have g_a : n0 ≤ a := Nat.le_trans Z0 (Nat.le_of_eq g1.symm)
  have Z1 : n0 ≤ h1.size := Nat.le_trans Z0 E1.1
  have F1_recordsQuarantined : Fld Z h1 a "com/example/mokrok/mokrok/ValidationSummary" "recordsQuarantined" "J" (.long (0 : Int64)) := D1 (Or.inl (hw _ (List.mem_of_getElem? (i := 15) rfl))) (ty := .long) (by decide)
  have F1_recordsRead : Fld Z h1 a "com/example/mokrok/mokrok/ValidationSummary" "recordsRead" "J" (.long (0 : Int64)) := D1 (Or.inl (hw _ (List.mem_of_getElem? (i := 22) rfl))) (ty := .long) (by decide)
  have F1_recordsPublished : Fld Z h1 a "com/example/mokrok/mokrok/ValidationSummary" "recordsPublished" "J" (.long (0 : Int64)) := D1 (Or.inl (hw _ (List.mem_of_getElem? (i := 29) rfl))) (ty := .long) (by decide)
  have F1_problems : Fld Z h1 a "com/example/mokrok/mokrok/ValidationSummary" "problems" "J" (.long (0 : Int64)) := D1 (Or.inl (hw _ (List.mem_of_getElem? (i := 31) rfl))) (ty := .long) (by decide)
  refine own_st st1 ?_
  show OwnGo p e below s _ _ _ T1 (mkF m 3 #[.val (.int p1), .val (.int p2), .val (.int p3), .val (.int p4), .unset, .unset, .unset, .unset, .unset, .unset] [(.ref a)])
  refine own_st (T' := T1) (g' := (mkF m 4 #[.val (.int p1), .val (.int p2), .val (.int p3), .val (.int p4), .unset, .unset, .unset, .unset, .unset, .unset] [(.ref a), (.ref a)])) (fun uT uK => ?_) ?_
  · show Steps p.tables e below (T1.setTop (mkF m 3 #[.val (.int p1), .val (.int p2), .val (.int p3), .val (.int p4), .unset, .unset, .unset, .unset, .unset, .unset] [(.ref a)])) _
    refine XS.dup X1.here hx rfl (hb hby at_3) rfl rfl ?_
    exact uK
  obtain ⟨_, _, ⟨T2, L2, k2, n2⟩, -, X2, ⟨Lc2, hQ2, l2, y2, z2⟩, st2⟩ := X1.specialBack hx (y := (⟨"com/example/mokrok/mokrok/ValidationSummary", "<init>", "()V"⟩ : MethodName)) rfl hown (mvT hZ (hw _ (List.mem_of_getElem? (i := 3) rfl))) (mvT hZ (hw _ (List.mem_of_getElem? (i := 4) rfl))) (mvT hZ (hw _ (List.mem_of_getElem? (i := 5) rfl))) (by decide) (backOf (W := 1) (rm1 l Z a0 hw [] a h1 n0 Z1) hZ (hw _ (List.mem_of_getElem? (i := 5) rfl)) (hw _ (List.mem_of_getElem? (i := 2) rfl)) (by decide) (by decide)) (g := (mkF m 4 #[.val (.int p1), .val (.int p2), .val (.int p3), .val (.int p4), .unset, .unset, .unset, .unset, .unset, .unset] [(.ref a), (.ref a)])) rfl (by rw [hml]; rfl) (Steps.refl _) (a := a) (argsL := []) (rest := [(.ref a)]) (lenOf own_pd2 rfl) rfl (by show 2 * 0 + _ ≤ _; exact Nat.le_of_eq rfl) (hb hby at_4) (fun _ _ => ⟨rfl, e1, (by decide : 1 + 0 ≤ _), (by decide : 4 + 0 ≤ _)⟩)
  dsimp only [Pt.U, Pt.locs, Pt.cells, Pt.slots] at X2 l2 y2 z2 st2 hQ2
  subst l2 y2 z2
  obtain ⟨rfl, Nq2, e2⟩ := hQ2
  have N2 := Fr.app N0 Nq2
  refine own_tr st2 ?_
  show OwnGo p e below s _ _ _ T2 (mkF m 7 #[.val (.int p1), .val (.int p2), .val (.int p3), .val (.int p4), .unset, .unset, .unset, .unset, .unset, .unset] [(.ref a)])
  refine own_st (T' := T2) (g' := (mkF m 11 #[.val (.int p1), .val (.int p2), .val (.int p3), .val (.int p4), .val (.ref a), .unset, .unset, .unset, .unset, .unset] [(.ref a)])) (fun uT uK => ?_) ?_
  · show Steps p.tables e below (T2.setTop (mkF m 7 #[.val (.int p1), .val (.int p2), .val (.int p3), .val (.int p4), .unset, .unset, .unset, .unset, .unset, .unset] [(.ref a)])) _
    refine XS.astore X2.here hx rfl (hb hby at_7) rfl rfl (l' := #[.val (.int p1), .val (.int p2), .val (.int p3), .val (.int p4), .val (.ref a), .unset, .unset, .unset, .unset, .unset]) rfl ?_
    show Steps p.tables e below (T2.setTop (mkF m 9 #[.val (.int p1), .val (.int p2), .val (.int p3), .val (.int p4), .val (.ref a), .unset, .unset, .unset, .unset, .unset] [])) _
    refine XS.aload X2.here hx rfl (hb hby at_9) rfl rfl ?_
    exact uK
  obtain ⟨cq3, kq3, qa3, qb3, qc3⟩ := isOf hZ e2 (A1)
  obtain ⟨_, _, ⟨T3, L3, k3, n3⟩, -, X3, ⟨Lc3, hQ3, l3, y3, z3⟩, st3⟩ := X2.virtualBack hx (y := (⟨"com/example/mokrok/mokrok/ValidationSummary", "quarantinedAny", "()Z"⟩ : MethodName)) (z := (⟨"com/example/mokrok/mokrok/ValidationSummary", "quarantinedAny", "()Z"⟩ : MethodName)) hown (mvT hZ (hw _ (List.mem_of_getElem? (i := 9) rfl))) (mvT hZ (hw _ (List.mem_of_getElem? (i := 10) rfl))) (notFace_of_selects (args := #[]) (mvT hZ (hw _ (List.mem_of_getElem? (i := 12) rfl)))) (mvT hZ (hw _ (List.mem_of_getElem? (i := 12) rfl))) (mvT hZ (hw _ (List.mem_of_getElem? (i := 11) rfl))) (by decide) (backOf (W := 0) (rm3 l Z a0 hw [] a (0 : Int64) h1 n0 Z1 F1_recordsQuarantined) hZ (hw _ (List.mem_of_getElem? (i := 13) rfl)) (hw _ (List.mem_of_getElem? (i := 2) rfl)) (by decide) (by decide)) qa3 qc3 (g := (mkF m 11 #[.val (.int p1), .val (.int p2), .val (.int p3), .val (.int p4), .val (.ref a), .unset, .unset, .unset, .unset, .unset] [(.ref a)])) rfl (by rw [hml]; rfl) (Steps.refl _) (argsL := []) (rest := []) (lenOf own_pd0 rfl) rfl (by show 2 * 0 + _ ≤ _; exact Nat.le_of_eq rfl) (hb hby at_11) (fun _ _ => ⟨rfl, e2, (by decide : 1 + 0 ≤ _), (by decide : 4 + 0 ≤ _)⟩)
  dsimp only [Pt.U, Pt.locs, Pt.cells, Pt.slots] at X3 l3 y3 z3 st3 hQ3
  subst l3 y3 z3
  obtain ⟨rfl, Nq3, e3⟩ := hQ3
  have N3 := Fr.app N2 Nq3
  refine own_tr st3 ?_
  show OwnGo p e below s _ _ _ T3 (mkF m 14 #[.val (.int p1), .val (.int p2), .val (.int p3), .val (.int p4), .val (.ref a), .unset, .unset, .unset, .unset, .unset] [(.int (own_any (0 : Int64)))])
  refine own_st (T' := T3) (g' := (mkF m 35 #[.val (.int p1), .val (.int p2), .val (.int p3), .val (.int p4), .val (.ref a), .val (.int (1 : Int32)), .val (.int (0 : Int32)), .val (.int (p1 &&& (3 : Int32))), .unset, .unset] [(.int (1 : Int32)), (.int (p1 &&& (3 : Int32)))])) (fun uT uK => ?_) ?_
  · show Steps p.tables e below (T3.setTop (mkF m 14 #[.val (.int p1), .val (.int p2), .val (.int p3), .val (.int p4), .val (.ref a), .unset, .unset, .unset, .unset, .unset] [(.int (own_any (0 : Int64)))])) _
    refine XS.ifNo X3.here hx rfl (hb hby at_14) rfl (XT.i0_ne_f (by decide)) ?_
    show Steps p.tables e below (T3.setTop (mkF m 17 #[.val (.int p1), .val (.int p2), .val (.int p3), .val (.int p4), .val (.ref a), .unset, .unset, .unset, .unset, .unset] [])) _
    refine XS.iconst X3.here hx rfl (hb hby at_17) ?_
    show Steps p.tables e below (T3.setTop (mkF m 18 #[.val (.int p1), .val (.int p2), .val (.int p3), .val (.int p4), .val (.ref a), .unset, .unset, .unset, .unset, .unset] [(.int (1 : Int32))])) _
    refine XS.goto X3.here hx rfl (pc0 := 18) (pc' := 22) rfl (hb hby at_18) (by decide) (by decide) ?_
    show Steps p.tables e below (T3.setTop (mkF m 22 #[.val (.int p1), .val (.int p2), .val (.int p3), .val (.int p4), .val (.ref a), .unset, .unset, .unset, .unset, .unset] [(.int (1 : Int32))])) _
    refine XS.istore X3.here hx rfl (hb hby at_22) rfl (l' := #[.val (.int p1), .val (.int p2), .val (.int p3), .val (.int p4), .val (.ref a), .val (.int (1 : Int32)), .unset, .unset, .unset, .unset]) rfl ?_
    show Steps p.tables e below (T3.setTop (mkF m 24 #[.val (.int p1), .val (.int p2), .val (.int p3), .val (.int p4), .val (.ref a), .val (.int (1 : Int32)), .unset, .unset, .unset, .unset] [])) _
    refine XS.iconst X3.here hx rfl (hb hby at_24) ?_
    show Steps p.tables e below (T3.setTop (mkF m 25 #[.val (.int p1), .val (.int p2), .val (.int p3), .val (.int p4), .val (.ref a), .val (.int (1 : Int32)), .unset, .unset, .unset, .unset] [(.int (0 : Int32))])) _
    refine XS.istore X3.here hx rfl (hb hby at_25) rfl (l' := #[.val (.int p1), .val (.int p2), .val (.int p3), .val (.int p4), .val (.ref a), .val (.int (1 : Int32)), .val (.int (0 : Int32)), .unset, .unset, .unset]) rfl ?_
    show Steps p.tables e below (T3.setTop (mkF m 27 #[.val (.int p1), .val (.int p2), .val (.int p3), .val (.int p4), .val (.ref a), .val (.int (1 : Int32)), .val (.int (0 : Int32)), .unset, .unset, .unset] [])) _
    refine XS.iloadN X3.here hx rfl (hb hby at_27) rfl ?_
    show Steps p.tables e below (T3.setTop (mkF m 28 #[.val (.int p1), .val (.int p2), .val (.int p3), .val (.int p4), .val (.ref a), .val (.int (1 : Int32)), .val (.int (0 : Int32)), .unset, .unset, .unset] [(.int p1)])) _
    refine XS.iconst X3.here hx rfl (hb hby at_28) ?_
    show Steps p.tables e below (T3.setTop (mkF m 29 #[.val (.int p1), .val (.int p2), .val (.int p3), .val (.int p4), .val (.ref a), .val (.int (1 : Int32)), .val (.int (0 : Int32)), .unset, .unset, .unset] [(.int (3 : Int32)), (.int p1)])) _
    refine XS.iand X3.here hx rfl (hb hby at_29) rfl ?_
    show Steps p.tables e below (T3.setTop (mkF m 30 #[.val (.int p1), .val (.int p2), .val (.int p3), .val (.int p4), .val (.ref a), .val (.int (1 : Int32)), .val (.int (0 : Int32)), .unset, .unset, .unset] [(.int (p1 &&& (3 : Int32)))])) _
    refine XS.istore X3.here hx rfl (hb hby at_30) rfl (l' := #[.val (.int p1), .val (.int p2), .val (.int p3), .val (.int p4), .val (.ref a), .val (.int (1 : Int32)), .val (.int (0 : Int32)), .val (.int (p1 &&& (3 : Int32))), .unset, .unset]) rfl ?_
    show Steps p.tables e below (T3.setTop (mkF m 32 #[.val (.int p1), .val (.int p2), .val (.int p3), .val (.int p4), .val (.ref a), .val (.int (1 : Int32)), .val (.int (0 : Int32)), .val (.int (p1 &&& (3 : Int32))), .unset, .unset] [])) _
    refine XS.iload X3.here hx rfl (hb hby at_32) rfl ?_
    show Steps p.tables e below (T3.setTop (mkF m 34 #[.val (.int p1), .val (.int p2), .val (.int p3), .val (.int p4), .val (.ref a), .val (.int (1 : Int32)), .val (.int (0 : Int32)), .val (.int (p1 &&& (3 : Int32))), .unset, .unset] [(.int (p1 &&& (3 : Int32)))])) _
    refine XS.iconst X3.here hx rfl (hb hby at_34) ?_
    exact uK
  by_cases hc35 : (p1 &&& (3 : Int32)) = (1 : Int32)
  · refine own_st (T' := T3) (g' := (mkF m 41 #[.val (.int p1), .val (.int p2), .val (.int p3), .val (.int p4), .val (.ref a), .val (.int (1 : Int32)), .val (.int (0 : Int32)), .val (.int (p1 &&& (3 : Int32))), .unset, .unset] [(.int p2), (.ref a)])) (fun uT uK => ?_) ?_
    · show Steps p.tables e below (T3.setTop (mkF m 35 #[.val (.int p1), .val (.int p2), .val (.int p3), .val (.int p4), .val (.ref a), .val (.int (1 : Int32)), .val (.int (0 : Int32)), .val (.int (p1 &&& (3 : Int32))), .unset, .unset] [(.int (1 : Int32)), (.int (p1 &&& (3 : Int32)))])) _
      refine XS.icmpNo X3.here hx rfl (hb hby at_35) rfl (XT.ii_ne_f hc35) ?_
      show Steps p.tables e below (T3.setTop (mkF m 38 #[.val (.int p1), .val (.int p2), .val (.int p3), .val (.int p4), .val (.ref a), .val (.int (1 : Int32)), .val (.int (0 : Int32)), .val (.int (p1 &&& (3 : Int32))), .unset, .unset] [])) _
      refine XS.aload X3.here hx rfl (hb hby at_38) rfl rfl ?_
      show Steps p.tables e below (T3.setTop (mkF m 40 #[.val (.int p1), .val (.int p2), .val (.int p3), .val (.int p4), .val (.ref a), .val (.int (1 : Int32)), .val (.int (0 : Int32)), .val (.int (p1 &&& (3 : Int32))), .unset, .unset] [(.ref a)])) _
      refine XS.iloadN X3.here hx rfl (hb hby at_40) rfl ?_
      exact uK
    obtain ⟨cq4, kq4, qa4, qb4, qc4⟩ := isOf hZ e3 (A1)
    obtain ⟨_, _, ⟨T4, L4, k4, n4⟩, -, X4, ⟨Lc4, hQ4, l4, y4, z4⟩, st4⟩ := X3.virtualBack hx (y := (⟨"com/example/mokrok/mokrok/ValidationSummary", "published", "(I)V"⟩ : MethodName)) (z := (⟨"com/example/mokrok/mokrok/ValidationSummary", "published", "(I)V"⟩ : MethodName)) hown (mvT hZ (hw _ (List.mem_of_getElem? (i := 23) rfl))) (mvT hZ (hw _ (List.mem_of_getElem? (i := 24) rfl))) (notFace_of_selects (args := #[]) (mvT hZ (hw _ (List.mem_of_getElem? (i := 26) rfl)))) (mvT hZ (hw _ (List.mem_of_getElem? (i := 26) rfl))) (mvT hZ (hw _ (List.mem_of_getElem? (i := 25) rfl))) (by decide) (backOf (W := 0) (rm5 l Z a0 hw [] a (0 : Int64) (0 : Int64) (0 : Int64) (0 : Int64) p2 h1 n0 Z1 A1 F1_recordsRead F1_recordsPublished F1_problems F1_recordsQuarantined g_a) hZ (hw _ (List.mem_of_getElem? (i := 27) rfl)) (hw _ (List.mem_of_getElem? (i := 2) rfl)) (by decide) (by decide)) qa4 qc4 (g := (mkF m 41 #[.val (.int p1), .val (.int p2), .val (.int p3), .val (.int p4), .val (.ref a), .val (.int (1 : Int32)), .val (.int (0 : Int32)), .val (.int (p1 &&& (3 : Int32))), .unset, .unset] [(.int p2), (.ref a)])) rfl (by rw [hml]; rfl) (Steps.refl _) (argsL := [(.int p2)]) (rest := []) (lenOf own_pd1 rfl) rfl (by show 2 * 0 + _ ≤ _; exact Nat.le_of_eq rfl) (hb hby at_41) (fun _ _ => ⟨rfl, e3, (by decide : 1 + 0 ≤ _), (by decide : 4 + 0 ≤ _)⟩)
    dsimp only [Pt.U, Pt.locs, Pt.cells, Pt.slots] at X4 l4 y4 z4 st4 hQ4
    subst l4 y4 z4
    obtain ⟨rfl, Nq4, Kc4, Ec4, Fc_r4, Fc_u4, Fc_b4, Fc_k4⟩ := hQ4
    have N4 := Fr.app N3 Nq4
    refine own_tr st4 ?_
    show OwnGo p e below s _ _ _ T4 (mkF m 44 #[.val (.int p1), .val (.int p2), .val (.int p3), .val (.int p4), .val (.ref a), .val (.int (1 : Int32)), .val (.int (0 : Int32)), .val (.int (p1 &&& (3 : Int32))), .unset, .unset] [])
    have Z4 : n0 ≤ T4.heap.size := Nat.le_trans Z1 Kc4.1
    refine own_st (T' := T4) (g' := (mkF m 61 #[.val (.int p1), .val (.int p2), .val (.int p3), .val (.int p4), .val (.ref a), .val (.int (1 : Int32)), .val (.int (0 : Int32)), .val (.int (p1 &&& (3 : Int32))), .unset, .unset] [])) (fun uT uK => ?_) ?_
    · show Steps p.tables e below (T4.setTop (mkF m 44 #[.val (.int p1), .val (.int p2), .val (.int p3), .val (.int p4), .val (.ref a), .val (.int (1 : Int32)), .val (.int (0 : Int32)), .val (.int (p1 &&& (3 : Int32))), .unset, .unset] [])) _
      refine XS.goto X4.here hx rfl (pc0 := 44) (pc' := 61) rfl (hb hby at_44) (by decide) (by decide) ?_
      exact uK
    exact own_t61 p1 p2 p3 p4 a ((0 : Int64) + 1) ((0 : Int64) + 1) ((0 : Int64) + p2.toInt64) (0 : Int64) (0 : Int32) (p1 &&& (3 : Int32)) h0 (by decide) (by decide) K X4 rfl N4 Z4 Ec4 Fc_r4 Fc_u4 Fc_b4 Fc_k4 g_a
  · refine own_st (T' := T3) (g' := (mkF m 50 #[.val (.int p1), .val (.int p2), .val (.int p3), .val (.int p4), .val (.ref a), .val (.int (1 : Int32)), .val (.int (0 : Int32)), .val (.int (p1 &&& (3 : Int32))), .unset, .unset] [(.int (2 : Int32)), (.int (p1 &&& (3 : Int32)))])) (fun uT uK => ?_) ?_
    · show Steps p.tables e below (T3.setTop (mkF m 35 #[.val (.int p1), .val (.int p2), .val (.int p3), .val (.int p4), .val (.ref a), .val (.int (1 : Int32)), .val (.int (0 : Int32)), .val (.int (p1 &&& (3 : Int32))), .unset, .unset] [(.int (1 : Int32)), (.int (p1 &&& (3 : Int32)))])) _
      refine XS.icmpYes X3.here hx rfl (pc0 := 35) (pc' := 47) rfl (hb hby at_35) rfl (XT.ii_ne_t hc35) (by decide) (by decide) ?_
      show Steps p.tables e below (T3.setTop (mkF m 47 #[.val (.int p1), .val (.int p2), .val (.int p3), .val (.int p4), .val (.ref a), .val (.int (1 : Int32)), .val (.int (0 : Int32)), .val (.int (p1 &&& (3 : Int32))), .unset, .unset] [])) _
      refine XS.iload X3.here hx rfl (hb hby at_47) rfl ?_
      show Steps p.tables e below (T3.setTop (mkF m 49 #[.val (.int p1), .val (.int p2), .val (.int p3), .val (.int p4), .val (.ref a), .val (.int (1 : Int32)), .val (.int (0 : Int32)), .val (.int (p1 &&& (3 : Int32))), .unset, .unset] [(.int (p1 &&& (3 : Int32)))])) _
      refine XS.iconst X3.here hx rfl (hb hby at_49) ?_
      exact uK
    by_cases hc50 : (p1 &&& (3 : Int32)) < (2 : Int32)
    · refine own_st (T' := T3) (g' := (mkF m 61 #[.val (.int p1), .val (.int p2), .val (.int p3), .val (.int p4), .val (.ref a), .val (.int (1 : Int32)), .val (.int (0 : Int32)), .val (.int (p1 &&& (3 : Int32))), .unset, .unset] [])) (fun uT uK => ?_) ?_
      · show Steps p.tables e below (T3.setTop (mkF m 50 #[.val (.int p1), .val (.int p2), .val (.int p3), .val (.int p4), .val (.ref a), .val (.int (1 : Int32)), .val (.int (0 : Int32)), .val (.int (p1 &&& (3 : Int32))), .unset, .unset] [(.int (2 : Int32)), (.int (p1 &&& (3 : Int32)))])) _
        refine XS.icmpYes X3.here hx rfl (pc0 := 50) (pc' := 61) rfl (hb hby at_50) rfl (XT.ii_lt_t hc50) (by decide) (by decide) ?_
        exact uK
      exact own_t61 p1 p2 p3 p4 a (0 : Int64) (0 : Int64) (0 : Int64) (0 : Int64) (0 : Int32) (p1 &&& (3 : Int32)) h0 (by decide) (by decide) K X3 e3 N3 Z1 A1 F1_recordsRead F1_recordsPublished F1_problems F1_recordsQuarantined g_a
    · refine own_st (T' := T3) (g' := (mkF m 55 #[.val (.int p1), .val (.int p2), .val (.int p3), .val (.int p4), .val (.ref a), .val (.int (1 : Int32)), .val (.int (0 : Int32)), .val (.int (p1 &&& (3 : Int32))), .unset, .unset] [(.ref a)])) (fun uT uK => ?_) ?_
      · show Steps p.tables e below (T3.setTop (mkF m 50 #[.val (.int p1), .val (.int p2), .val (.int p3), .val (.int p4), .val (.ref a), .val (.int (1 : Int32)), .val (.int (0 : Int32)), .val (.int (p1 &&& (3 : Int32))), .unset, .unset] [(.int (2 : Int32)), (.int (p1 &&& (3 : Int32)))])) _
        refine XS.icmpNo X3.here hx rfl (hb hby at_50) rfl (XT.ii_lt_f hc50) ?_
        show Steps p.tables e below (T3.setTop (mkF m 53 #[.val (.int p1), .val (.int p2), .val (.int p3), .val (.int p4), .val (.ref a), .val (.int (1 : Int32)), .val (.int (0 : Int32)), .val (.int (p1 &&& (3 : Int32))), .unset, .unset] [])) _
        refine XS.aload X3.here hx rfl (hb hby at_53) rfl rfl ?_
        exact uK
      obtain ⟨cq5, kq5, qa5, qb5, qc5⟩ := isOf hZ e3 (A1)
      obtain ⟨_, _, ⟨T5, L5, k5, n5⟩, -, X5, ⟨Lc5, hQ5, l5, y5, z5⟩, st5⟩ := X3.virtualBack hx (y := (⟨"com/example/mokrok/mokrok/ValidationSummary", "quarantined", "()V"⟩ : MethodName)) (z := (⟨"com/example/mokrok/mokrok/ValidationSummary", "quarantined", "()V"⟩ : MethodName)) hown (mvT hZ (hw _ (List.mem_of_getElem? (i := 16) rfl))) (mvT hZ (hw _ (List.mem_of_getElem? (i := 17) rfl))) (notFace_of_selects (args := #[]) (mvT hZ (hw _ (List.mem_of_getElem? (i := 19) rfl)))) (mvT hZ (hw _ (List.mem_of_getElem? (i := 19) rfl))) (mvT hZ (hw _ (List.mem_of_getElem? (i := 18) rfl))) (by decide) (backOf (W := 0) (rm4 l Z a0 hw [] a (0 : Int64) (0 : Int64) (0 : Int64) (0 : Int64) h1 n0 Z1 A1 F1_recordsRead F1_recordsPublished F1_problems F1_recordsQuarantined g_a) hZ (hw _ (List.mem_of_getElem? (i := 20) rfl)) (hw _ (List.mem_of_getElem? (i := 2) rfl)) (by decide) (by decide)) qa5 qc5 (g := (mkF m 55 #[.val (.int p1), .val (.int p2), .val (.int p3), .val (.int p4), .val (.ref a), .val (.int (1 : Int32)), .val (.int (0 : Int32)), .val (.int (p1 &&& (3 : Int32))), .unset, .unset] [(.ref a)])) rfl (by rw [hml]; rfl) (Steps.refl _) (argsL := []) (rest := []) (lenOf own_pd2 rfl) rfl (by show 2 * 0 + _ ≤ _; exact Nat.le_of_eq rfl) (hb hby at_55) (fun _ _ => ⟨rfl, e3, (by decide : 1 + 0 ≤ _), (by decide : 4 + 0 ≤ _)⟩)
      dsimp only [Pt.U, Pt.locs, Pt.cells, Pt.slots] at X5 l5 y5 z5 st5 hQ5
      subst l5 y5 z5
      obtain ⟨rfl, Nq5, Kc5, Ec5, Fc_r5, Fc_u5, Fc_b5, Fc_k5⟩ := hQ5
      have N5 := Fr.app N3 Nq5
      refine own_tr st5 ?_
      show OwnGo p e below s _ _ _ T5 (mkF m 58 #[.val (.int p1), .val (.int p2), .val (.int p3), .val (.int p4), .val (.ref a), .val (.int (1 : Int32)), .val (.int (0 : Int32)), .val (.int (p1 &&& (3 : Int32))), .unset, .unset] [])
      have Z5 : n0 ≤ T5.heap.size := Nat.le_trans Z1 Kc5.1
      refine own_st (T' := T5) (g' := (mkF m 61 #[.val (.int p1), .val (.int p2), .val (.int p3), .val (.int p4), .val (.ref a), .val (.int (1 : Int32)), .val (.int (1 : Int32)), .val (.int (p1 &&& (3 : Int32))), .unset, .unset] [])) (fun uT uK => ?_) ?_
      · show Steps p.tables e below (T5.setTop (mkF m 58 #[.val (.int p1), .val (.int p2), .val (.int p3), .val (.int p4), .val (.ref a), .val (.int (1 : Int32)), .val (.int (0 : Int32)), .val (.int (p1 &&& (3 : Int32))), .unset, .unset] [])) _
        refine XS.iconst X5.here hx rfl (hb hby at_58) ?_
        show Steps p.tables e below (T5.setTop (mkF m 59 #[.val (.int p1), .val (.int p2), .val (.int p3), .val (.int p4), .val (.ref a), .val (.int (1 : Int32)), .val (.int (0 : Int32)), .val (.int (p1 &&& (3 : Int32))), .unset, .unset] [(.int (1 : Int32))])) _
        refine XS.istore X5.here hx rfl (hb hby at_59) rfl (l' := #[.val (.int p1), .val (.int p2), .val (.int p3), .val (.int p4), .val (.ref a), .val (.int (1 : Int32)), .val (.int (1 : Int32)), .val (.int (p1 &&& (3 : Int32))), .unset, .unset]) rfl ?_
        exact uK
      exact own_t61 p1 p2 p3 p4 a ((0 : Int64) + 1) (0 : Int64) (0 : Int64) ((0 : Int64) + 1) (1 : Int32) (p1 &&& (3 : Int32)) h0 (by have := own_up (k := 0) (i := 0) (by decide) (by decide); omega) (own_one (k := 0) (i := 0) (by decide) (by decide)) K X5 rfl N5 Z5 Ec5 Fc_r5 Fc_u5 Fc_b5 Fc_k5 g_a
set_option maxRecDepth 65536 in
set_option maxHeartbeats 40000000 in
theorem comes_1 {Post : Tables → Env → Array Value → State → Outcome → State → Prop} (hpost : ∀ tb e args s v u, (limb_1_1.after args s (.returned v) u = true ∧ limb_1_2.after args s (.returned v) u = true ∧ True) → FrameEnd s (.returned v) u (Jvm.fieldLocs frame_1_writes args s ++ Jvm.arrayLocs frame_1_arrays args s ++ Jvm.staticLocs frame_1_statics s) 16 128 → Post tb e args s (.returned v) u) :
    ArmFor flags0 classFile x code maxLocals ret World_1 tables_1 room_1 Calls_1 rest_1 Pre_1 Post := by
  intro l hfl _ _ p e ha hc hk s m args below hf hA hF happ hP
  obtain ⟨hcalls, hrest, hpre⟩ := hP
  obtain ⟨-, -, -, hnamed, -, -, -, hat⟩ := (Spec.applies_iff hf).mp happ
  obtain ⟨hg, hn⟩ := and_e (Cond.before_iff.mp (show (Jvm.Cond.and given_1 narrow_1).before args s = true from hpre))
  obtain ⟨hcount, ha0⟩ := and_e hg
  obtain ⟨hv0, ha1⟩ := and_e ha0
  obtain ⟨hv1, ha2⟩ := and_e ha1
  obtain ⟨hv2, ha3⟩ := and_e ha2
  have hv3 := ha3
  obtain ⟨w0, w1, w2, w3, rfl⟩ : ∃ w0 w1 w2 w3 : Value, args = #[w0, w1, w2, w3] := by
    have hs : args.size = 4 := by simpa [Cond.value, given_1] using hcount
    obtain ⟨L⟩ := args
    match L, hs with
    | [w0, w1, w2, w3], _ => exact ⟨w0, w1, w2, w3, rfl⟩
  have hw := fun d (hd : d ∈ tables_1) => atoms_spec (ws := Jvm.Cond.code x code maxLocals ret :: tables_1) hat d (List.mem_cons_of_mem _ hd)
  obtain ⟨i0, ei0⟩ := is_v hv0
  obtain rfl : w0 = (.int i0) := Option.some.inj ei0
  obtain ⟨i1, ei1⟩ := is_v hv1
  obtain rfl : w1 = (.int i1) := Option.some.inj ei1
  obtain ⟨i2, ei2⟩ := is_v hv2
  obtain rfl : w2 = (.int i2) := Option.some.inj ei2
  obtain ⟨i3, ei3⟩ := is_v hv3
  obtain rfl : w3 = (.int i3) := Option.some.inj ei3
  obtain ⟨n, o, h1, h2, h3, _, L, rfl, ⟨rfl, N⟩, hq⟩ := rm0 l s _ hw tables_1 i0 i1 i2 i3 s.heap s.heap.size (Nat.le_refl _) p e ha hc hk s m _ below hf ((Spec.applies_iff_loose hf).mp happ).1 ⟨rfl, State.Warmed39.refl s, rfl⟩ trivial
  refine ⟨n, _, h1, h2, h3, hpost _ _ _ _ _ _ ⟨Cond.after_iff.mpr rfl, Cond.after_iff.mpr (eq_i res_at (Term.int_eval (1)) rfl), trivial⟩ ⟨hq.1, hq.2.1, (hq.2.2.sift fun y hy => Or.inr (N y hy)).mono (by decide) (by decide)⟩⟩
theorem main_1_1 : Claimed_1_1 := comes_1 fun _ _ _ _ _ _ h hF => ⟨h.1, hF⟩
theorem main_1_2 : Claimed_1_2 := comes_1 fun _ _ _ _ _ _ h hF => ⟨h.2.1, hF⟩
end Jvm.Pilot.@@N@@
namespace Jvm.Pilot.@@N@@
open Jvm Jvm.ClassFile Sem Op Lib Jvm.Free Jvm.Stand Jvm.Pilot.@@N@@.Jvm.D
/-! MADE BY PROGRAM (witnessworld.py) out of the Statement's table words and the real class files: 7 classes; the members and pool entries that the words name. The judged class is class 1, her method 1. -/
namespace start1
open Jvm.ClassFile
def u (s : String) : CpInfo := .utf8 (stringToUtf16 s)
/-- a pool by its gaps: so many unusable entries, then the entry; so many at the end -/
def gap : Nat → List CpInfo → List CpInfo
  | 0, r => r
  | n + 1, r => .unusable :: gap n r
def poolList (es : List (Nat × CpInfo)) (last : Nat) : List CpInfo := es.foldr (fun e r => gap e.1 (e.2 :: r)) (gap last [])
def pool (es : List (Nat × CpInfo)) (last : Nat) : Array CpInfo := ⟨poolList es last⟩
def fileOf (pool : Array CpInfo) (this : Nat) (attrs : Array Attribute := #[]) (ms : Array MethodInfo := #[]) (fl : Nat := 33) (sup : Nat := 0) (ifs : Array Nat := #[]) (fds : Array FieldInfo := #[]) : ClassFile where
  minorVersion := 0
  majorVersion := 65
  constantPool := pool
  accessFlags := fl
  thisClass := this
  superClass := sup
  interfaces := ifs
  fields := fds
  methods := ms
  attributes := attrs
def plain (name : String) (sup : Option ClassId) : Class where
  name := name
  kind := .ordinary
  loader := none
  accessFlags := 33
  super := sup
  interfaces := #[]
  cf := none
  fields := #[]
  methods := #[]
  instanceTypes := #[]
  staticTypes := #[]
  resolved := #[]
  callSites := []
  init := .initialized
  statics := none
  mirror := none

def pool0 : Array CpInfo := pool [(5, u "<init>"), (0, u "()V"), (1, .class_ 10), (1, u "java/lang/Object")] 113

def k0c0 : Code := { maxStack := 0, maxLocals := 1, code := object_method_1_code, exceptionTable := #[], attributes := #[] }
def k0m0 : Method := { name := "<init>", desc := "()V", sig := { parameters := [], returnType := none }, accessFlags := 1, code := some k0c0 }
/-- java/lang/Object -/
def k0 : Class := { plain "java/lang/Object" none with
  accessFlags := 33
  interfaces := #[]
  cf := some (fileOf pool0 8 #[] #[{ accessFlags := 1, nameIndex := 5, descriptorIndex := 6, attributes := #[] }] 33 0 #[] #[])
  fields := #[]
  methods := #[k0m0]
  instanceTypes := #[]
  staticTypes := #[]
  resolved := Array.replicate 124 none
  statics := none }

def pool1 : Array CpInfo := pool [(2, .class_ 4), (0, .nameAndType 5 6), (0, u "java/lang/Object"), (0, u "<init>"), (0, u "()V"), (0, .class_ 8), (0, u "com/example/mokrok/mokrok/ValidationSummary"), (0, .methodref 7 3), (0, .methodref 7 11), (0, .nameAndType 12 13), (0, u "quarantinedAny"), (0, u "()Z"), (0, .methodref 7 15), (0, .nameAndType 16 17), (0, u "published"), (0, u "(I)V"), (0, .methodref 7 19), (0, .nameAndType 20 6), (0, u "quarantined"), (0, .class_ 22), (0, u "com/example/mokrok/mokrok/ValidationSummaryQuarantinedAnyPinLaw"), (2, u "law"), (0, u "(IIII)Z")] 3

def k1m0 : Method := { name := "<init>", desc := "()V", sig := { parameters := [], returnType := none }, accessFlags := 1, code := none }
def k1c1 : Code := { maxStack := 2, maxLocals := 10, code := code, exceptionTable := #[], attributes := #[] }
def k1m1 : Method := { name := "law", desc := "(IIII)Z", sig := { parameters := [.int, .int, .int, .int], returnType := some .boolean }, accessFlags := 9, code := some k1c1 }
/-- com/example/mokrok/mokrok/ValidationSummaryQuarantinedAnyPinLaw -/
def k1 : Class := { plain "com/example/mokrok/mokrok/ValidationSummaryQuarantinedAnyPinLaw" (some 0) with
  accessFlags := 49
  interfaces := #[]
  cf := some (fileOf pool1 21 #[] #[{ accessFlags := 1, nameIndex := 5, descriptorIndex := 6, attributes := #[] }, { accessFlags := 9, nameIndex := 25, descriptorIndex := 26, attributes := #[] }] 49 2 #[] #[])
  fields := #[]
  methods := #[k1m0, k1m1]
  instanceTypes := #[]
  staticTypes := #[]
  resolved := Array.replicate 30 none
  statics := none }

def pool2 : Array CpInfo := pool [(1, .methodref 2 3), (0, .class_ 4), (0, .nameAndType 5 6), (0, u "java/lang/Object"), (0, u "<init>"), (0, u "()V"), (0, .fieldref 8 9), (0, .class_ 10), (0, .nameAndType 11 12), (0, u "com/example/mokrok/mokrok/ValidationSummary"), (0, u "recordsRead"), (0, u "J"), (0, .fieldref 8 14), (0, .nameAndType 15 12), (0, u "recordsPublished"), (0, .fieldref 8 17), (0, .nameAndType 18 12), (0, u "problems"), (0, .fieldref 8 20), (0, .nameAndType 21 12), (0, u "recordsQuarantined"), (28, u "published"), (0, u "(I)V"), (0, u "quarantined"), (0, u "quarantinedAny"), (0, u "()Z")] 4

def k2c0 : Code := { maxStack := 1, maxLocals := 1, code := prog_39_method_1_code, exceptionTable := #[], attributes := #[] }
def k2m0 : Method := { name := "<init>", desc := "()V", sig := { parameters := [], returnType := none }, accessFlags := 0, code := some k2c0 }
def k2c1 : Code := { maxStack := 5, maxLocals := 2, code := prog_39_method_2_code, exceptionTable := #[], attributes := #[] }
def k2m1 : Method := { name := "published", desc := "(I)V", sig := { parameters := [.int], returnType := none }, accessFlags := 0, code := some k2c1 }
def k2c2 : Code := { maxStack := 5, maxLocals := 1, code := prog_39_method_3_code, exceptionTable := #[], attributes := #[] }
def k2m2 : Method := { name := "quarantined", desc := "()V", sig := { parameters := [], returnType := none }, accessFlags := 0, code := some k2c2 }
def k2c3 : Code := { maxStack := 4, maxLocals := 1, code := prog_39_method_4_code, exceptionTable := #[], attributes := #[] }
def k2m3 : Method := { name := "quarantinedAny", desc := "()Z", sig := { parameters := [], returnType := some .boolean }, accessFlags := 0, code := some k2c3 }
/-- com/example/mokrok/mokrok/ValidationSummary -/
def k2 : Class := { plain "com/example/mokrok/mokrok/ValidationSummary" (some 0) with
  accessFlags := 48
  interfaces := #[]
  cf := some (fileOf pool2 8 #[] #[{ accessFlags := 0, nameIndex := 5, descriptorIndex := 6, attributes := #[] }, { accessFlags := 0, nameIndex := 50, descriptorIndex := 51, attributes := #[] }, { accessFlags := 0, nameIndex := 52, descriptorIndex := 6, attributes := #[] }, { accessFlags := 0, nameIndex := 53, descriptorIndex := 54, attributes := #[] }] 48 2 #[] #[{ accessFlags := 2, nameIndex := 11, descriptorIndex := 12, attributes := #[] }, { accessFlags := 2, nameIndex := 15, descriptorIndex := 12, attributes := #[] }, { accessFlags := 2, nameIndex := 21, descriptorIndex := 12, attributes := #[] }, { accessFlags := 2, nameIndex := 18, descriptorIndex := 12, attributes := #[] }])
  fields := #[{ name := "recordsRead", type := .long, accessFlags := 2, slot := 0, constantValue := 0 }, { name := "recordsPublished", type := .long, accessFlags := 2, slot := 1, constantValue := 0 }, { name := "recordsQuarantined", type := .long, accessFlags := 2, slot := 2, constantValue := 0 }, { name := "problems", type := .long, accessFlags := 2, slot := 3, constantValue := 0 }]
  methods := #[k2m0, k2m1, k2m2, k2m3]
  instanceTypes := #[.long, .long, .long, .long]
  staticTypes := #[]
  resolved := Array.replicate 59 none
  statics := none }

def pool3 : Array CpInfo := pool [(1, u "java/lang/Cloneable"), (0, .class_ 1), (0, u "java/lang/Object"), (0, .class_ 3)] 3

/-- java/lang/Cloneable -/
def k3 : Class := { plain "java/lang/Cloneable" (some 0) with
  accessFlags := 1537
  interfaces := #[]
  cf := some (fileOf pool3 2 #[] #[] 1537 4 #[] #[])
  fields := #[]
  methods := #[]
  instanceTypes := #[]
  staticTypes := #[]
  resolved := Array.replicate 8 none
  statics := none }

def pool4 : Array CpInfo := pool [(1, u "java/io/Serializable"), (0, .class_ 1), (0, u "java/lang/Object"), (0, .class_ 3)] 3

/-- java/io/Serializable -/
def k4 : Class := { plain "java/io/Serializable" (some 0) with
  accessFlags := 1537
  interfaces := #[]
  cf := some (fileOf pool4 2 #[] #[] 1537 4 #[] #[])
  fields := #[]
  methods := #[]
  instanceTypes := #[]
  staticTypes := #[]
  resolved := Array.replicate 8 none
  statics := none }

/-- the primitive byte -/
def k5 : Class := { plain "byte" none with kind := .primitive 'B', accessFlags := 0x411 }
/-- [B -/
def k6 : Class := { plain "[B" (some 0) with kind := .array 5 .byte, interfaces := #[3, 4], accessFlags := 1041 }

def heap : Heap := #[]
def classes : Array Class := #[k0, k1, k2, k3, k4, k5, k6]
def interned : List (Array UInt16 × Addr) := []
def slotsUsed : Nat := 0
def theMethod : MethodId := ⟨1, 1⟩
def args0 : Array Value := #[.int 6, .int 5, .int 4, .int 3]
def aboutOver (below : List Frame) : State where
  vm := { classes := classes, interned := interned.toArray }
  heap := heap
  slotsUsed := slotsUsed
  threads := #[{ frames := .invoking theMethod args0 :: below }]
def below0 : List Frame := [.native { method := ⟨0, 0⟩, args := #[] }]
def about1 : State := aboutOver below0
def p0 : Program := .bare "" "" ""
def e0 : Env := launch0.env 0 0 0
theorem w_frames : about1.frames = Frame.invoking theMethod args0 :: below0 := rfl
set_option maxRecDepth 65536 in
theorem w_args : argsFit about1.vm theMethod args0 = true := by decide +kernel
set_option maxRecDepth 65536 in
theorem w_heap : heapFits about1 = true := by decide +kernel
set_option maxRecDepth 65536 in
theorem w_runnable : about1.curStatus? = some .runnable := by decide +kernel
set_option maxRecDepth 65536 in
theorem w_alone : about1.alone = true := by decide +kernel
set_option maxRecDepth 65536 in
theorem w_named : about1.methodNamed? x = some theMethod := by decide +kernel
set_option maxRecDepth 65536 in
theorem w_hears : about1.hears theMethod below0 = true := by decide +kernel
set_option maxRecDepth 65536 in
theorem w_ripe : about1.ripe theMethod args0 below0 = true := by decide +kernel
theorem w_running : about1.status = .running := rfl
set_option maxRecDepth 65536 in
theorem w_room : about1.hasRoom e0.platform room_1 = true :=
  launch0.hasRoom_least _ room_1 (by decide +kernel) (by decide +kernel) (by decide +kernel) (by decide +kernel) (by decide +kernel) (by decide +kernel)
theorem allAtoms_all (ts : List Jvm.Cond) (a : Array Jvm.Value) (st : Jvm.State) : (allAtoms ts).before a st = ts.all (fun c => c.before a st) := by
  induction ts with
  | nil => rfl
  | cons c t ih =>
    show (Jvm.Cond.and c (allAtoms t)).before a st = _
    rw [Jvm.Cond.before_and, ih, List.all_cons]
def words1 : List Jvm.Cond := Jvm.Cond.code x code maxLocals ret :: tables_1
/-- a 'code' word, met by the world's own term for the bytes: nothing is compared byte by byte -/
theorem code_word {y : MethodName} {bytes : ByteArray} {mx : Nat} {rt : Option FieldType} {a : Array Value} {s : State} {m : MethodId} {meth : Method} {c : Code} (h1 : s.methodNamed? y = some m) (h2 : s.vm.method? m = some meth) (h3 : meth.code = some c) (h4 : c.code = bytes)
    (h5 : (c.maxLocals == mx && c.exceptionTable.isEmpty && decide (c.maxStack ≤ mostOperands) && decide (meth.sig.returnType = rt) && !meth.locks && decide (parseMethodDescriptor y.desc = some meth.sig)) = true) : (Jvm.Cond.code y bytes mx rt).before a s = true := by
  simp only [Bool.and_eq_true, beq_iff_eq, Bool.not_eq_true', decide_eq_true_eq] at h5
  obtain ⟨⟨⟨⟨⟨g1, g2⟩, g3⟩, g4⟩, g5⟩, g6⟩ := h5
  simp [Cond.before, Cond.holds, Cond.value, h1, h2, h3, h4, g1, g2, g3, g4, g5, g6]
def isCode : Jvm.Cond → Bool
  | .code _ _ _ _ => true
  | _ => false
theorem all_split {L : List Jvm.Cond} {P : Jvm.Cond → Bool} (h1 : L.all (fun c => isCode c || P c) = true) (h2 : ∀ c ∈ L.filter isCode, P c = true) : L.all P = true := by
  refine List.all_eq_true.mpr fun c hc => ?_
  have h := List.all_eq_true.mp h1 c hc
  rcases Bool.eq_false_or_eq_true (isCode c) with hi | hi
  · exact h2 c (List.mem_filter.mpr ⟨hc, hi⟩)
  · simpa [hi] using h
set_option maxRecDepth 65536 in
theorem w_c0 : (Jvm.Cond.code x code maxLocals ret).before args0 about1 = true := code_word (m := ⟨1, 1⟩) (meth := k1m1) (c := k1c1) (by decide +kernel) rfl rfl rfl (by decide +kernel)
set_option maxRecDepth 65536 in
theorem w_c1 : (Jvm.Cond.code ({ cls := "com/example/mokrok/mokrok/ValidationSummary", name := "<init>", desc := "()V" } : Jvm.MethodName) prog_39_method_1_code (1 : Nat) (Option.none : Option Jvm.ClassFile.FieldType)).before args0 about1 = true := code_word (m := ⟨2, 0⟩) (meth := k2m0) (c := k2c0) (by decide +kernel) rfl rfl rfl (by decide +kernel)
set_option maxRecDepth 65536 in
theorem w_c2 : (Jvm.Cond.code ({ cls := "java/lang/Object", name := "<init>", desc := "()V" } : Jvm.MethodName) object_method_1_code (1 : Nat) (Option.none : Option Jvm.ClassFile.FieldType)).before args0 about1 = true := code_word (m := ⟨0, 0⟩) (meth := k0m0) (c := k0c0) (by decide +kernel) rfl rfl rfl (by decide +kernel)
set_option maxRecDepth 65536 in
theorem w_c3 : (Jvm.Cond.code ({ cls := "com/example/mokrok/mokrok/ValidationSummary", name := "quarantinedAny", desc := "()Z" } : Jvm.MethodName) prog_39_method_4_code (1 : Nat) (Option.some Jvm.ClassFile.FieldType.boolean)).before args0 about1 = true := code_word (m := ⟨2, 3⟩) (meth := k2m3) (c := k2c3) (by decide +kernel) rfl rfl rfl (by decide +kernel)
set_option maxRecDepth 65536 in
theorem w_c4 : (Jvm.Cond.code ({ cls := "com/example/mokrok/mokrok/ValidationSummary", name := "quarantined", desc := "()V" } : Jvm.MethodName) prog_39_method_3_code (1 : Nat) (Option.none : Option Jvm.ClassFile.FieldType)).before args0 about1 = true := code_word (m := ⟨2, 2⟩) (meth := k2m2) (c := k2c2) (by decide +kernel) rfl rfl rfl (by decide +kernel)
set_option maxRecDepth 65536 in
theorem w_c5 : (Jvm.Cond.code ({ cls := "com/example/mokrok/mokrok/ValidationSummary", name := "published", desc := "(I)V" } : Jvm.MethodName) prog_39_method_2_code (2 : Nat) (Option.none : Option Jvm.ClassFile.FieldType)).before args0 about1 = true := code_word (m := ⟨2, 1⟩) (meth := k2m1) (c := k2c1) (by decide +kernel) rfl rfl rfl (by decide +kernel)
def codes1 : List Jvm.Cond := [Jvm.Cond.code x code maxLocals ret, Jvm.Cond.code ({ cls := "com/example/mokrok/mokrok/ValidationSummary", name := "<init>", desc := "()V" } : Jvm.MethodName) prog_39_method_1_code (1 : Nat) (Option.none : Option Jvm.ClassFile.FieldType), Jvm.Cond.code ({ cls := "java/lang/Object", name := "<init>", desc := "()V" } : Jvm.MethodName) object_method_1_code (1 : Nat) (Option.none : Option Jvm.ClassFile.FieldType), Jvm.Cond.code ({ cls := "com/example/mokrok/mokrok/ValidationSummary", name := "quarantinedAny", desc := "()Z" } : Jvm.MethodName) prog_39_method_4_code (1 : Nat) (Option.some Jvm.ClassFile.FieldType.boolean), Jvm.Cond.code ({ cls := "com/example/mokrok/mokrok/ValidationSummary", name := "quarantined", desc := "()V" } : Jvm.MethodName) prog_39_method_3_code (1 : Nat) (Option.none : Option Jvm.ClassFile.FieldType), Jvm.Cond.code ({ cls := "com/example/mokrok/mokrok/ValidationSummary", name := "published", desc := "(I)V" } : Jvm.MethodName) prog_39_method_2_code (2 : Nat) (Option.none : Option Jvm.ClassFile.FieldType)]
set_option maxRecDepth 65536 in
theorem codes_eq : words1.filter isCode = codes1 := rfl
theorem w_codes : ∀ c ∈ words1.filter isCode, c.before args0 about1 = true := by
  rw [codes_eq]
  intro c hc
  simp only [codes1, List.mem_cons, List.not_mem_nil, or_false] at hc
  rcases hc with rfl | rfl | rfl | rfl | rfl | rfl
  · exact w_c0
  · exact w_c1
  · exact w_c2
  · exact w_c3
  · exact w_c4
  · exact w_c5
set_option maxRecDepth 65536 in
theorem w_t1 : (words1.take 24).all (fun c => isCode c || c.before args0 about1) = true := by decide +kernel
set_option maxRecDepth 65536 in
theorem w_t2 : (words1.drop 24).all (fun c => isCode c || c.before args0 about1) = true := by decide +kernel
theorem w_tables : (allAtoms (Jvm.Cond.code x code maxLocals ret :: tables_1)).before args0 about1 = true := by
  rw [allAtoms_all]
  show words1.all (fun c => c.before args0 about1) = true
  refine all_split ?_ w_codes
  rw [← List.take_append_drop 24 words1, List.all_append, w_t1, w_t2]
  rfl
set_option maxRecDepth 65536 in
theorem w_case : (Jvm.Cond.and given_1 narrow_1).before args0 about1 = true := by decide +kernel
theorem w_applies : (headSpec (Jvm.Cond.code x code maxLocals ret :: tables_1) room_1).applies x e0.platform about1 = true :=
  (Spec.applies_iff w_frames).mpr ⟨w_running, w_runnable, w_alone, w_named, w_hears, w_ripe, w_room, w_tables⟩
theorem atStart : AtStart classFile x code maxLocals ret World_1 tables_1 room_1 Calls_1 rest_1 Pre_1 launch0 p0 e0 about1 theMethod args0 below0 :=
  ⟨lists_1, trivial, launch0.admits_env _ _ _, launch0.least_env, fairChoices_fair.cas, fairChoices_fair.clock, w_frames, w_args, w_heap, w_applies, trivial, trivial, w_case⟩
end start1
theorem witness_1 : WitnessClaimed_1 := ⟨start1.p0, start1.e0, start1.about1, start1.theMethod, start1.args0, start1.below0, start1.atStart⟩
end Jvm.Pilot.@@N@@
