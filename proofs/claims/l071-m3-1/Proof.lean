import JvmDerived
import JvmDerived.Pilot.@@N@@Statement
import JvmDerived.Pilot.@@N@@Code
set_option linter.unusedVariables false
set_option linter.unusedSimpArgs false
@@BLOCK:NumsL.lean.txt@@
namespace Jvm.Pilot.@@N@@
open Jvm Jvm.ClassFile Sem Op Lib Jvm.Free Jvm.Stand Jvm.LawKit Jvm.RoadKit Bundle Jvm.Pilot.@@N@@.Jvm.D
/-! OwnGo: from here the run ends, returning as Q says -/
def OwnGo (p : Program) (e : Env) (below : List Frame) (s : State) (C S : Nat) (Q : Option Value → Heap → List Loc → Prop) (T : State) (g : JFrame) : Prop :=
  ∃ s₂ o, Steps p.tables e below (T.setTop g) s₂ ∧ s₂.status = .running ∧ Ended s₂ below o ∧ ∃ v L, o = .returned v ∧ Q v s₂.heap L ∧ FrameEnd s o s₂ L C S
section OwnBase
variable {p : Program} {l : Launch} {e : Env} {R : Room} {s : State} {m : MethodId} {args : Array Value} {below : List Frame} {meth : Method} {c : Code} {T T' : State} {locs : List Loc} {cells slots C S : Nat} {Q : Option Value → Heap → List Loc → Prop} {g g' : JFrame}
theorem own_st (k : ∀ t, Steps p.tables e below (T'.setTop g') t → Steps p.tables e below (T.setTop g) t) (h : OwnGo p e below s C S Q T' g') : OwnGo p e below s C S Q T g := by
  obtain ⟨s₂, o, h1, h2⟩ := h
  exact ⟨s₂, o, k _ h1, h2⟩
theorem own_tr (k : Steps p.tables e below (T.setTop g) (T'.setTop g')) (h : OwnGo p e below s C S Q T' g') : OwnGo p e below s C S Q T g := by
  obtain ⟨s₂, o, h1, h2⟩ := h
  exact ⟨s₂, o, k.trans h1, h2⟩
theorem own_cast (q : g = g') (h : OwnGo p e below s C S Q T g') : OwnGo p e below s C S Q T g := q ▸ h
theorem own_ret {v : Option Value} (X : Stand p l e R s m args below meth c T locs cells slots) (hlk : meth.locks = false) (hv : meth.sig.returnType = none → v = none)
    (step : ∀ fs, (∀ (f : JFrame) (acts : List Action), f.method = m → f.locked = none → f.entered = [] → (doReturn e (T.setTop f) acts v).1 = T.setFrames fs) → Steps p.tables e below (T.setTop g) (T.setFrames fs))
    (hQ : Q v T.heap locs) (hc : cells ≤ C) (hs : slots ≤ S) : OwnGo p e below s C S Q T g := by
  obtain ⟨fs, hr, hrun, hended, hW, hsame⟩ := X.leave (v := v) hv hlk
  exact ⟨_, _, step fs hr, hrun, hended, v, locs, rfl, hQ, ⟨_, rfl⟩, hW, hsame.mono hc hs⟩
end OwnBase

def own_can (t : Int64) : Int32 := if t < 4294967295 then 1 else 0
theorem own_l1 : (1 : Int64).toInt = 1 := rfl
theorem own_lM : (4294967295 : Int64).toInt = 4294967295 := rfl
theorem own_l7 : (7 : Int64).toInt = 7 := rfl
theorem own_owner (q1 : Int64) : ¬ ((1 : Int64) + ((q1 &&& (9223372036854775807 : Int64)) - ((q1 &&& (9223372036854775807 : Int64)) / (4294967295 : Int64)) * (4294967295 : Int64))) < (1 : Int64) ∧ ¬ (4294967295 : Int64) < ((1 : Int64) + ((q1 &&& (9223372036854775807 : Int64)) - ((q1 &&& (9223372036854775807 : Int64)) / (4294967295 : Int64)) * (4294967295 : Int64))) := by
  have e1 : (q1 &&& 9223372036854775807).toInt = q1.toInt % 2 ^ 63 := Jvm.Kit.i64_mask q1 9223372036854775807 (k := 63) (by decide) (by decide)
  generalize hx : (q1 &&& (9223372036854775807 : Int64)) = x at *
  have e2 : (x - (x / 4294967295) * 4294967295).toInt = x.toInt % (4294967295 : Int64).toInt := Jvm.Kit.i64_rem_nonneg (by omega)
  rw [own_lM] at e2
  generalize hy : (x - (x / (4294967295 : Int64)) * (4294967295 : Int64)) = y at *
  have e3 : ((1 : Int64) + y).toInt = 1 + y.toInt := by rw [Jvm.Kit.i64_add (by rw [own_l1]; omega) (by rw [own_l1]; omega), own_l1]
  rw [Int64.lt_iff_toInt_lt, Int64.lt_iff_toInt_lt, e3, own_l1, own_lM]
  omega
theorem own_t1 (q2 : Int64) : ¬ ((4294967295 : Int64) - (q2 &&& (7 : Int64))) < (0 : Int64) ∧ ¬ (4294967295 : Int64) < ((4294967295 : Int64) - (q2 &&& (7 : Int64))) := by
  have e1 : (q2 &&& 7).toInt = q2.toInt % 2 ^ 3 := Jvm.Kit.i64_mask q2 7 (k := 3) (by decide) (by decide)
  have e2 : ((4294967295 : Int64) - (q2 &&& (7 : Int64))).toInt = 4294967295 - (q2 &&& (7 : Int64)).toInt := by rw [Jvm.Kit.i64_sub (by rw [own_lM]; omega) (by rw [own_lM]; omega), own_lM]
  rw [Int64.lt_iff_toInt_lt, Int64.lt_iff_toInt_lt, e2, own_lM, Int64.toInt_zero]
  omega
theorem own_t2 (q2 : Int64) : ¬ (q2 &&& (4294967295 : Int64)) < (0 : Int64) ∧ ¬ (4294967295 : Int64) < (q2 &&& (4294967295 : Int64)) := by
  have e1 : (q2 &&& 4294967295).toInt = q2.toInt % 2 ^ 32 := Jvm.Kit.i64_mask q2 4294967295 (k := 32) (by decide) (by decide)
  rw [Int64.lt_iff_toInt_lt, Int64.lt_iff_toInt_lt, e1, own_lM, Int64.toInt_zero]
  omega
theorem own_more {t : Int64} (h1 : ¬ t < (0 : Int64)) (h2 : ¬ (4294967295 : Int64) < t) : (t + 1).toInt = t.toInt + 1 := by
  rw [Int64.lt_iff_toInt_lt, Int64.toInt_zero] at h1
  rw [Int64.lt_iff_toInt_lt, own_lM] at h2
  rw [Jvm.Kit.i64_add (by rw [own_l1]; omega) (by rw [own_l1]; omega), own_l1]
theorem own_c1 {t : Int64} (h1 : ¬ t < (0 : Int64)) (h2 : ¬ (4294967295 : Int64) < t) (h : ¬ (4294967295 : Int64) < t + 1) : own_can t = 1 := by
  have e := own_more h1 h2
  rw [Int64.lt_iff_toInt_lt, e, own_lM] at h
  have q : t < 4294967295 := by rw [Int64.lt_iff_toInt_lt, own_lM]; omega
  rw [own_can, if_pos q]
theorem own_c0 {t : Int64} (h1 : ¬ t < (0 : Int64)) (h2 : ¬ (4294967295 : Int64) < t) (h : (4294967295 : Int64) < t + 1) : own_can t = 0 := by
  have e := own_more h1 h2
  rw [Int64.lt_iff_toInt_lt, e, own_lM] at h
  have q : ¬ t < 4294967295 := by rw [Int64.lt_iff_toInt_lt, own_lM]; omega
  rw [own_can, if_neg q]
theorem pn_0 : plainName "com/example/cachemesh/cachemesh/core/CustodyCanPassPinLaw" = true := by first | (simp [plainName, overriddenIn]; done) | decide +kernel
def Ctx0 (p : Program) (s : State) (m : MethodId) (meth : Method) (c : Code) (Z : State) (a0 : Array Value) : Prop := p.tables.exec = Jvm.exec ∧ Z.Warmed39 s.vm ∧ (∀ d ∈ tables_1, d.before a0 Z = true) ∧ c.code = code ∧ c.maxLocals = 11 ∧ s.vm.findClass "com/example/cachemesh/cachemesh/core/CustodyCanPassPinLaw" = some m.cls ∧ meth.sig.returnType = ret ∧ meth.locks = false ∧ meth.name = "law"
theorem d1_0 : decode prog_39_method_1_code 0 = .ok (.aload_n 0, 1) := by decide +kernel
theorem d1_1 : decode prog_39_method_1_code 1 = .ok (.invokespecial 1, 3) := by decide +kernel
theorem d1_4 : decode prog_39_method_1_code 4 = .ok (.lload_n 1, 1) := by decide +kernel
theorem d1_5 : decode prog_39_method_1_code 5 = .ok (.invokestatic 7, 3) := by decide +kernel
theorem d1_8 : decode prog_39_method_1_code 8 = .ok (.pop2, 1) := by decide +kernel
theorem d1_9 : decode prog_39_method_1_code 9 = .ok (.lload_n 3, 1) := by decide +kernel
theorem d1_10 : decode prog_39_method_1_code 10 = .ok (.lconst 0, 1) := by decide +kernel
theorem d1_11 : decode prog_39_method_1_code 11 = .ok (.lcmp, 1) := by decide +kernel
theorem d1_12 : decode prog_39_method_1_code 12 = .ok (.ifCond .lt 11, 3) := by decide +kernel
theorem d1_15 : decode prog_39_method_1_code 15 = .ok (.lload_n 3, 1) := by decide +kernel
theorem d1_16 : decode prog_39_method_1_code 16 = .ok (.ldc2_w 15, 3) := by decide +kernel
theorem d1_19 : decode prog_39_method_1_code 19 = .ok (.lcmp, 1) := by decide +kernel
theorem d1_20 : decode prog_39_method_1_code 20 = .ok (.ifCond .le 13, 3) := by decide +kernel
theorem d1_23 : decode prog_39_method_1_code 23 = .ok (.new 17, 3) := by decide +kernel
theorem d1_26 : decode prog_39_method_1_code 26 = .ok (.dup, 1) := by decide +kernel
theorem d1_27 : decode prog_39_method_1_code 27 = .ok (.ldc 19, 2) := by decide +kernel
theorem d1_29 : decode prog_39_method_1_code 29 = .ok (.invokespecial 21, 3) := by decide +kernel
theorem d1_32 : decode prog_39_method_1_code 32 = .ok (.athrow, 1) := by decide +kernel
theorem d1_33 : decode prog_39_method_1_code 33 = .ok (.aload_n 0, 1) := by decide +kernel
theorem d1_34 : decode prog_39_method_1_code 34 = .ok (.lload_n 1, 1) := by decide +kernel
theorem d1_35 : decode prog_39_method_1_code 35 = .ok (.putfield 24, 3) := by decide +kernel
theorem d1_38 : decode prog_39_method_1_code 38 = .ok (.aload_n 0, 1) := by decide +kernel
theorem d1_39 : decode prog_39_method_1_code 39 = .ok (.lload_n 3, 1) := by decide +kernel
theorem d1_40 : decode prog_39_method_1_code 40 = .ok (.putfield 28, 3) := by decide +kernel
theorem d1_43 : decode prog_39_method_1_code 43 = .ok (.return_, 1) := by decide +kernel
theorem pn_1 : plainName "com/example/cachemesh/cachemesh/core/Custody" = true := by first | (simp [plainName, overriddenIn]; done) | decide +kernel
def Ctx1 (p : Program) (s : State) (m : MethodId) (meth : Method) (c : Code) (Z : State) (a0 : Array Value) : Prop := p.tables.exec = Jvm.exec ∧ Z.Warmed39 s.vm ∧ (∀ d ∈ tables_1, d.before a0 Z = true) ∧ c.code = prog_39_method_1_code ∧ c.maxLocals = 5 ∧ s.vm.findClass "com/example/cachemesh/cachemesh/core/Custody" = some m.cls ∧ meth.sig.returnType = none ∧ meth.locks = false ∧ meth.name = "<init>"
theorem d2_0 : decode jdk_30_method_1_code 0 = .ok (.aload_n 0, 1) := by decide +kernel
theorem d2_1 : decode jdk_30_method_1_code 1 = .ok (.invokespecial 1, 3) := by decide +kernel
theorem d2_4 : decode jdk_30_method_1_code 4 = .ok (.return_, 1) := by decide +kernel
theorem pn_2 : plainName "java/lang/Record" = true := by first | (simp [plainName, overriddenIn]; done) | decide +kernel
def Ctx2 (p : Program) (s : State) (m : MethodId) (meth : Method) (c : Code) (Z : State) (a0 : Array Value) : Prop := p.tables.exec = Jvm.exec ∧ Z.Warmed39 s.vm ∧ (∀ d ∈ tables_1, d.before a0 Z = true) ∧ c.code = jdk_30_method_1_code ∧ c.maxLocals = 1 ∧ s.vm.findClass "java/lang/Record" = some m.cls ∧ meth.sig.returnType = none ∧ meth.locks = false ∧ meth.name = "<init>"
theorem d4_0 : decode prog_47_method_6_code 0 = .ok (.lload_n 0, 1) := by decide +kernel
theorem d4_1 : decode prog_47_method_6_code 1 = .ok (.lconst 1, 1) := by decide +kernel
theorem d4_2 : decode prog_47_method_6_code 2 = .ok (.lcmp, 1) := by decide +kernel
theorem d4_3 : decode prog_47_method_6_code 3 = .ok (.ifCond .lt 11, 3) := by decide +kernel
theorem d4_6 : decode prog_47_method_6_code 6 = .ok (.lload_n 0, 1) := by decide +kernel
theorem d4_7 : decode prog_47_method_6_code 7 = .ok (.ldc2_w 42, 3) := by decide +kernel
theorem d4_10 : decode prog_47_method_6_code 10 = .ok (.lcmp, 1) := by decide +kernel
theorem d4_11 : decode prog_47_method_6_code 11 = .ok (.ifCond .le 13, 3) := by decide +kernel
theorem d4_14 : decode prog_47_method_6_code 14 = .ok (.new 23, 3) := by decide +kernel
theorem d4_17 : decode prog_47_method_6_code 17 = .ok (.dup, 1) := by decide +kernel
theorem d4_18 : decode prog_47_method_6_code 18 = .ok (.ldc 44, 2) := by decide +kernel
theorem d4_20 : decode prog_47_method_6_code 20 = .ok (.invokespecial 27, 3) := by decide +kernel
theorem d4_23 : decode prog_47_method_6_code 23 = .ok (.athrow, 1) := by decide +kernel
theorem d4_24 : decode prog_47_method_6_code 24 = .ok (.lload_n 0, 1) := by decide +kernel
theorem d4_25 : decode prog_47_method_6_code 25 = .ok (.lreturn, 1) := by decide +kernel
theorem pn_4 : plainName "com/example/cachemesh/cachemesh/core/Limits" = true := by first | (simp [plainName, overriddenIn]; done) | decide +kernel
def Ctx4 (p : Program) (s : State) (m : MethodId) (meth : Method) (c : Code) (Z : State) (a0 : Array Value) : Prop := p.tables.exec = Jvm.exec ∧ Z.Warmed39 s.vm ∧ (∀ d ∈ tables_1, d.before a0 Z = true) ∧ c.code = prog_47_method_6_code ∧ c.maxLocals = 2 ∧ s.vm.findClass "com/example/cachemesh/cachemesh/core/Limits" = some m.cls ∧ meth.sig.returnType = (some .long) ∧ meth.locks = false ∧ meth.name = "serverId"
theorem d5_0 : decode prog_39_method_4_code 0 = .ok (.aload_n 0, 1) := by decide +kernel
theorem d5_1 : decode prog_39_method_4_code 1 = .ok (.getfield 28, 3) := by decide +kernel
theorem d5_4 : decode prog_39_method_4_code 4 = .ok (.ldc2_w 15, 3) := by decide +kernel
theorem d5_7 : decode prog_39_method_4_code 7 = .ok (.lcmp, 1) := by decide +kernel
theorem d5_8 : decode prog_39_method_4_code 8 = .ok (.ifCond .ge 7, 3) := by decide +kernel
theorem d5_11 : decode prog_39_method_4_code 11 = .ok (.iconst 1, 1) := by decide +kernel
theorem d5_12 : decode prog_39_method_4_code 12 = .ok (.goto 4, 3) := by decide +kernel
theorem d5_15 : decode prog_39_method_4_code 15 = .ok (.iconst 0, 1) := by decide +kernel
theorem d5_16 : decode prog_39_method_4_code 16 = .ok (.ireturn, 1) := by decide +kernel
theorem pn_5 : plainName "com/example/cachemesh/cachemesh/core/Custody" = true := by first | (simp [plainName, overriddenIn]; done) | decide +kernel
def Ctx5 (p : Program) (s : State) (m : MethodId) (meth : Method) (c : Code) (Z : State) (a0 : Array Value) : Prop := p.tables.exec = Jvm.exec ∧ Z.Warmed39 s.vm ∧ (∀ d ∈ tables_1, d.before a0 Z = true) ∧ c.code = prog_39_method_4_code ∧ c.maxLocals = 1 ∧ s.vm.findClass "com/example/cachemesh/cachemesh/core/Custody" = some m.cls ∧ meth.sig.returnType = (some .boolean) ∧ meth.locks = false ∧ meth.name = "canPass"
theorem own_pd0 : parseMethodDescriptor "()V" = some ⟨[], none⟩ := by decide +kernel
theorem own_pd1 : parseMethodDescriptor "(J)J" = some ⟨[.long], some .long⟩ := by decide +kernel
theorem own_pd2 : parseMethodDescriptor "(JJ)V" = some ⟨[.long, .long], none⟩ := by decide +kernel
theorem own_pd3 : parseMethodDescriptor "()Z" = some ⟨[], some .boolean⟩ := by decide +kernel
def Q2 (Z : State) (a : Addr) (h0 : Heap) (n0 : Nat) (v : Option Value) (h : Heap) (L : List Loc) : Prop := v = none ∧ Fr n0 L ∧ h = h0
theorem own_ef_rm2 (m : MethodId) (x0 : Addr) : entryFrame m #[(.ref x0)] 1 = mkF m 0 #[.val (.ref x0)] [] := by first | (simp [entryFrame, mkF, argsToLocals, Value.category]; done) | rfl
set_option maxRecDepth 65536 in
set_option maxHeartbeats 40000000 in
theorem rm2 (l : Launch) (Z : State) (a0 : Array Value) (hw : ∀ d ∈ tables_1, d.before a0 Z = true) (ws : List Jvm.Cond) (a : Addr) (h0 : Heap) (n0 : Nat) (Z0 : n0 ≤ h0.size) :
    MetFree l (⟨"java/lang/Record", "<init>", "()V"⟩ : MethodName) (head1 (Jvm.Cond.code (⟨"java/lang/Record", "<init>", "()V"⟩ : MethodName) jdk_30_method_1_code 1 none :: ws) ({ frames := 1, cells := 0, slots := 0, locals := 12 } : Room)) (fun aQ UQ => aQ = #[(.ref a)] ∧ Z.Warmed39 UQ.vm ∧ UQ.heap = h0) (fun _ _ _ _ _ => True) (fun _ UQ oQ UR => ∃ vQ LQ, oQ = .returned vQ ∧ Q2 Z a h0 n0 vQ UR.heap LQ ∧ FrameEnd UQ oQ UR LQ ({ frames := 1, cells := 0, slots := 0, locals := 12 } : Room).cells ({ frames := 1, cells := 0, slots := 0, locals := 12 } : Room).slots) := by
  refine MetFree.of_bodySF (plainFor_of_name pn_2) hisR ?_
  intro p e s m args below meth c s₁ Bd hml0 hP hK
  obtain ⟨rfl, hZ, hh⟩ := hP
  have hx := Bd.exec
  have hby := Bd.bytes
  have hml : c.maxLocals = 1 := hml0
  have hown : s.vm.findClass "java/lang/Record" = some m.cls := findClass_of_methodNamed Bd.named
  have hnm := (name_of_methodNamed Bd.named Bd.method).1
  have hret := Bd.returns
  have hlk : meth.locks = false := Bd.notSynchronized
  have X0 : Stand p l e ({ frames := 1, cells := 0, slots := 0, locals := 12 } : Room) s m #[(.ref a)] below meth c s₁ [] 0 0 := Stand.of_body Bd
  have e0 : s₁.heap = h0 := by rw [← hh, Bd.state]; rfl
  have N0 := Fr.nil n0
  have K : Ctx2 p s m meth c Z a0 := ⟨hx, hZ, hw, hby, hml, hown, hret, hlk, hnm⟩
  show OwnGo p e below s ({ frames := 1, cells := 0, slots := 0, locals := 12 } : Room).cells ({ frames := 1, cells := 0, slots := 0, locals := 12 } : Room).slots (Q2 Z a h0 n0) s₁ (entryFrame m #[(.ref a)] 1)
  refine own_cast (own_ef_rm2 m a) ?_
  show OwnGo p e below s _ _ _ s₁ (mkF m 0 #[.val (.ref a)] [])
  refine own_st (T' := s₁) (g' := (mkF m 1 #[.val (.ref a)] [(.ref a)])) (fun uT uK => ?_) ?_
  · show Steps p.tables e below (s₁.setTop (mkF m 0 #[.val (.ref a)] [])) _
    refine XS.aloadN X0.here hx rfl (hb hby d2_0) rfl rfl ?_
    exact uK
  obtain ⟨T1, X1, e1, st1⟩ := initO X0 hx hZ hown (hw _ (List.mem_of_getElem? (i := 13) rfl)) (hw _ (List.mem_of_getElem? (i := 14) rfl)) (hw _ (List.mem_of_getElem? (i := 15) rfl)) e0 (g := (mkF m 1 #[.val (.ref a)] [(.ref a)])) rfl (by rw [hml]; rfl) rfl (hb hby d2_1) (by decide) (W := 0) (by show 2 * 0 + _ ≤ _; exact Nat.le_of_eq rfl) (by decide)
  refine own_st st1 ?_
  show OwnGo p e below s _ _ _ T1 (mkF m 4 #[.val (.ref a)] [])
  exact own_ret (v := none) X1 hlk (fun _ => rfl) (fun fs hr => X1.returnOut hx hret (hb hby d2_4) hr) (by rw [e1]; exact ⟨rfl, N0, rfl⟩) (by decide) (by decide)
def Q4 (Z : State) (q : Int64) (h0 : Heap) (n0 : Nat) (v : Option Value) (h : Heap) (L : List Loc) : Prop := v = some (.long q) ∧ Fr n0 L ∧ h = h0
theorem own_ef_rm4 (m : MethodId) (x0 : Int64) : entryFrame m #[(.long x0)] 2 = mkF m 0 #[.val (.long x0), .second] [] := by first | (simp [entryFrame, mkF, argsToLocals, Value.category]; done) | rfl
set_option maxRecDepth 65536 in
set_option maxHeartbeats 40000000 in
theorem rm4 (l : Launch) (Z : State) (a0 : Array Value) (hw : ∀ d ∈ tables_1, d.before a0 Z = true) (ws : List Jvm.Cond) (q : Int64) (h0 : Heap) (n0 : Nat) (Z0 : n0 ≤ h0.size) (h1 : ¬ q < (1 : Int64)) (h2 : ¬ (4294967295 : Int64) < q) :
    MetFree l (⟨"com/example/cachemesh/cachemesh/core/Limits", "serverId", "(J)J"⟩ : MethodName) (head1 (Jvm.Cond.code (⟨"com/example/cachemesh/cachemesh/core/Limits", "serverId", "(J)J"⟩ : MethodName) prog_47_method_6_code 2 (some .long) :: ws) ({ frames := 0, cells := 0, slots := 0, locals := 0 } : Room)) (fun aQ UQ => aQ = #[(.long q)] ∧ Z.Warmed39 UQ.vm ∧ UQ.heap = h0) (fun _ _ _ _ _ => True) (fun _ UQ oQ UR => ∃ vQ LQ, oQ = .returned vQ ∧ Q4 Z q h0 n0 vQ UR.heap LQ ∧ FrameEnd UQ oQ UR LQ ({ frames := 0, cells := 0, slots := 0, locals := 0 } : Room).cells ({ frames := 0, cells := 0, slots := 0, locals := 0 } : Room).slots) := by
  refine MetFree.of_bodySF (plainFor_of_name pn_4) hisR ?_
  intro p e s m args below meth c s₁ Bd hml0 hP hK
  obtain ⟨rfl, hZ, hh⟩ := hP
  have hx := Bd.exec
  have hby := Bd.bytes
  have hml : c.maxLocals = 2 := hml0
  have hown : s.vm.findClass "com/example/cachemesh/cachemesh/core/Limits" = some m.cls := findClass_of_methodNamed Bd.named
  have hnm := (name_of_methodNamed Bd.named Bd.method).1
  have hret := Bd.returns
  have hlk : meth.locks = false := Bd.notSynchronized
  have X0 : Stand p l e ({ frames := 0, cells := 0, slots := 0, locals := 0 } : Room) s m #[(.long q)] below meth c s₁ [] 0 0 := Stand.of_body Bd
  have e0 : s₁.heap = h0 := by rw [← hh, Bd.state]; rfl
  have N0 := Fr.nil n0
  have K : Ctx4 p s m meth c Z a0 := ⟨hx, hZ, hw, hby, hml, hown, hret, hlk, hnm⟩
  show OwnGo p e below s ({ frames := 0, cells := 0, slots := 0, locals := 0 } : Room).cells ({ frames := 0, cells := 0, slots := 0, locals := 0 } : Room).slots (Q4 Z q h0 n0) s₁ (entryFrame m #[(.long q)] 2)
  refine own_cast (own_ef_rm4 m q) ?_
  show OwnGo p e below s _ _ _ s₁ (mkF m 0 #[.val (.long q), .second] [])
  refine own_st (T' := s₁) (g' := (mkF m 25 #[.val (.long q), .second] [(.long q)])) (fun uT uK => ?_) ?_
  · show Steps p.tables e below (s₁.setTop (mkF m 0 #[.val (.long q), .second] [])) _
    refine XT.lloadN X0.here hx rfl (hb hby d4_0) rfl ?_
    show Steps p.tables e below (s₁.setTop (mkF m 1 #[.val (.long q), .second] [(.long q)])) _
    refine XT.lconst X0.here hx rfl (hb hby d4_1) ?_
    show Steps p.tables e below (s₁.setTop (mkF m 2 #[.val (.long q), .second] [(.long (1 : Int64)), (.long q)])) _
    refine XT.lcmp X0.here hx rfl (hb hby d4_2) rfl ?_
    show Steps p.tables e below (s₁.setTop (mkF m 3 #[.val (.long q), .second] [(.int (XT.cmpL q (1 : Int64)))])) _
    refine XS.ifNo X0.here hx rfl (hb hby d4_3) rfl (XT.ll_lt_f h1) ?_
    show Steps p.tables e below (s₁.setTop (mkF m 6 #[.val (.long q), .second] [])) _
    refine XT.lloadN X0.here hx rfl (hb hby d4_6) rfl ?_
    show Steps p.tables e below (s₁.setTop (mkF m 7 #[.val (.long q), .second] [(.long q)])) _
    refine X0.ldc2Long hx hown (mvT hZ (hw _ (List.mem_of_getElem? (i := 20) rfl))) (g := (mkF m 7 #[.val (.long q), .second] [(.long q)])) rfl (hb hby d4_7) _ ?_
    show Steps p.tables e below (s₁.setTop (mkF m 10 #[.val (.long q), .second] [(.long (4294967295 : Int64)), (.long q)])) _
    refine XT.lcmp X0.here hx rfl (hb hby d4_10) rfl ?_
    show Steps p.tables e below (s₁.setTop (mkF m 11 #[.val (.long q), .second] [(.int (XT.cmpL q (4294967295 : Int64)))])) _
    refine XS.ifYes X0.here hx rfl (pc0 := 11) (pc' := 24) rfl (hb hby d4_11) rfl (XT.ll_le_t h2) (by decide) (by decide) ?_
    show Steps p.tables e below (s₁.setTop (mkF m 24 #[.val (.long q), .second] [])) _
    refine XT.lloadN X0.here hx rfl (hb hby d4_24) rfl ?_
    exact uK
  exact own_ret (v := some (.long q)) X0 hlk (fun h => by rw [hret] at h; cases h) (fun fs hr => retOut X0 hx hret rfl (Or.inr (Or.inl ⟨rfl, rfl, _, rfl⟩)) (hb hby d4_25) hr) (by rw [e0]; exact ⟨rfl, N0, rfl⟩) (by decide) (by decide)
def Q5 (Z : State) (a : Addr) (t : Int64) (h0 : Heap) (n0 : Nat) (v : Option Value) (h : Heap) (L : List Loc) : Prop := v = some (.int (own_can t)) ∧ Fr n0 L ∧ h = h0
theorem own_ef_rm5 (m : MethodId) (x0 : Addr) : entryFrame m #[(.ref x0)] 1 = mkF m 0 #[.val (.ref x0)] [] := by first | (simp [entryFrame, mkF, argsToLocals, Value.category]; done) | rfl
set_option maxRecDepth 65536 in
set_option maxHeartbeats 40000000 in
theorem rm5 (l : Launch) (Z : State) (a0 : Array Value) (hw : ∀ d ∈ tables_1, d.before a0 Z = true) (ws : List Jvm.Cond) (a : Addr) (t : Int64) (h0 : Heap) (n0 : Nat) (Z0 : n0 ≤ h0.size) (F_t : Fld Z h0 a "com/example/cachemesh/cachemesh/core/Custody" "takeovers" "J" (.long t)) :
    MetFree l (⟨"com/example/cachemesh/cachemesh/core/Custody", "canPass", "()Z"⟩ : MethodName) (head1 (Jvm.Cond.code (⟨"com/example/cachemesh/cachemesh/core/Custody", "canPass", "()Z"⟩ : MethodName) prog_39_method_4_code 1 (some .boolean) :: ws) ({ frames := 0, cells := 0, slots := 0, locals := 0 } : Room)) (fun aQ UQ => aQ = #[(.ref a)] ∧ Z.Warmed39 UQ.vm ∧ UQ.heap = h0) (fun _ _ _ _ _ => True) (fun _ UQ oQ UR => ∃ vQ LQ, oQ = .returned vQ ∧ Q5 Z a t h0 n0 vQ UR.heap LQ ∧ FrameEnd UQ oQ UR LQ ({ frames := 0, cells := 0, slots := 0, locals := 0 } : Room).cells ({ frames := 0, cells := 0, slots := 0, locals := 0 } : Room).slots) := by
  refine MetFree.of_bodySF (plainFor_of_name pn_5) hisR ?_
  intro p e s m args below meth c s₁ Bd hml0 hP hK
  obtain ⟨rfl, hZ, hh⟩ := hP
  have hx := Bd.exec
  have hby := Bd.bytes
  have hml : c.maxLocals = 1 := hml0
  have hown : s.vm.findClass "com/example/cachemesh/cachemesh/core/Custody" = some m.cls := findClass_of_methodNamed Bd.named
  have hnm := (name_of_methodNamed Bd.named Bd.method).1
  have hret := Bd.returns
  have hlk : meth.locks = false := Bd.notSynchronized
  have X0 : Stand p l e ({ frames := 0, cells := 0, slots := 0, locals := 0 } : Room) s m #[(.ref a)] below meth c s₁ [] 0 0 := Stand.of_body Bd
  have e0 : s₁.heap = h0 := by rw [← hh, Bd.state]; rfl
  have N0 := Fr.nil n0
  have K : Ctx5 p s m meth c Z a0 := ⟨hx, hZ, hw, hby, hml, hown, hret, hlk, hnm⟩
  show OwnGo p e below s ({ frames := 0, cells := 0, slots := 0, locals := 0 } : Room).cells ({ frames := 0, cells := 0, slots := 0, locals := 0 } : Room).slots (Q5 Z a t h0 n0) s₁ (entryFrame m #[(.ref a)] 1)
  refine own_cast (own_ef_rm5 m a) ?_
  show OwnGo p e below s _ _ _ s₁ (mkF m 0 #[.val (.ref a)] [])
  refine own_st (T' := s₁) (g' := (mkF m 1 #[.val (.ref a)] [(.ref a)])) (fun uT uK => ?_) ?_
  · show Steps p.tables e below (s₁.setTop (mkF m 0 #[.val (.ref a)] [])) _
    refine XS.aloadN X0.here hx rfl (hb hby d5_0) rfl rfl ?_
    exact uK
  obtain ⟨T1, X1, e1, st1⟩ := getF X0 hx hZ hown (host := "") (Or.inl (hw _ (List.mem_of_getElem? (i := 24) rfl))) Via.refl e0 F_t (g := (mkF m 1 #[.val (.ref a)] [(.ref a)])) rfl rfl (hb hby d5_1)
  refine own_st st1 ?_
  show OwnGo p e below s _ _ _ T1 (mkF m 4 #[.val (.ref a)] [(.long t)])
  refine own_st (T' := T1) (g' := (mkF m 8 #[.val (.ref a)] [(.int (XT.cmpL t (4294967295 : Int64)))])) (fun uT uK => ?_) ?_
  · show Steps p.tables e below (T1.setTop (mkF m 4 #[.val (.ref a)] [(.long t)])) _
    refine X1.ldc2Long hx hown (mvT hZ (hw _ (List.mem_of_getElem? (i := 21) rfl))) (g := (mkF m 4 #[.val (.ref a)] [(.long t)])) rfl (hb hby d5_4) _ ?_
    show Steps p.tables e below (T1.setTop (mkF m 7 #[.val (.ref a)] [(.long (4294967295 : Int64)), (.long t)])) _
    refine XT.lcmp X1.here hx rfl (hb hby d5_7) rfl ?_
    exact uK
  by_cases hc8 : t < (4294967295 : Int64)
  · refine own_st (T' := T1) (g' := (mkF m 16 #[.val (.ref a)] [(.int (1 : Int32))])) (fun uT uK => ?_) ?_
    · show Steps p.tables e below (T1.setTop (mkF m 8 #[.val (.ref a)] [(.int (XT.cmpL t (4294967295 : Int64)))])) _
      refine XS.ifNo X1.here hx rfl (hb hby d5_8) rfl (XT.ll_ge_f hc8) ?_
      show Steps p.tables e below (T1.setTop (mkF m 11 #[.val (.ref a)] [])) _
      refine XS.iconst X1.here hx rfl (hb hby d5_11) ?_
      show Steps p.tables e below (T1.setTop (mkF m 12 #[.val (.ref a)] [(.int (1 : Int32))])) _
      refine XS.goto X1.here hx rfl (pc0 := 12) (pc' := 16) rfl (hb hby d5_12) (by decide) (by decide) ?_
      exact uK
    exact own_ret (v := some (.int (1 : Int32))) X1 hlk (fun h => by rw [hret] at h; cases h) (fun fs hr => retOut X1 hx hret rfl (Or.inl ⟨rfl, by simp, _, rfl⟩) (hb hby d5_16) hr) (by rw [e1]; exact ⟨by first | rw [own_can, if_pos hc8] | rw [own_can, if_neg hc8], N0, rfl⟩) (by decide) (by decide)
  · refine own_st (T' := T1) (g' := (mkF m 16 #[.val (.ref a)] [(.int (0 : Int32))])) (fun uT uK => ?_) ?_
    · show Steps p.tables e below (T1.setTop (mkF m 8 #[.val (.ref a)] [(.int (XT.cmpL t (4294967295 : Int64)))])) _
      refine XS.ifYes X1.here hx rfl (pc0 := 8) (pc' := 15) rfl (hb hby d5_8) rfl (XT.ll_ge_t hc8) (by decide) (by decide) ?_
      show Steps p.tables e below (T1.setTop (mkF m 15 #[.val (.ref a)] [])) _
      refine XS.iconst X1.here hx rfl (hb hby d5_15) ?_
      exact uK
    exact own_ret (v := some (.int (0 : Int32))) X1 hlk (fun h => by rw [hret] at h; cases h) (fun fs hr => retOut X1 hx hret rfl (Or.inl ⟨rfl, by simp, _, rfl⟩) (hb hby d5_16) hr) (by rw [e1]; exact ⟨by first | rw [own_can, if_pos hc8] | rw [own_can, if_neg hc8], N0, rfl⟩) (by decide) (by decide)
def Q1 (Z : State) (a : Addr) (q1 : Int64) (q2 : Int64) (h0 : Heap) (n0 : Nat) (v : Option Value) (h : Heap) (L : List Loc) : Prop := v = none ∧ Fr n0 L ∧ Keep h0 h [a] ∧ Exa Z h a "com/example/cachemesh/cachemesh/core/Custody" ∧ Fld Z h a "com/example/cachemesh/cachemesh/core/Custody" "owner" "J" (.long q1) ∧ Fld Z h a "com/example/cachemesh/cachemesh/core/Custody" "takeovers" "J" (.long q2)
theorem own_ef_rm1 (m : MethodId) (x0 : Addr) (x1 : Int64) (x2 : Int64) : entryFrame m #[(.ref x0), (.long x1), (.long x2)] 5 = mkF m 0 #[.val (.ref x0), .val (.long x1), .second, .val (.long x2), .second] [] := by first | (simp [entryFrame, mkF, argsToLocals, Value.category]; done) | rfl
set_option maxRecDepth 65536 in
set_option maxHeartbeats 40000000 in
theorem rm1 (l : Launch) (Z : State) (a0 : Array Value) (hw : ∀ d ∈ tables_1, d.before a0 Z = true) (ws : List Jvm.Cond) (a : Addr) (q1 : Int64) (q2 : Int64) (h0 : Heap) (n0 : Nat) (Z0 : n0 ≤ h0.size) (E_a : Exa Z h0 a "com/example/cachemesh/cachemesh/core/Custody") (F_o : Fld Z h0 a "com/example/cachemesh/cachemesh/core/Custody" "owner" "J" (.long (0 : Int64))) (F_t : Fld Z h0 a "com/example/cachemesh/cachemesh/core/Custody" "takeovers" "J" (.long (0 : Int64))) (g_a : n0 ≤ a) (h1 : ¬ q1 < (1 : Int64)) (h2 : ¬ (4294967295 : Int64) < q1) (h3 : ¬ q2 < (0 : Int64)) (h4 : ¬ (4294967295 : Int64) < q2) :
    MetFree l (⟨"com/example/cachemesh/cachemesh/core/Custody", "<init>", "(JJ)V"⟩ : MethodName) (head1 (Jvm.Cond.code (⟨"com/example/cachemesh/cachemesh/core/Custody", "<init>", "(JJ)V"⟩ : MethodName) prog_39_method_1_code 5 none :: ws) ({ frames := 2, cells := 0, slots := 0, locals := 24 } : Room)) (fun aQ UQ => aQ = #[(.ref a), (.long q1), (.long q2)] ∧ Z.Warmed39 UQ.vm ∧ UQ.heap = h0) (fun _ _ _ _ _ => True) (fun _ UQ oQ UR => ∃ vQ LQ, oQ = .returned vQ ∧ Q1 Z a q1 q2 h0 n0 vQ UR.heap LQ ∧ FrameEnd UQ oQ UR LQ ({ frames := 2, cells := 0, slots := 0, locals := 24 } : Room).cells ({ frames := 2, cells := 0, slots := 0, locals := 24 } : Room).slots) := by
  refine MetFree.of_bodySF (plainFor_of_name pn_1) hisR ?_
  intro p e s m args below meth c s₁ Bd hml0 hP hK
  obtain ⟨rfl, hZ, hh⟩ := hP
  have hx := Bd.exec
  have hby := Bd.bytes
  have hml : c.maxLocals = 5 := hml0
  have hown : s.vm.findClass "com/example/cachemesh/cachemesh/core/Custody" = some m.cls := findClass_of_methodNamed Bd.named
  have hnm := (name_of_methodNamed Bd.named Bd.method).1
  have hret := Bd.returns
  have hlk : meth.locks = false := Bd.notSynchronized
  have X0 : Stand p l e ({ frames := 2, cells := 0, slots := 0, locals := 24 } : Room) s m #[(.ref a), (.long q1), (.long q2)] below meth c s₁ [] 0 0 := Stand.of_body Bd
  have e0 : s₁.heap = h0 := by rw [← hh, Bd.state]; rfl
  have N0 := Fr.nil n0
  have K : Ctx1 p s m meth c Z a0 := ⟨hx, hZ, hw, hby, hml, hown, hret, hlk, hnm⟩
  show OwnGo p e below s ({ frames := 2, cells := 0, slots := 0, locals := 24 } : Room).cells ({ frames := 2, cells := 0, slots := 0, locals := 24 } : Room).slots (Q1 Z a q1 q2 h0 n0) s₁ (entryFrame m #[(.ref a), (.long q1), (.long q2)] 5)
  refine own_cast (own_ef_rm1 m a q1 q2) ?_
  show OwnGo p e below s _ _ _ s₁ (mkF m 0 #[.val (.ref a), .val (.long q1), .second, .val (.long q2), .second] [])
  refine own_st (T' := s₁) (g' := (mkF m 1 #[.val (.ref a), .val (.long q1), .second, .val (.long q2), .second] [(.ref a)])) (fun uT uK => ?_) ?_
  · show Steps p.tables e below (s₁.setTop (mkF m 0 #[.val (.ref a), .val (.long q1), .second, .val (.long q2), .second] [])) _
    refine XS.aloadN X0.here hx rfl (hb hby d1_0) rfl rfl ?_
    exact uK
  obtain ⟨_, _, ⟨T1, L1, k1, n1⟩, -, X1, ⟨Lc1, hQ1, l1, y1, z1⟩, st1⟩ := X0.specialBack hx (y := (⟨"java/lang/Record", "<init>", "()V"⟩ : MethodName)) rfl hown (mvT hZ (hw _ (List.mem_of_getElem? (i := 8) rfl))) (mvT hZ (hw _ (List.mem_of_getElem? (i := 9) rfl))) (mvT hZ (hw _ (List.mem_of_getElem? (i := 12) rfl))) (by decide) (backOf (W := 0) (rm2 l Z a0 hw [] a h0 n0 Z0) hZ (hw _ (List.mem_of_getElem? (i := 12) rfl)) (hw _ (List.mem_of_getElem? (i := 11) rfl)) (by decide) (by decide)) (g := (mkF m 1 #[.val (.ref a), .val (.long q1), .second, .val (.long q2), .second] [(.ref a)])) rfl (by rw [hml]; rfl) (Steps.refl _) (a := a) (argsL := []) (rest := []) (lenOf own_pd0 rfl) rfl (by show 2 * 0 + _ ≤ _; exact Nat.le_of_eq rfl) (hb hby d1_1) (fun _ _ => ⟨rfl, e0, (by decide : 0 + 0 ≤ _), (by decide : 0 + 0 ≤ _)⟩)
  dsimp only [Pt.U, Pt.locs, Pt.cells, Pt.slots] at X1 l1 y1 z1 st1 hQ1
  subst l1 y1 z1
  obtain ⟨rfl, Nq1, e1⟩ := hQ1
  have N1 := Fr.app N0 Nq1
  refine own_tr st1 ?_
  show OwnGo p e below s _ _ _ T1 (mkF m 4 #[.val (.ref a), .val (.long q1), .second, .val (.long q2), .second] [])
  refine own_st (T' := T1) (g' := (mkF m 5 #[.val (.ref a), .val (.long q1), .second, .val (.long q2), .second] [(.long q1)])) (fun uT uK => ?_) ?_
  · show Steps p.tables e below (T1.setTop (mkF m 4 #[.val (.ref a), .val (.long q1), .second, .val (.long q2), .second] [])) _
    refine XT.lloadN X1.here hx rfl (hb hby d1_4) rfl ?_
    exact uK
  obtain ⟨_, _, ⟨T2, L2, k2, n2⟩, -, X2, ⟨Lc2, hQ2, l2, y2, z2⟩, st2⟩ := Jvm.LawKit.callS X1 hx (y := (⟨"com/example/cachemesh/cachemesh/core/Limits", "serverId", "(J)J"⟩ : MethodName)) hown (mvT hZ (hw _ (List.mem_of_getElem? (i := 16) rfl))) (mvT hZ (hw _ (List.mem_of_getElem? (i := 17) rfl))) (mvT hZ (hw _ (List.mem_of_getElem? (i := 18) rfl))) (mvT hZ (hw _ (List.mem_of_getElem? (i := 19) rfl))) (by decide) (backOf (W := 0) (rm4 l Z a0 hw [] q1 h0 n0 Z0 h1 h2) hZ (hw _ (List.mem_of_getElem? (i := 19) rfl)) (hw _ (List.mem_of_getElem? (i := 18) rfl)) (by decide) (by decide)) (g := (mkF m 5 #[.val (.ref a), .val (.long q1), .second, .val (.long q2), .second] [(.long q1)])) rfl (by rw [hml]; rfl) (argsL := [(.long q1)]) (rest := []) (lenOf own_pd1 rfl) rfl (by show 2 * 0 + _ ≤ _; exact Nat.le_of_eq rfl) (hb hby d1_5) (fun _ _ => ⟨rfl, e1, (by decide : 0 + 0 ≤ _), (by decide : 0 + 0 ≤ _)⟩)
  dsimp only [Pt.U, Pt.locs, Pt.cells, Pt.slots] at X2 l2 y2 z2 st2 hQ2
  subst l2 y2 z2
  obtain ⟨rfl, Nq2, e2⟩ := hQ2
  have N2 := Fr.app N1 Nq2
  refine own_st st2 ?_
  show OwnGo p e below s _ _ _ T2 (mkF m 8 #[.val (.ref a), .val (.long q1), .second, .val (.long q2), .second] [(.long q1)])
  refine own_st (T' := T2) (g' := (mkF m 35 #[.val (.ref a), .val (.long q1), .second, .val (.long q2), .second] [(.long q1), (.ref a)])) (fun uT uK => ?_) ?_
  · show Steps p.tables e below (T2.setTop (mkF m 8 #[.val (.ref a), .val (.long q1), .second, .val (.long q2), .second] [(.long q1)])) _
    jvm_step X2.here [X2.here.top, hx, (hb hby d1_8), Value.category]
    show Steps p.tables e below (T2.setTop (mkF m 9 #[.val (.ref a), .val (.long q1), .second, .val (.long q2), .second] [])) _
    refine XT.lloadN X2.here hx rfl (hb hby d1_9) rfl ?_
    show Steps p.tables e below (T2.setTop (mkF m 10 #[.val (.ref a), .val (.long q1), .second, .val (.long q2), .second] [(.long q2)])) _
    refine XT.lconst X2.here hx rfl (hb hby d1_10) ?_
    show Steps p.tables e below (T2.setTop (mkF m 11 #[.val (.ref a), .val (.long q1), .second, .val (.long q2), .second] [(.long (0 : Int64)), (.long q2)])) _
    refine XT.lcmp X2.here hx rfl (hb hby d1_11) rfl ?_
    show Steps p.tables e below (T2.setTop (mkF m 12 #[.val (.ref a), .val (.long q1), .second, .val (.long q2), .second] [(.int (XT.cmpL q2 (0 : Int64)))])) _
    refine XS.ifNo X2.here hx rfl (hb hby d1_12) rfl (XT.ll_lt_f h3) ?_
    show Steps p.tables e below (T2.setTop (mkF m 15 #[.val (.ref a), .val (.long q1), .second, .val (.long q2), .second] [])) _
    refine XT.lloadN X2.here hx rfl (hb hby d1_15) rfl ?_
    show Steps p.tables e below (T2.setTop (mkF m 16 #[.val (.ref a), .val (.long q1), .second, .val (.long q2), .second] [(.long q2)])) _
    refine X2.ldc2Long hx hown (mvT hZ (hw _ (List.mem_of_getElem? (i := 21) rfl))) (g := (mkF m 16 #[.val (.ref a), .val (.long q1), .second, .val (.long q2), .second] [(.long q2)])) rfl (hb hby d1_16) _ ?_
    show Steps p.tables e below (T2.setTop (mkF m 19 #[.val (.ref a), .val (.long q1), .second, .val (.long q2), .second] [(.long (4294967295 : Int64)), (.long q2)])) _
    refine XT.lcmp X2.here hx rfl (hb hby d1_19) rfl ?_
    show Steps p.tables e below (T2.setTop (mkF m 20 #[.val (.ref a), .val (.long q1), .second, .val (.long q2), .second] [(.int (XT.cmpL q2 (4294967295 : Int64)))])) _
    refine XS.ifYes X2.here hx rfl (pc0 := 20) (pc' := 33) rfl (hb hby d1_20) rfl (XT.ll_le_t h4) (by decide) (by decide) ?_
    show Steps p.tables e below (T2.setTop (mkF m 33 #[.val (.ref a), .val (.long q1), .second, .val (.long q2), .second] [])) _
    refine XS.aloadN X2.here hx rfl (hb hby d1_33) rfl rfl ?_
    show Steps p.tables e below (T2.setTop (mkF m 34 #[.val (.ref a), .val (.long q1), .second, .val (.long q2), .second] [(.ref a)])) _
    refine XT.lloadN X2.here hx rfl (hb hby d1_34) rfl ?_
    exact uK
  obtain ⟨T3, h3, X3, e3, W3, st3⟩ := putF X2 hx hZ hown (host := "") (Or.inl (hw _ (List.mem_of_getElem? (i := 22) rfl))) Via.refl e2 F_o E_a (Or.inr ⟨(hw _ (List.mem_of_getElem? (i := 23) rfl)), rfl, hnm⟩) (hw _ (List.mem_of_getElem? (i := 3) rfl)) (ty := .long) (by decide) rfl rfl (g := (mkF m 35 #[.val (.ref a), .val (.long q1), .second, .val (.long q2), .second] [(.long q1), (.ref a)])) rfl rfl (hb hby d1_35)
  have E3_a := (E_a).wr W3
  have K3 := (Keep.refl h0 [a]).wr W3 (Or.inl (List.mem_of_getElem? (i := 0) rfl))
  have F3_owner_a := (F_o).same W3
  have F3_takeovers_a := (F_t).other W3 (Or.inr (slot_ne (Or.inr (hw _ (List.mem_of_getElem? (i := 25) rfl))) (Or.inr (hw _ (List.mem_of_getElem? (i := 23) rfl))) (by decide) (t := .long) (t' := .long) (by decide) (by decide)))
  have N3 := Fr.snoc X3 N2 g_a
  have Z3 : n0 ≤ h3.size := Nat.le_trans Z0 (Keep.of_wr W3).1
  refine own_st st3 ?_
  show OwnGo p e below s _ _ _ T3 (mkF m 38 #[.val (.ref a), .val (.long q1), .second, .val (.long q2), .second] [])
  refine own_st (T' := T3) (g' := (mkF m 40 #[.val (.ref a), .val (.long q1), .second, .val (.long q2), .second] [(.long q2), (.ref a)])) (fun uT uK => ?_) ?_
  · show Steps p.tables e below (T3.setTop (mkF m 38 #[.val (.ref a), .val (.long q1), .second, .val (.long q2), .second] [])) _
    refine XS.aloadN X3.here hx rfl (hb hby d1_38) rfl rfl ?_
    show Steps p.tables e below (T3.setTop (mkF m 39 #[.val (.ref a), .val (.long q1), .second, .val (.long q2), .second] [(.ref a)])) _
    refine XT.lloadN X3.here hx rfl (hb hby d1_39) rfl ?_
    exact uK
  obtain ⟨T4, h4, X4, e4, W4, st4⟩ := putF X3 hx hZ hown (host := "") (Or.inl (hw _ (List.mem_of_getElem? (i := 24) rfl))) Via.refl e3 F3_takeovers_a E3_a (Or.inr ⟨(hw _ (List.mem_of_getElem? (i := 25) rfl)), rfl, hnm⟩) (hw _ (List.mem_of_getElem? (i := 3) rfl)) (ty := .long) (by decide) rfl rfl (g := (mkF m 40 #[.val (.ref a), .val (.long q1), .second, .val (.long q2), .second] [(.long q2), (.ref a)])) rfl rfl (hb hby d1_40)
  have E4_a := (E3_a).wr W4
  have K4 := (K3).wr W4 (Or.inl (List.mem_of_getElem? (i := 0) rfl))
  have F4_owner_a := (F3_owner_a).other W4 (Or.inr (slot_ne (Or.inr (hw _ (List.mem_of_getElem? (i := 23) rfl))) (Or.inr (hw _ (List.mem_of_getElem? (i := 25) rfl))) (by decide) (t := .long) (t' := .long) (by decide) (by decide)))
  have F4_takeovers_a := (F3_takeovers_a).same W4
  have N4 := Fr.snoc X4 N3 g_a
  have Z4 : n0 ≤ h4.size := Nat.le_trans Z3 (Keep.of_wr W4).1
  refine own_st st4 ?_
  show OwnGo p e below s _ _ _ T4 (mkF m 43 #[.val (.ref a), .val (.long q1), .second, .val (.long q2), .second] [])
  exact own_ret (v := none) X4 hlk (fun _ => rfl) (fun fs hr => X4.returnOut hx hret (hb hby d1_43) hr) (by rw [e4]; exact ⟨rfl, N4, K4, E4_a, F4_owner_a, F4_takeovers_a⟩) (by decide) (by decide)
def Q0 (Z : State) (q1 : Int64) (q2 : Int64) (p3 : Int32) (h0 : Heap) (n0 : Nat) (v : Option Value) (h : Heap) (L : List Loc) : Prop := v = some (.int 1) ∧ Fr n0 L
set_option maxRecDepth 65536 in
set_option maxHeartbeats 40000000 in
theorem own_t37 {p : Program} {l : Launch} {e : Env} {s : State} {m : MethodId} {args : Array Value} {below : List Frame} {meth : Method} {c : Code} {T : State} {locs : List Loc} {Z : State} {a0 : Array Value} {h : Heap} {n0 : Nat} (q1 q2 t : Int64) (p3 : Int32) (h0 : Heap) (ht1 : ¬ t < (0 : Int64)) (ht2 : ¬ (4294967295 : Int64) < t)
    (K : Ctx0 p s m meth c Z a0) (X : Stand p l e room_1 s m args below meth c T locs 0 0) (eT : T.heap = h) (N : Fr n0 locs) (Z0 : n0 ≤ h.size) :
    OwnGo p e below s room_1.cells room_1.slots (Q0 Z q1 q2 p3 h0 n0) T (mkF m 37 #[.val (.long q1), .second, .val (.long q2), .second, .val (.int p3), .val (.long ((1 : Int64) + ((q1 &&& (9223372036854775807 : Int64)) - ((q1 &&& (9223372036854775807 : Int64)) / (4294967295 : Int64)) * (4294967295 : Int64)))), .second, .unset, .unset, .unset, .unset] [(.long t)]) := by
  obtain ⟨hx, hZ, hw, hby, hml, hown, hret, hlk, hnm⟩ := id K
  refine own_st (T' := T) (g' := (mkF m 39 #[.val (.long q1), .second, .val (.long q2), .second, .val (.int p3), .val (.long ((1 : Int64) + ((q1 &&& (9223372036854775807 : Int64)) - ((q1 &&& (9223372036854775807 : Int64)) / (4294967295 : Int64)) * (4294967295 : Int64)))), .second, .val (.long t), .second, .unset, .unset] [])) (fun uT uK => ?_) ?_
  · show Steps p.tables e below (T.setTop (mkF m 37 #[.val (.long q1), .second, .val (.long q2), .second, .val (.int p3), .val (.long ((1 : Int64) + ((q1 &&& (9223372036854775807 : Int64)) - ((q1 &&& (9223372036854775807 : Int64)) / (4294967295 : Int64)) * (4294967295 : Int64)))), .second, .unset, .unset, .unset, .unset] [(.long t)])) _
    refine XT.lstore X.here hx rfl (hb hby at_37) rfl (l' := #[.val (.long q1), .second, .val (.long q2), .second, .val (.int p3), .val (.long ((1 : Int64) + ((q1 &&& (9223372036854775807 : Int64)) - ((q1 &&& (9223372036854775807 : Int64)) / (4294967295 : Int64)) * (4294967295 : Int64)))), .second, .val (.long t), .second, .unset, .unset]) rfl ?_
    exact uK
  obtain ⟨T1, h1, X1, e1, E1, A1, D1, -, st1⟩ := newO X hx hZ hown (hw _ (List.mem_of_getElem? (i := 2) rfl)) (hw _ (List.mem_of_getElem? (i := 3) rfl)) (hw _ (List.mem_of_getElem? (i := 4) rfl)) eT (g := (mkF m 39 #[.val (.long q1), .second, .val (.long q2), .second, .val (.int p3), .val (.long ((1 : Int64) + ((q1 &&& (9223372036854775807 : Int64)) - ((q1 &&& (9223372036854775807 : Int64)) / (4294967295 : Int64)) * (4294967295 : Int64)))), .second, .val (.long t), .second, .unset, .unset] [])) rfl (hb hby at_39) (by decide) (by decide)
  obtain ⟨a, g1⟩ : ∃ z, z = h.size := ⟨_, rfl⟩
  rw [← g1] at A1 D1 st1
  have g_a : n0 ≤ a := Nat.le_trans Z0 (Nat.le_of_eq g1.symm)
  have Z1 : n0 ≤ h1.size := Nat.le_trans Z0 E1.1
  have F1_owner : Fld Z h1 a "com/example/cachemesh/cachemesh/core/Custody" "owner" "J" (.long (0 : Int64)) := D1 (Or.inr (hw _ (List.mem_of_getElem? (i := 23) rfl))) (ty := .long) (by decide)
  have F1_takeovers : Fld Z h1 a "com/example/cachemesh/cachemesh/core/Custody" "takeovers" "J" (.long (0 : Int64)) := D1 (Or.inr (hw _ (List.mem_of_getElem? (i := 25) rfl))) (ty := .long) (by decide)
  refine own_st st1 ?_
  show OwnGo p e below s _ _ _ T1 (mkF m 42 #[.val (.long q1), .second, .val (.long q2), .second, .val (.int p3), .val (.long ((1 : Int64) + ((q1 &&& (9223372036854775807 : Int64)) - ((q1 &&& (9223372036854775807 : Int64)) / (4294967295 : Int64)) * (4294967295 : Int64)))), .second, .val (.long t), .second, .unset, .unset] [(.ref a)])
  refine own_st (T' := T1) (g' := (mkF m 47 #[.val (.long q1), .second, .val (.long q2), .second, .val (.int p3), .val (.long ((1 : Int64) + ((q1 &&& (9223372036854775807 : Int64)) - ((q1 &&& (9223372036854775807 : Int64)) / (4294967295 : Int64)) * (4294967295 : Int64)))), .second, .val (.long t), .second, .unset, .unset] [(.long t), (.long ((1 : Int64) + ((q1 &&& (9223372036854775807 : Int64)) - ((q1 &&& (9223372036854775807 : Int64)) / (4294967295 : Int64)) * (4294967295 : Int64)))), (.ref a), (.ref a)])) (fun uT uK => ?_) ?_
  · show Steps p.tables e below (T1.setTop (mkF m 42 #[.val (.long q1), .second, .val (.long q2), .second, .val (.int p3), .val (.long ((1 : Int64) + ((q1 &&& (9223372036854775807 : Int64)) - ((q1 &&& (9223372036854775807 : Int64)) / (4294967295 : Int64)) * (4294967295 : Int64)))), .second, .val (.long t), .second, .unset, .unset] [(.ref a)])) _
    refine XS.dup X1.here hx rfl (hb hby at_42) rfl rfl ?_
    show Steps p.tables e below (T1.setTop (mkF m 43 #[.val (.long q1), .second, .val (.long q2), .second, .val (.int p3), .val (.long ((1 : Int64) + ((q1 &&& (9223372036854775807 : Int64)) - ((q1 &&& (9223372036854775807 : Int64)) / (4294967295 : Int64)) * (4294967295 : Int64)))), .second, .val (.long t), .second, .unset, .unset] [(.ref a), (.ref a)])) _
    refine XT.lload X1.here hx rfl (hb hby at_43) rfl ?_
    show Steps p.tables e below (T1.setTop (mkF m 45 #[.val (.long q1), .second, .val (.long q2), .second, .val (.int p3), .val (.long ((1 : Int64) + ((q1 &&& (9223372036854775807 : Int64)) - ((q1 &&& (9223372036854775807 : Int64)) / (4294967295 : Int64)) * (4294967295 : Int64)))), .second, .val (.long t), .second, .unset, .unset] [(.long ((1 : Int64) + ((q1 &&& (9223372036854775807 : Int64)) - ((q1 &&& (9223372036854775807 : Int64)) / (4294967295 : Int64)) * (4294967295 : Int64)))), (.ref a), (.ref a)])) _
    refine XT.lload X1.here hx rfl (hb hby at_45) rfl ?_
    exact uK
  obtain ⟨_, _, ⟨T2, L2, k2, n2⟩, -, X2, ⟨Lc2, hQ2, l2, y2, z2⟩, st2⟩ := X1.specialBack hx (y := (⟨"com/example/cachemesh/cachemesh/core/Custody", "<init>", "(JJ)V"⟩ : MethodName)) rfl hown (mvT hZ (hw _ (List.mem_of_getElem? (i := 5) rfl))) (mvT hZ (hw _ (List.mem_of_getElem? (i := 6) rfl))) (mvT hZ (hw _ (List.mem_of_getElem? (i := 7) rfl))) (by decide) (backOf (W := 1) (rm1 l Z a0 hw [] a ((1 : Int64) + ((q1 &&& (9223372036854775807 : Int64)) - ((q1 &&& (9223372036854775807 : Int64)) / (4294967295 : Int64)) * (4294967295 : Int64))) t h1 n0 Z1 A1 F1_owner F1_takeovers g_a (own_owner q1).1 (own_owner q1).2 ht1 ht2) hZ (hw _ (List.mem_of_getElem? (i := 7) rfl)) (hw _ (List.mem_of_getElem? (i := 4) rfl)) (by decide) (by decide)) (g := (mkF m 47 #[.val (.long q1), .second, .val (.long q2), .second, .val (.int p3), .val (.long ((1 : Int64) + ((q1 &&& (9223372036854775807 : Int64)) - ((q1 &&& (9223372036854775807 : Int64)) / (4294967295 : Int64)) * (4294967295 : Int64)))), .second, .val (.long t), .second, .unset, .unset] [(.long t), (.long ((1 : Int64) + ((q1 &&& (9223372036854775807 : Int64)) - ((q1 &&& (9223372036854775807 : Int64)) / (4294967295 : Int64)) * (4294967295 : Int64)))), (.ref a), (.ref a)])) rfl (by rw [hml]; rfl) (Steps.refl _) (a := a) (argsL := [(.long ((1 : Int64) + ((q1 &&& (9223372036854775807 : Int64)) - ((q1 &&& (9223372036854775807 : Int64)) / (4294967295 : Int64)) * (4294967295 : Int64)))), (.long t)]) (rest := [(.ref a)]) (lenOf own_pd2 rfl) rfl (by show 2 * 0 + _ ≤ _; exact Nat.le_of_eq rfl) (hb hby at_47) (fun _ _ => ⟨rfl, e1, (by decide : 1 + 0 ≤ _), (by decide : 2 + 0 ≤ _)⟩)
  dsimp only [Pt.U, Pt.locs, Pt.cells, Pt.slots] at X2 l2 y2 z2 st2 hQ2
  subst l2 y2 z2
  obtain ⟨rfl, Nq2, Kc2, Ec2, Fo2, Ft2⟩ := hQ2
  have N2 := Fr.app N Nq2
  refine own_tr st2 ?_
  show OwnGo p e below s _ _ _ T2 (mkF m 50 #[.val (.long q1), .second, .val (.long q2), .second, .val (.int p3), .val (.long ((1 : Int64) + ((q1 &&& (9223372036854775807 : Int64)) - ((q1 &&& (9223372036854775807 : Int64)) / (4294967295 : Int64)) * (4294967295 : Int64)))), .second, .val (.long t), .second, .unset, .unset] [(.ref a)])
  have Z2 : n0 ≤ T2.heap.size := Nat.le_trans Z1 Kc2.1
  refine own_st (T' := T2) (g' := (mkF m 60 #[.val (.long q1), .second, .val (.long q2), .second, .val (.int p3), .val (.long ((1 : Int64) + ((q1 &&& (9223372036854775807 : Int64)) - ((q1 &&& (9223372036854775807 : Int64)) / (4294967295 : Int64)) * (4294967295 : Int64)))), .second, .val (.long t), .second, .val (.ref a), .unset] [(.int (XT.cmpL (t + (1 : Int64)) (4294967295 : Int64)))])) (fun uT uK => ?_) ?_
  · show Steps p.tables e below (T2.setTop (mkF m 50 #[.val (.long q1), .second, .val (.long q2), .second, .val (.int p3), .val (.long ((1 : Int64) + ((q1 &&& (9223372036854775807 : Int64)) - ((q1 &&& (9223372036854775807 : Int64)) / (4294967295 : Int64)) * (4294967295 : Int64)))), .second, .val (.long t), .second, .unset, .unset] [(.ref a)])) _
    refine XS.astore X2.here hx rfl (hb hby at_50) rfl rfl (l' := #[.val (.long q1), .second, .val (.long q2), .second, .val (.int p3), .val (.long ((1 : Int64) + ((q1 &&& (9223372036854775807 : Int64)) - ((q1 &&& (9223372036854775807 : Int64)) / (4294967295 : Int64)) * (4294967295 : Int64)))), .second, .val (.long t), .second, .val (.ref a), .unset]) rfl ?_
    show Steps p.tables e below (T2.setTop (mkF m 52 #[.val (.long q1), .second, .val (.long q2), .second, .val (.int p3), .val (.long ((1 : Int64) + ((q1 &&& (9223372036854775807 : Int64)) - ((q1 &&& (9223372036854775807 : Int64)) / (4294967295 : Int64)) * (4294967295 : Int64)))), .second, .val (.long t), .second, .val (.ref a), .unset] [])) _
    refine XT.lload X2.here hx rfl (hb hby at_52) rfl ?_
    show Steps p.tables e below (T2.setTop (mkF m 54 #[.val (.long q1), .second, .val (.long q2), .second, .val (.int p3), .val (.long ((1 : Int64) + ((q1 &&& (9223372036854775807 : Int64)) - ((q1 &&& (9223372036854775807 : Int64)) / (4294967295 : Int64)) * (4294967295 : Int64)))), .second, .val (.long t), .second, .val (.ref a), .unset] [(.long t)])) _
    refine XT.lconst X2.here hx rfl (hb hby at_54) ?_
    show Steps p.tables e below (T2.setTop (mkF m 55 #[.val (.long q1), .second, .val (.long q2), .second, .val (.int p3), .val (.long ((1 : Int64) + ((q1 &&& (9223372036854775807 : Int64)) - ((q1 &&& (9223372036854775807 : Int64)) / (4294967295 : Int64)) * (4294967295 : Int64)))), .second, .val (.long t), .second, .val (.ref a), .unset] [(.long (1 : Int64)), (.long t)])) _
    refine XT.ladd X2.here hx rfl (hb hby at_55) rfl ?_
    show Steps p.tables e below (T2.setTop (mkF m 56 #[.val (.long q1), .second, .val (.long q2), .second, .val (.int p3), .val (.long ((1 : Int64) + ((q1 &&& (9223372036854775807 : Int64)) - ((q1 &&& (9223372036854775807 : Int64)) / (4294967295 : Int64)) * (4294967295 : Int64)))), .second, .val (.long t), .second, .val (.ref a), .unset] [(.long (t + (1 : Int64)))])) _
    refine X2.ldc2Long hx hown (mvT hZ (hw _ (List.mem_of_getElem? (i := 1) rfl))) (g := (mkF m 56 #[.val (.long q1), .second, .val (.long q2), .second, .val (.int p3), .val (.long ((1 : Int64) + ((q1 &&& (9223372036854775807 : Int64)) - ((q1 &&& (9223372036854775807 : Int64)) / (4294967295 : Int64)) * (4294967295 : Int64)))), .second, .val (.long t), .second, .val (.ref a), .unset] [(.long (t + (1 : Int64)))])) rfl (hb hby at_56) _ ?_
    show Steps p.tables e below (T2.setTop (mkF m 59 #[.val (.long q1), .second, .val (.long q2), .second, .val (.int p3), .val (.long ((1 : Int64) + ((q1 &&& (9223372036854775807 : Int64)) - ((q1 &&& (9223372036854775807 : Int64)) / (4294967295 : Int64)) * (4294967295 : Int64)))), .second, .val (.long t), .second, .val (.ref a), .unset] [(.long (4294967295 : Int64)), (.long (t + (1 : Int64)))])) _
    refine XT.lcmp X2.here hx rfl (hb hby at_59) rfl ?_
    exact uK
  by_cases hc60 : (4294967295 : Int64) < (t + (1 : Int64))
  · refine own_st (T' := T2) (g' := (mkF m 72 #[.val (.long q1), .second, .val (.long q2), .second, .val (.int p3), .val (.long ((1 : Int64) + ((q1 &&& (9223372036854775807 : Int64)) - ((q1 &&& (9223372036854775807 : Int64)) / (4294967295 : Int64)) * (4294967295 : Int64)))), .second, .val (.long t), .second, .val (.ref a), .val (.int (0 : Int32))] [(.ref a)])) (fun uT uK => ?_) ?_
    · show Steps p.tables e below (T2.setTop (mkF m 60 #[.val (.long q1), .second, .val (.long q2), .second, .val (.int p3), .val (.long ((1 : Int64) + ((q1 &&& (9223372036854775807 : Int64)) - ((q1 &&& (9223372036854775807 : Int64)) / (4294967295 : Int64)) * (4294967295 : Int64)))), .second, .val (.long t), .second, .val (.ref a), .unset] [(.int (XT.cmpL (t + (1 : Int64)) (4294967295 : Int64)))])) _
      refine XS.ifYes X2.here hx rfl (pc0 := 60) (pc' := 67) rfl (hb hby at_60) rfl (XT.ll_gt_t hc60) (by decide) (by decide) ?_
      show Steps p.tables e below (T2.setTop (mkF m 67 #[.val (.long q1), .second, .val (.long q2), .second, .val (.int p3), .val (.long ((1 : Int64) + ((q1 &&& (9223372036854775807 : Int64)) - ((q1 &&& (9223372036854775807 : Int64)) / (4294967295 : Int64)) * (4294967295 : Int64)))), .second, .val (.long t), .second, .val (.ref a), .unset] [])) _
      refine XS.iconst X2.here hx rfl (hb hby at_67) ?_
      show Steps p.tables e below (T2.setTop (mkF m 68 #[.val (.long q1), .second, .val (.long q2), .second, .val (.int p3), .val (.long ((1 : Int64) + ((q1 &&& (9223372036854775807 : Int64)) - ((q1 &&& (9223372036854775807 : Int64)) / (4294967295 : Int64)) * (4294967295 : Int64)))), .second, .val (.long t), .second, .val (.ref a), .unset] [(.int (0 : Int32))])) _
      refine XS.istore X2.here hx rfl (hb hby at_68) rfl (l' := #[.val (.long q1), .second, .val (.long q2), .second, .val (.int p3), .val (.long ((1 : Int64) + ((q1 &&& (9223372036854775807 : Int64)) - ((q1 &&& (9223372036854775807 : Int64)) / (4294967295 : Int64)) * (4294967295 : Int64)))), .second, .val (.long t), .second, .val (.ref a), .val (.int (0 : Int32))]) rfl ?_
      show Steps p.tables e below (T2.setTop (mkF m 70 #[.val (.long q1), .second, .val (.long q2), .second, .val (.int p3), .val (.long ((1 : Int64) + ((q1 &&& (9223372036854775807 : Int64)) - ((q1 &&& (9223372036854775807 : Int64)) / (4294967295 : Int64)) * (4294967295 : Int64)))), .second, .val (.long t), .second, .val (.ref a), .val (.int (0 : Int32))] [])) _
      refine XS.aload X2.here hx rfl (hb hby at_70) rfl rfl ?_
      exact uK
    obtain ⟨cq3, kq3, qa3, qb3, qc3⟩ := isOf hZ rfl (Ec2)
    obtain ⟨_, _, ⟨T3, L3, k3, n3⟩, -, X3, ⟨Lc3, hQ3, l3, y3, z3⟩, st3⟩ := X2.virtualBack hx (y := (⟨"com/example/cachemesh/cachemesh/core/Custody", "canPass", "()Z"⟩ : MethodName)) (z := (⟨"com/example/cachemesh/cachemesh/core/Custody", "canPass", "()Z"⟩ : MethodName)) hown (mvT hZ (hw _ (List.mem_of_getElem? (i := 26) rfl))) (mvT hZ (hw _ (List.mem_of_getElem? (i := 27) rfl))) (notFace_of_selects (args := #[]) (mvT hZ (hw _ (List.mem_of_getElem? (i := 29) rfl)))) (mvT hZ (hw _ (List.mem_of_getElem? (i := 29) rfl))) (mvT hZ (hw _ (List.mem_of_getElem? (i := 28) rfl))) (by decide) (backOf (W := 0) (rm5 l Z a0 hw [] a t T2.heap n0 Z2 Ft2) hZ (hw _ (List.mem_of_getElem? (i := 30) rfl)) (hw _ (List.mem_of_getElem? (i := 4) rfl)) (by decide) (by decide)) qa3 qc3 (g := (mkF m 72 #[.val (.long q1), .second, .val (.long q2), .second, .val (.int p3), .val (.long ((1 : Int64) + ((q1 &&& (9223372036854775807 : Int64)) - ((q1 &&& (9223372036854775807 : Int64)) / (4294967295 : Int64)) * (4294967295 : Int64)))), .second, .val (.long t), .second, .val (.ref a), .val (.int (0 : Int32))] [(.ref a)])) rfl (by rw [hml]; rfl) (Steps.refl _) (argsL := []) (rest := []) (lenOf own_pd3 rfl) rfl (by show 2 * 0 + _ ≤ _; exact Nat.le_of_eq rfl) (hb hby at_72) (fun _ _ => ⟨rfl, rfl, (by decide : 1 + 0 ≤ _), (by decide : 2 + 0 ≤ _)⟩)
    dsimp only [Pt.U, Pt.locs, Pt.cells, Pt.slots] at X3 l3 y3 z3 st3 hQ3
    subst l3 y3 z3
    obtain ⟨rfl, Nq3, e3⟩ := hQ3
    have N3 := Fr.app N2 Nq3
    refine own_tr st3 ?_
    show OwnGo p e below s _ _ _ T3 (mkF m 75 #[.val (.long q1), .second, .val (.long q2), .second, .val (.int p3), .val (.long ((1 : Int64) + ((q1 &&& (9223372036854775807 : Int64)) - ((q1 &&& (9223372036854775807 : Int64)) / (4294967295 : Int64)) * (4294967295 : Int64)))), .second, .val (.long t), .second, .val (.ref a), .val (.int (0 : Int32))] [(.int (own_can t))])
    refine own_st (T' := T3) (g' := (mkF m 85 #[.val (.long q1), .second, .val (.long q2), .second, .val (.int p3), .val (.long ((1 : Int64) + ((q1 &&& (9223372036854775807 : Int64)) - ((q1 &&& (9223372036854775807 : Int64)) / (4294967295 : Int64)) * (4294967295 : Int64)))), .second, .val (.long t), .second, .val (.ref a), .val (.int (0 : Int32))] [(.int (1 : Int32))])) (fun uT uK => ?_) ?_
    · show Steps p.tables e below (T3.setTop (mkF m 75 #[.val (.long q1), .second, .val (.long q2), .second, .val (.int p3), .val (.long ((1 : Int64) + ((q1 &&& (9223372036854775807 : Int64)) - ((q1 &&& (9223372036854775807 : Int64)) / (4294967295 : Int64)) * (4294967295 : Int64)))), .second, .val (.long t), .second, .val (.ref a), .val (.int (0 : Int32))] [(.int (own_can t))])) _
      refine XS.iload X3.here hx rfl (hb hby at_75) rfl ?_
      show Steps p.tables e below (T3.setTop (mkF m 77 #[.val (.long q1), .second, .val (.long q2), .second, .val (.int p3), .val (.long ((1 : Int64) + ((q1 &&& (9223372036854775807 : Int64)) - ((q1 &&& (9223372036854775807 : Int64)) / (4294967295 : Int64)) * (4294967295 : Int64)))), .second, .val (.long t), .second, .val (.ref a), .val (.int (0 : Int32))] [(.int (0 : Int32)), (.int (own_can t))])) _
      refine XS.icmpNo X3.here hx rfl (hb hby at_77) rfl (XT.ii_ne_f (own_c0 ht1 ht2 hc60)) ?_
      show Steps p.tables e below (T3.setTop (mkF m 80 #[.val (.long q1), .second, .val (.long q2), .second, .val (.int p3), .val (.long ((1 : Int64) + ((q1 &&& (9223372036854775807 : Int64)) - ((q1 &&& (9223372036854775807 : Int64)) / (4294967295 : Int64)) * (4294967295 : Int64)))), .second, .val (.long t), .second, .val (.ref a), .val (.int (0 : Int32))] [])) _
      refine XS.iconst X3.here hx rfl (hb hby at_80) ?_
      show Steps p.tables e below (T3.setTop (mkF m 81 #[.val (.long q1), .second, .val (.long q2), .second, .val (.int p3), .val (.long ((1 : Int64) + ((q1 &&& (9223372036854775807 : Int64)) - ((q1 &&& (9223372036854775807 : Int64)) / (4294967295 : Int64)) * (4294967295 : Int64)))), .second, .val (.long t), .second, .val (.ref a), .val (.int (0 : Int32))] [(.int (1 : Int32))])) _
      refine XS.goto X3.here hx rfl (pc0 := 81) (pc' := 85) rfl (hb hby at_81) (by decide) (by decide) ?_
      exact uK
    exact own_ret (v := some (.int (1 : Int32))) X3 hlk (fun h => by rw [hret] at h; cases h) (fun fs hr => retOut X3 hx hret rfl (Or.inl ⟨rfl, by simp, _, rfl⟩) (hb hby at_85) hr) ⟨rfl, N3⟩ (by decide) (by decide)
  · refine own_st (T' := T2) (g' := (mkF m 72 #[.val (.long q1), .second, .val (.long q2), .second, .val (.int p3), .val (.long ((1 : Int64) + ((q1 &&& (9223372036854775807 : Int64)) - ((q1 &&& (9223372036854775807 : Int64)) / (4294967295 : Int64)) * (4294967295 : Int64)))), .second, .val (.long t), .second, .val (.ref a), .val (.int (1 : Int32))] [(.ref a)])) (fun uT uK => ?_) ?_
    · show Steps p.tables e below (T2.setTop (mkF m 60 #[.val (.long q1), .second, .val (.long q2), .second, .val (.int p3), .val (.long ((1 : Int64) + ((q1 &&& (9223372036854775807 : Int64)) - ((q1 &&& (9223372036854775807 : Int64)) / (4294967295 : Int64)) * (4294967295 : Int64)))), .second, .val (.long t), .second, .val (.ref a), .unset] [(.int (XT.cmpL (t + (1 : Int64)) (4294967295 : Int64)))])) _
      refine XS.ifNo X2.here hx rfl (hb hby at_60) rfl (XT.ll_gt_f hc60) ?_
      show Steps p.tables e below (T2.setTop (mkF m 63 #[.val (.long q1), .second, .val (.long q2), .second, .val (.int p3), .val (.long ((1 : Int64) + ((q1 &&& (9223372036854775807 : Int64)) - ((q1 &&& (9223372036854775807 : Int64)) / (4294967295 : Int64)) * (4294967295 : Int64)))), .second, .val (.long t), .second, .val (.ref a), .unset] [])) _
      refine XS.iconst X2.here hx rfl (hb hby at_63) ?_
      show Steps p.tables e below (T2.setTop (mkF m 64 #[.val (.long q1), .second, .val (.long q2), .second, .val (.int p3), .val (.long ((1 : Int64) + ((q1 &&& (9223372036854775807 : Int64)) - ((q1 &&& (9223372036854775807 : Int64)) / (4294967295 : Int64)) * (4294967295 : Int64)))), .second, .val (.long t), .second, .val (.ref a), .unset] [(.int (1 : Int32))])) _
      refine XS.goto X2.here hx rfl (pc0 := 64) (pc' := 68) rfl (hb hby at_64) (by decide) (by decide) ?_
      show Steps p.tables e below (T2.setTop (mkF m 68 #[.val (.long q1), .second, .val (.long q2), .second, .val (.int p3), .val (.long ((1 : Int64) + ((q1 &&& (9223372036854775807 : Int64)) - ((q1 &&& (9223372036854775807 : Int64)) / (4294967295 : Int64)) * (4294967295 : Int64)))), .second, .val (.long t), .second, .val (.ref a), .unset] [(.int (1 : Int32))])) _
      refine XS.istore X2.here hx rfl (hb hby at_68) rfl (l' := #[.val (.long q1), .second, .val (.long q2), .second, .val (.int p3), .val (.long ((1 : Int64) + ((q1 &&& (9223372036854775807 : Int64)) - ((q1 &&& (9223372036854775807 : Int64)) / (4294967295 : Int64)) * (4294967295 : Int64)))), .second, .val (.long t), .second, .val (.ref a), .val (.int (1 : Int32))]) rfl ?_
      show Steps p.tables e below (T2.setTop (mkF m 70 #[.val (.long q1), .second, .val (.long q2), .second, .val (.int p3), .val (.long ((1 : Int64) + ((q1 &&& (9223372036854775807 : Int64)) - ((q1 &&& (9223372036854775807 : Int64)) / (4294967295 : Int64)) * (4294967295 : Int64)))), .second, .val (.long t), .second, .val (.ref a), .val (.int (1 : Int32))] [])) _
      refine XS.aload X2.here hx rfl (hb hby at_70) rfl rfl ?_
      exact uK
    obtain ⟨cq4, kq4, qa4, qb4, qc4⟩ := isOf hZ rfl (Ec2)
    obtain ⟨_, _, ⟨T4, L4, k4, n4⟩, -, X4, ⟨Lc4, hQ4, l4, y4, z4⟩, st4⟩ := X2.virtualBack hx (y := (⟨"com/example/cachemesh/cachemesh/core/Custody", "canPass", "()Z"⟩ : MethodName)) (z := (⟨"com/example/cachemesh/cachemesh/core/Custody", "canPass", "()Z"⟩ : MethodName)) hown (mvT hZ (hw _ (List.mem_of_getElem? (i := 26) rfl))) (mvT hZ (hw _ (List.mem_of_getElem? (i := 27) rfl))) (notFace_of_selects (args := #[]) (mvT hZ (hw _ (List.mem_of_getElem? (i := 29) rfl)))) (mvT hZ (hw _ (List.mem_of_getElem? (i := 29) rfl))) (mvT hZ (hw _ (List.mem_of_getElem? (i := 28) rfl))) (by decide) (backOf (W := 0) (rm5 l Z a0 hw [] a t T2.heap n0 Z2 Ft2) hZ (hw _ (List.mem_of_getElem? (i := 30) rfl)) (hw _ (List.mem_of_getElem? (i := 4) rfl)) (by decide) (by decide)) qa4 qc4 (g := (mkF m 72 #[.val (.long q1), .second, .val (.long q2), .second, .val (.int p3), .val (.long ((1 : Int64) + ((q1 &&& (9223372036854775807 : Int64)) - ((q1 &&& (9223372036854775807 : Int64)) / (4294967295 : Int64)) * (4294967295 : Int64)))), .second, .val (.long t), .second, .val (.ref a), .val (.int (1 : Int32))] [(.ref a)])) rfl (by rw [hml]; rfl) (Steps.refl _) (argsL := []) (rest := []) (lenOf own_pd3 rfl) rfl (by show 2 * 0 + _ ≤ _; exact Nat.le_of_eq rfl) (hb hby at_72) (fun _ _ => ⟨rfl, rfl, (by decide : 1 + 0 ≤ _), (by decide : 2 + 0 ≤ _)⟩)
    dsimp only [Pt.U, Pt.locs, Pt.cells, Pt.slots] at X4 l4 y4 z4 st4 hQ4
    subst l4 y4 z4
    obtain ⟨rfl, Nq4, e4⟩ := hQ4
    have N4 := Fr.app N2 Nq4
    refine own_tr st4 ?_
    show OwnGo p e below s _ _ _ T4 (mkF m 75 #[.val (.long q1), .second, .val (.long q2), .second, .val (.int p3), .val (.long ((1 : Int64) + ((q1 &&& (9223372036854775807 : Int64)) - ((q1 &&& (9223372036854775807 : Int64)) / (4294967295 : Int64)) * (4294967295 : Int64)))), .second, .val (.long t), .second, .val (.ref a), .val (.int (1 : Int32))] [(.int (own_can t))])
    refine own_st (T' := T4) (g' := (mkF m 85 #[.val (.long q1), .second, .val (.long q2), .second, .val (.int p3), .val (.long ((1 : Int64) + ((q1 &&& (9223372036854775807 : Int64)) - ((q1 &&& (9223372036854775807 : Int64)) / (4294967295 : Int64)) * (4294967295 : Int64)))), .second, .val (.long t), .second, .val (.ref a), .val (.int (1 : Int32))] [(.int (1 : Int32))])) (fun uT uK => ?_) ?_
    · show Steps p.tables e below (T4.setTop (mkF m 75 #[.val (.long q1), .second, .val (.long q2), .second, .val (.int p3), .val (.long ((1 : Int64) + ((q1 &&& (9223372036854775807 : Int64)) - ((q1 &&& (9223372036854775807 : Int64)) / (4294967295 : Int64)) * (4294967295 : Int64)))), .second, .val (.long t), .second, .val (.ref a), .val (.int (1 : Int32))] [(.int (own_can t))])) _
      refine XS.iload X4.here hx rfl (hb hby at_75) rfl ?_
      show Steps p.tables e below (T4.setTop (mkF m 77 #[.val (.long q1), .second, .val (.long q2), .second, .val (.int p3), .val (.long ((1 : Int64) + ((q1 &&& (9223372036854775807 : Int64)) - ((q1 &&& (9223372036854775807 : Int64)) / (4294967295 : Int64)) * (4294967295 : Int64)))), .second, .val (.long t), .second, .val (.ref a), .val (.int (1 : Int32))] [(.int (1 : Int32)), (.int (own_can t))])) _
      refine XS.icmpNo X4.here hx rfl (hb hby at_77) rfl (XT.ii_ne_f (own_c1 ht1 ht2 hc60)) ?_
      show Steps p.tables e below (T4.setTop (mkF m 80 #[.val (.long q1), .second, .val (.long q2), .second, .val (.int p3), .val (.long ((1 : Int64) + ((q1 &&& (9223372036854775807 : Int64)) - ((q1 &&& (9223372036854775807 : Int64)) / (4294967295 : Int64)) * (4294967295 : Int64)))), .second, .val (.long t), .second, .val (.ref a), .val (.int (1 : Int32))] [])) _
      refine XS.iconst X4.here hx rfl (hb hby at_80) ?_
      show Steps p.tables e below (T4.setTop (mkF m 81 #[.val (.long q1), .second, .val (.long q2), .second, .val (.int p3), .val (.long ((1 : Int64) + ((q1 &&& (9223372036854775807 : Int64)) - ((q1 &&& (9223372036854775807 : Int64)) / (4294967295 : Int64)) * (4294967295 : Int64)))), .second, .val (.long t), .second, .val (.ref a), .val (.int (1 : Int32))] [(.int (1 : Int32))])) _
      refine XS.goto X4.here hx rfl (pc0 := 81) (pc' := 85) rfl (hb hby at_81) (by decide) (by decide) ?_
      exact uK
    exact own_ret (v := some (.int (1 : Int32))) X4 hlk (fun h => by rw [hret] at h; cases h) (fun fs hr => retOut X4 hx hret rfl (Or.inl ⟨rfl, by simp, _, rfl⟩) (hb hby at_85) hr) ⟨rfl, N4⟩ (by decide) (by decide)
theorem own_ef_rm0 (m : MethodId) (x0 : Int64) (x1 : Int64) (x2 : Int32) : entryFrame m #[(.long x0), (.long x1), (.int x2)] maxLocals = mkF m 0 #[.val (.long x0), .second, .val (.long x1), .second, .val (.int x2), .unset, .unset, .unset, .unset, .unset, .unset] [] := by first | (simp [entryFrame, mkF, argsToLocals, Value.category, maxLocals]; done) | rfl
set_option maxRecDepth 65536 in
set_option maxHeartbeats 40000000 in
theorem rm0 (l : Launch) (Z : State) (a0 : Array Value) (hw : ∀ d ∈ tables_1, d.before a0 Z = true) (ws : List Jvm.Cond) (q1 : Int64) (q2 : Int64) (p3 : Int32) (h0 : Heap) (n0 : Nat) (Z0 : n0 ≤ h0.size) :
    MetFree l x (head1 (Jvm.Cond.code x code maxLocals ret :: ws) room_1) (fun aQ UQ => aQ = #[(.long q1), (.long q2), (.int p3)] ∧ Z.Warmed39 UQ.vm ∧ UQ.heap = h0) (fun _ _ _ _ _ => True) (fun _ UQ oQ UR => ∃ vQ LQ, oQ = .returned vQ ∧ Q0 Z q1 q2 p3 h0 n0 vQ UR.heap LQ ∧ FrameEnd UQ oQ UR LQ room_1.cells room_1.slots) := by
  refine MetFree.of_bodySF (plainFor_of_name pn_0) hisR ?_
  intro p e s m args below meth c s₁ Bd hml0 hP hK
  obtain ⟨rfl, hZ, hh⟩ := hP
  have hx := Bd.exec
  have hby := Bd.bytes
  have hml : c.maxLocals = 11 := hml0
  have hown : s.vm.findClass "com/example/cachemesh/cachemesh/core/CustodyCanPassPinLaw" = some m.cls := findClass_of_methodNamed Bd.named
  have hnm := (name_of_methodNamed Bd.named Bd.method).1
  have hret := Bd.returns
  have hlk : meth.locks = false := Bd.notSynchronized
  have X0 : Stand p l e room_1 s m #[(.long q1), (.long q2), (.int p3)] below meth c s₁ [] 0 0 := Stand.of_body Bd
  have e0 : s₁.heap = h0 := by rw [← hh, Bd.state]; rfl
  have N0 := Fr.nil n0
  have K : Ctx0 p s m meth c Z a0 := ⟨hx, hZ, hw, hby, hml, hown, hret, hlk, hnm⟩
  show OwnGo p e below s room_1.cells room_1.slots (Q0 Z q1 q2 p3 h0 n0) s₁ (entryFrame m #[(.long q1), (.long q2), (.int p3)] maxLocals)
  refine own_cast (own_ef_rm0 m q1 q2 p3) ?_
  show OwnGo p e below s _ _ _ s₁ (mkF m 0 #[.val (.long q1), .second, .val (.long q2), .second, .val (.int p3), .unset, .unset, .unset, .unset, .unset, .unset] [])
  refine own_st (T' := s₁) (g' := (mkF m 17 #[.val (.long q1), .second, .val (.long q2), .second, .val (.int p3), .val (.long ((1 : Int64) + ((q1 &&& (9223372036854775807 : Int64)) - ((q1 &&& (9223372036854775807 : Int64)) / (4294967295 : Int64)) * (4294967295 : Int64)))), .second, .unset, .unset, .unset, .unset] [(.int (p3 &&& (1 : Int32)))])) (fun uT uK => ?_) ?_
  · show Steps p.tables e below (s₁.setTop (mkF m 0 #[.val (.long q1), .second, .val (.long q2), .second, .val (.int p3), .unset, .unset, .unset, .unset, .unset, .unset] [])) _
    refine XT.lconst X0.here hx rfl (hb hby at_0) ?_
    show Steps p.tables e below (s₁.setTop (mkF m 1 #[.val (.long q1), .second, .val (.long q2), .second, .val (.int p3), .unset, .unset, .unset, .unset, .unset, .unset] [(.long (1 : Int64))])) _
    refine XT.lloadN X0.here hx rfl (hb hby at_1) rfl ?_
    show Steps p.tables e below (s₁.setTop (mkF m 2 #[.val (.long q1), .second, .val (.long q2), .second, .val (.int p3), .unset, .unset, .unset, .unset, .unset, .unset] [(.long q1), (.long (1 : Int64))])) _
    refine X0.ldc2Long hx hown (mvT hZ (hw _ (List.mem_of_getElem? (i := 0) rfl))) (g := (mkF m 2 #[.val (.long q1), .second, .val (.long q2), .second, .val (.int p3), .unset, .unset, .unset, .unset, .unset, .unset] [(.long q1), (.long (1 : Int64))])) rfl (hb hby at_2) _ ?_
    show Steps p.tables e below (s₁.setTop (mkF m 5 #[.val (.long q1), .second, .val (.long q2), .second, .val (.int p3), .unset, .unset, .unset, .unset, .unset, .unset] [(.long (9223372036854775807 : Int64)), (.long q1), (.long (1 : Int64))])) _
    refine XT.land X0.here hx rfl (hb hby at_5) rfl ?_
    show Steps p.tables e below (s₁.setTop (mkF m 6 #[.val (.long q1), .second, .val (.long q2), .second, .val (.int p3), .unset, .unset, .unset, .unset, .unset, .unset] [(.long (q1 &&& (9223372036854775807 : Int64))), (.long (1 : Int64))])) _
    refine X0.ldc2Long hx hown (mvT hZ (hw _ (List.mem_of_getElem? (i := 1) rfl))) (g := (mkF m 6 #[.val (.long q1), .second, .val (.long q2), .second, .val (.int p3), .unset, .unset, .unset, .unset, .unset, .unset] [(.long (q1 &&& (9223372036854775807 : Int64))), (.long (1 : Int64))])) rfl (hb hby at_6) _ ?_
    show Steps p.tables e below (s₁.setTop (mkF m 9 #[.val (.long q1), .second, .val (.long q2), .second, .val (.int p3), .unset, .unset, .unset, .unset, .unset, .unset] [(.long (4294967295 : Int64)), (.long (q1 &&& (9223372036854775807 : Int64))), (.long (1 : Int64))])) _
    refine XT.lrem X0.here hx rfl (hb hby at_9) rfl (by decide) ?_
    show Steps p.tables e below (s₁.setTop (mkF m 10 #[.val (.long q1), .second, .val (.long q2), .second, .val (.int p3), .unset, .unset, .unset, .unset, .unset, .unset] [(.long ((q1 &&& (9223372036854775807 : Int64)) - ((q1 &&& (9223372036854775807 : Int64)) / (4294967295 : Int64)) * (4294967295 : Int64))), (.long (1 : Int64))])) _
    refine XT.ladd X0.here hx rfl (hb hby at_10) rfl ?_
    show Steps p.tables e below (s₁.setTop (mkF m 11 #[.val (.long q1), .second, .val (.long q2), .second, .val (.int p3), .unset, .unset, .unset, .unset, .unset, .unset] [(.long ((1 : Int64) + ((q1 &&& (9223372036854775807 : Int64)) - ((q1 &&& (9223372036854775807 : Int64)) / (4294967295 : Int64)) * (4294967295 : Int64))))])) _
    refine XT.lstore X0.here hx rfl (hb hby at_11) rfl (l' := #[.val (.long q1), .second, .val (.long q2), .second, .val (.int p3), .val (.long ((1 : Int64) + ((q1 &&& (9223372036854775807 : Int64)) - ((q1 &&& (9223372036854775807 : Int64)) / (4294967295 : Int64)) * (4294967295 : Int64)))), .second, .unset, .unset, .unset, .unset]) rfl ?_
    show Steps p.tables e below (s₁.setTop (mkF m 13 #[.val (.long q1), .second, .val (.long q2), .second, .val (.int p3), .val (.long ((1 : Int64) + ((q1 &&& (9223372036854775807 : Int64)) - ((q1 &&& (9223372036854775807 : Int64)) / (4294967295 : Int64)) * (4294967295 : Int64)))), .second, .unset, .unset, .unset, .unset] [])) _
    refine XS.iload X0.here hx rfl (hb hby at_13) rfl ?_
    show Steps p.tables e below (s₁.setTop (mkF m 15 #[.val (.long q1), .second, .val (.long q2), .second, .val (.int p3), .val (.long ((1 : Int64) + ((q1 &&& (9223372036854775807 : Int64)) - ((q1 &&& (9223372036854775807 : Int64)) / (4294967295 : Int64)) * (4294967295 : Int64)))), .second, .unset, .unset, .unset, .unset] [(.int p3)])) _
    refine XS.iconst X0.here hx rfl (hb hby at_15) ?_
    show Steps p.tables e below (s₁.setTop (mkF m 16 #[.val (.long q1), .second, .val (.long q2), .second, .val (.int p3), .val (.long ((1 : Int64) + ((q1 &&& (9223372036854775807 : Int64)) - ((q1 &&& (9223372036854775807 : Int64)) / (4294967295 : Int64)) * (4294967295 : Int64)))), .second, .unset, .unset, .unset, .unset] [(.int (1 : Int32)), (.int p3)])) _
    refine XS.iand X0.here hx rfl (hb hby at_16) rfl ?_
    exact uK
  by_cases hc17 : (p3 &&& (1 : Int32)) = (0 : Int32)
  · refine own_st (T' := s₁) (g' := (mkF m 37 #[.val (.long q1), .second, .val (.long q2), .second, .val (.int p3), .val (.long ((1 : Int64) + ((q1 &&& (9223372036854775807 : Int64)) - ((q1 &&& (9223372036854775807 : Int64)) / (4294967295 : Int64)) * (4294967295 : Int64)))), .second, .unset, .unset, .unset, .unset] [(.long (q2 &&& (4294967295 : Int64)))])) (fun uT uK => ?_) ?_
    · show Steps p.tables e below (s₁.setTop (mkF m 17 #[.val (.long q1), .second, .val (.long q2), .second, .val (.int p3), .val (.long ((1 : Int64) + ((q1 &&& (9223372036854775807 : Int64)) - ((q1 &&& (9223372036854775807 : Int64)) / (4294967295 : Int64)) * (4294967295 : Int64)))), .second, .unset, .unset, .unset, .unset] [(.int (p3 &&& (1 : Int32)))])) _
      refine XS.ifYes X0.here hx rfl (pc0 := 17) (pc' := 32) rfl (hb hby at_17) rfl (XT.i0_eq_t hc17) (by decide) (by decide) ?_
      show Steps p.tables e below (s₁.setTop (mkF m 32 #[.val (.long q1), .second, .val (.long q2), .second, .val (.int p3), .val (.long ((1 : Int64) + ((q1 &&& (9223372036854775807 : Int64)) - ((q1 &&& (9223372036854775807 : Int64)) / (4294967295 : Int64)) * (4294967295 : Int64)))), .second, .unset, .unset, .unset, .unset] [])) _
      refine XT.lloadN X0.here hx rfl (hb hby at_32) rfl ?_
      show Steps p.tables e below (s₁.setTop (mkF m 33 #[.val (.long q1), .second, .val (.long q2), .second, .val (.int p3), .val (.long ((1 : Int64) + ((q1 &&& (9223372036854775807 : Int64)) - ((q1 &&& (9223372036854775807 : Int64)) / (4294967295 : Int64)) * (4294967295 : Int64)))), .second, .unset, .unset, .unset, .unset] [(.long q2)])) _
      refine X0.ldc2Long hx hown (mvT hZ (hw _ (List.mem_of_getElem? (i := 1) rfl))) (g := (mkF m 33 #[.val (.long q1), .second, .val (.long q2), .second, .val (.int p3), .val (.long ((1 : Int64) + ((q1 &&& (9223372036854775807 : Int64)) - ((q1 &&& (9223372036854775807 : Int64)) / (4294967295 : Int64)) * (4294967295 : Int64)))), .second, .unset, .unset, .unset, .unset] [(.long q2)])) rfl (hb hby at_33) _ ?_
      show Steps p.tables e below (s₁.setTop (mkF m 36 #[.val (.long q1), .second, .val (.long q2), .second, .val (.int p3), .val (.long ((1 : Int64) + ((q1 &&& (9223372036854775807 : Int64)) - ((q1 &&& (9223372036854775807 : Int64)) / (4294967295 : Int64)) * (4294967295 : Int64)))), .second, .unset, .unset, .unset, .unset] [(.long (4294967295 : Int64)), (.long q2)])) _
      refine XT.land X0.here hx rfl (hb hby at_36) rfl ?_
      exact uK
    exact own_t37 q1 q2 (q2 &&& (4294967295 : Int64)) p3 h0 (own_t2 q2).1 (own_t2 q2).2 K X0 e0 N0 Z0
  · refine own_st (T' := s₁) (g' := (mkF m 37 #[.val (.long q1), .second, .val (.long q2), .second, .val (.int p3), .val (.long ((1 : Int64) + ((q1 &&& (9223372036854775807 : Int64)) - ((q1 &&& (9223372036854775807 : Int64)) / (4294967295 : Int64)) * (4294967295 : Int64)))), .second, .unset, .unset, .unset, .unset] [(.long ((4294967295 : Int64) - (q2 &&& (7 : Int64))))])) (fun uT uK => ?_) ?_
    · show Steps p.tables e below (s₁.setTop (mkF m 17 #[.val (.long q1), .second, .val (.long q2), .second, .val (.int p3), .val (.long ((1 : Int64) + ((q1 &&& (9223372036854775807 : Int64)) - ((q1 &&& (9223372036854775807 : Int64)) / (4294967295 : Int64)) * (4294967295 : Int64)))), .second, .unset, .unset, .unset, .unset] [(.int (p3 &&& (1 : Int32)))])) _
      refine XS.ifNo X0.here hx rfl (hb hby at_17) rfl (XT.i0_eq_f hc17) ?_
      show Steps p.tables e below (s₁.setTop (mkF m 20 #[.val (.long q1), .second, .val (.long q2), .second, .val (.int p3), .val (.long ((1 : Int64) + ((q1 &&& (9223372036854775807 : Int64)) - ((q1 &&& (9223372036854775807 : Int64)) / (4294967295 : Int64)) * (4294967295 : Int64)))), .second, .unset, .unset, .unset, .unset] [])) _
      refine X0.ldc2Long hx hown (mvT hZ (hw _ (List.mem_of_getElem? (i := 1) rfl))) (g := (mkF m 20 #[.val (.long q1), .second, .val (.long q2), .second, .val (.int p3), .val (.long ((1 : Int64) + ((q1 &&& (9223372036854775807 : Int64)) - ((q1 &&& (9223372036854775807 : Int64)) / (4294967295 : Int64)) * (4294967295 : Int64)))), .second, .unset, .unset, .unset, .unset] [])) rfl (hb hby at_20) _ ?_
      show Steps p.tables e below (s₁.setTop (mkF m 23 #[.val (.long q1), .second, .val (.long q2), .second, .val (.int p3), .val (.long ((1 : Int64) + ((q1 &&& (9223372036854775807 : Int64)) - ((q1 &&& (9223372036854775807 : Int64)) / (4294967295 : Int64)) * (4294967295 : Int64)))), .second, .unset, .unset, .unset, .unset] [(.long (4294967295 : Int64))])) _
      refine XT.lloadN X0.here hx rfl (hb hby at_23) rfl ?_
      show Steps p.tables e below (s₁.setTop (mkF m 24 #[.val (.long q1), .second, .val (.long q2), .second, .val (.int p3), .val (.long ((1 : Int64) + ((q1 &&& (9223372036854775807 : Int64)) - ((q1 &&& (9223372036854775807 : Int64)) / (4294967295 : Int64)) * (4294967295 : Int64)))), .second, .unset, .unset, .unset, .unset] [(.long q2), (.long (4294967295 : Int64))])) _
      refine X0.ldc2Long hx hown (mvT hZ (hw _ (List.mem_of_getElem? (i := 31) rfl))) (g := (mkF m 24 #[.val (.long q1), .second, .val (.long q2), .second, .val (.int p3), .val (.long ((1 : Int64) + ((q1 &&& (9223372036854775807 : Int64)) - ((q1 &&& (9223372036854775807 : Int64)) / (4294967295 : Int64)) * (4294967295 : Int64)))), .second, .unset, .unset, .unset, .unset] [(.long q2), (.long (4294967295 : Int64))])) rfl (hb hby at_24) _ ?_
      show Steps p.tables e below (s₁.setTop (mkF m 27 #[.val (.long q1), .second, .val (.long q2), .second, .val (.int p3), .val (.long ((1 : Int64) + ((q1 &&& (9223372036854775807 : Int64)) - ((q1 &&& (9223372036854775807 : Int64)) / (4294967295 : Int64)) * (4294967295 : Int64)))), .second, .unset, .unset, .unset, .unset] [(.long (7 : Int64)), (.long q2), (.long (4294967295 : Int64))])) _
      refine XT.land X0.here hx rfl (hb hby at_27) rfl ?_
      show Steps p.tables e below (s₁.setTop (mkF m 28 #[.val (.long q1), .second, .val (.long q2), .second, .val (.int p3), .val (.long ((1 : Int64) + ((q1 &&& (9223372036854775807 : Int64)) - ((q1 &&& (9223372036854775807 : Int64)) / (4294967295 : Int64)) * (4294967295 : Int64)))), .second, .unset, .unset, .unset, .unset] [(.long (q2 &&& (7 : Int64))), (.long (4294967295 : Int64))])) _
      refine XT.lsub X0.here hx rfl (hb hby at_28) rfl ?_
      show Steps p.tables e below (s₁.setTop (mkF m 29 #[.val (.long q1), .second, .val (.long q2), .second, .val (.int p3), .val (.long ((1 : Int64) + ((q1 &&& (9223372036854775807 : Int64)) - ((q1 &&& (9223372036854775807 : Int64)) / (4294967295 : Int64)) * (4294967295 : Int64)))), .second, .unset, .unset, .unset, .unset] [(.long ((4294967295 : Int64) - (q2 &&& (7 : Int64))))])) _
      refine XS.goto X0.here hx rfl (pc0 := 29) (pc' := 37) rfl (hb hby at_29) (by decide) (by decide) ?_
      exact uK
    exact own_t37 q1 q2 ((4294967295 : Int64) - (q2 &&& (7 : Int64))) p3 h0 (own_t1 q2).1 (own_t1 q2).2 K X0 e0 N0 Z0
set_option maxRecDepth 65536 in
set_option maxHeartbeats 40000000 in
theorem comes_1 {Post : Tables → Env → Array Value → State → Outcome → State → Prop} (hpost : ∀ tb e args s v u, (limb_1_1.after args s (.returned v) u = true ∧ limb_1_2.after args s (.returned v) u = true ∧ True) → FrameEnd s (.returned v) u (Jvm.fieldLocs frame_1_writes args s ++ Jvm.arrayLocs frame_1_arrays args s ++ Jvm.staticLocs frame_1_statics s) 16 128 → Post tb e args s (.returned v) u) :
    ArmFor flags0 classFile x code maxLocals ret World_1 tables_1 room_1 Calls_1 rest_1 Pre_1 Post := by
  intro l hfl _ _ p e ha hc hk s m args below hf hA hF happ hP
  obtain ⟨hcalls, hrest, hpre⟩ := hP
  obtain ⟨-, -, -, hnamed, -, -, -, hat⟩ := (Spec.applies_iff hf).mp happ
  obtain ⟨hg, hn⟩ := and_e (Cond.before_iff.mp (show (Jvm.Cond.and given_1 narrow_1).before args s = true from hpre))
  obtain ⟨hcount, ha0⟩ := and_e hg
  obtain ⟨hv0, ha1⟩ := and_e ha0
  obtain ⟨hv1, ha2⟩ := and_e ha1
  have hv2 := ha2
  obtain ⟨w0, w1, w2, rfl⟩ : ∃ w0 w1 w2 : Value, args = #[w0, w1, w2] := by
    have hs : args.size = 3 := by simpa [Cond.value, given_1] using hcount
    obtain ⟨L⟩ := args
    match L, hs with
    | [w0, w1, w2], _ => exact ⟨w0, w1, w2, rfl⟩
  have hw := fun d (hd : d ∈ tables_1) => atoms_spec (ws := Jvm.Cond.code x code maxLocals ret :: tables_1) hat d (List.mem_cons_of_mem _ hd)
  obtain ⟨i0, ei0⟩ := isL_v hv0
  obtain rfl : w0 = (.long i0) := Option.some.inj ei0
  obtain ⟨i1, ei1⟩ := isL_v hv1
  obtain rfl : w1 = (.long i1) := Option.some.inj ei1
  obtain ⟨i2, ei2⟩ := is_v hv2
  obtain rfl : w2 = (.int i2) := Option.some.inj ei2
  obtain ⟨n, o, h1, h2, h3, _, L, rfl, ⟨rfl, N⟩, hq⟩ := rm0 l s _ hw tables_1 i0 i1 i2 s.heap s.heap.size (Nat.le_refl _) p e ha hc hk s m _ below hf ((Spec.applies_iff_loose hf).mp happ).1 ⟨rfl, State.Warmed39.refl s, rfl⟩ trivial
  refine ⟨n, _, h1, h2, h3, hpost _ _ _ _ _ _ ⟨Cond.after_iff.mpr rfl, Cond.after_iff.mpr (eq_i res_at (Term.int_eval (1)) rfl), trivial⟩ ⟨hq.1, hq.2.1, (hq.2.2.sift fun y hy => Or.inr (N y hy)).mono (by decide) (by decide)⟩⟩
theorem main_1_1 : Claimed_1_1 := comes_1 fun _ _ _ _ _ _ h hF => ⟨h.1, hF⟩
theorem main_1_2 : Claimed_1_2 := comes_1 fun _ _ _ _ _ _ h hF => ⟨h.2.1, hF⟩
end Jvm.Pilot.@@N@@
namespace Jvm.Pilot.@@N@@
open Jvm Jvm.ClassFile Sem Op Lib Jvm.Free Jvm.Stand Jvm.Pilot.@@N@@.Jvm.D
/-! MADE BY PROGRAM (witnessworld.py) out of the Statement's table words and the real class files: 10 classes; the members and pool entries that the words name. The judged class is class 1, her method 1. -/
namespace start1
open Jvm.ClassFile
def u (s : String) : CpInfo := .utf8 (stringToUtf16 s)
/-- a pool by its gaps: so many unusable entries, then the entry; so many at the end -/
def gap : Nat → List CpInfo → List CpInfo
  | 0, r => r
  | n + 1, r => .unusable :: gap n r
def poolList (es : List (Nat × CpInfo)) (last : Nat) : List CpInfo := es.foldr (fun e r => gap e.1 (e.2 :: r)) (gap last [])
def pool (es : List (Nat × CpInfo)) (last : Nat) : Array CpInfo := ⟨poolList es last⟩
def fileOf (pool : Array CpInfo) (this : Nat) (attrs : Array Attribute := #[]) (ms : Array MethodInfo := #[]) (fl : Nat := 33) (sup : Nat := 0) (ifs : Array Nat := #[]) (fds : Array FieldInfo := #[]) : ClassFile where
  minorVersion := 0
  majorVersion := 65
  constantPool := pool
  accessFlags := fl
  thisClass := this
  superClass := sup
  interfaces := ifs
  fields := fds
  methods := ms
  attributes := attrs
def plain (name : String) (sup : Option ClassId) : Class where
  name := name
  kind := .ordinary
  loader := none
  accessFlags := 33
  super := sup
  interfaces := #[]
  cf := none
  fields := #[]
  methods := #[]
  instanceTypes := #[]
  staticTypes := #[]
  resolved := #[]
  callSites := []
  init := .initialized
  statics := none
  mirror := none

def pool0 : Array CpInfo := pool [(5, u "<init>"), (0, u "()V"), (1, .class_ 10), (1, u "java/lang/Object")] 113

def k0c0 : Code := { maxStack := 0, maxLocals := 1, code := object_method_1_code, exceptionTable := #[], attributes := #[] }
def k0m0 : Method := { name := "<init>", desc := "()V", sig := { parameters := [], returnType := none }, accessFlags := 1, code := some k0c0 }
/-- java/lang/Object -/
def k0 : Class := { plain "java/lang/Object" none with
  accessFlags := 33
  interfaces := #[]
  cf := some (fileOf pool0 8 #[] #[{ accessFlags := 1, nameIndex := 5, descriptorIndex := 6, attributes := #[] }] 33 0 #[] #[])
  fields := #[]
  methods := #[k0m0]
  instanceTypes := #[]
  staticTypes := #[]
  resolved := Array.replicate 124 none
  statics := none }

def pool1 : Array CpInfo := pool [(2, .class_ 4), (1, u "java/lang/Object"), (0, u "<init>"), (0, u "()V"), (0, .long 9223372036854775807), (1, .long 4294967295), (1, .long 7), (1, .class_ 14), (0, u "com/example/cachemesh/cachemesh/core/Custody"), (0, .methodref 13 16), (0, .nameAndType 5 17), (0, u "(JJ)V"), (0, .methodref 13 19), (0, .nameAndType 20 21), (0, u "canPass"), (0, u "()Z"), (0, .class_ 23), (0, u "com/example/cachemesh/cachemesh/core/CustodyCanPassPinLaw"), (2, u "law"), (0, u "(JJI)Z")] 3

def k1m0 : Method := { name := "<init>", desc := "()V", sig := { parameters := [], returnType := none }, accessFlags := 1, code := none }
def k1c1 : Code := { maxStack := 6, maxLocals := 11, code := code, exceptionTable := #[], attributes := #[] }
def k1m1 : Method := { name := "law", desc := "(JJI)Z", sig := { parameters := [.long, .long, .int], returnType := some .boolean }, accessFlags := 9, code := some k1c1 }
/-- com/example/cachemesh/cachemesh/core/CustodyCanPassPinLaw -/
def k1 : Class := { plain "com/example/cachemesh/cachemesh/core/CustodyCanPassPinLaw" (some 0) with
  accessFlags := 49
  interfaces := #[]
  cf := some (fileOf pool1 22 #[] #[{ accessFlags := 1, nameIndex := 5, descriptorIndex := 6, attributes := #[] }, { accessFlags := 9, nameIndex := 26, descriptorIndex := 27, attributes := #[] }] 49 2 #[] #[])
  fields := #[]
  methods := #[k1m0, k1m1]
  instanceTypes := #[]
  staticTypes := #[]
  resolved := Array.replicate 31 none
  statics := none }

def pool2 : Array CpInfo := pool [(1, .methodref 2 3), (0, .class_ 4), (0, .nameAndType 5 6), (0, u "java/lang/Object"), (0, u "<init>"), (0, u "()V"), (0, .class_ 8), (0, u "java/lang/Record")] 13

def k2c0 : Code := { maxStack := 1, maxLocals := 1, code := jdk_30_method_1_code, exceptionTable := #[], attributes := #[] }
def k2m0 : Method := { name := "<init>", desc := "()V", sig := { parameters := [], returnType := none }, accessFlags := 4, code := some k2c0 }
/-- java/lang/Record -/
def k2 : Class := { plain "java/lang/Record" (some 0) with
  accessFlags := 1057
  interfaces := #[]
  cf := some (fileOf pool2 7 #[] #[{ accessFlags := 4, nameIndex := 5, descriptorIndex := 6, attributes := #[] }] 1057 2 #[] #[])
  fields := #[]
  methods := #[k2m0]
  instanceTypes := #[]
  staticTypes := #[]
  resolved := Array.replicate 22 none
  statics := none }

def pool3 : Array CpInfo := pool [(1, .class_ 2), (0, u "java/lang/Comparable"), (0, .class_ 4), (0, u "java/lang/Object")] 7

/-- java/lang/Comparable -/
def k3 : Class := { plain "java/lang/Comparable" (some 0) with
  accessFlags := 1537
  interfaces := #[]
  cf := some (fileOf pool3 1 #[] #[] 1537 3 #[] #[])
  fields := #[]
  methods := #[]
  instanceTypes := #[]
  staticTypes := #[]
  resolved := Array.replicate 12 none
  statics := none }

def pool4 : Array CpInfo := pool [(1, .methodref 2 3), (0, .class_ 4), (0, .nameAndType 5 6), (0, u "java/lang/Record"), (0, u "<init>"), (0, u "()V"), (0, .methodref 8 9), (0, .class_ 10), (0, .nameAndType 11 12), (0, u "com/example/cachemesh/cachemesh/core/Limits"), (0, u "serverId"), (0, u "(J)J"), (0, .class_ 14), (0, u "com/example/cachemesh/cachemesh/core/Custody"), (0, .long 4294967295), (8, .fieldref 13 25), (0, .nameAndType 26 27), (0, u "owner"), (0, u "J"), (0, .fieldref 13 29), (0, .nameAndType 30 27), (0, u "takeovers"), (8, u "(JJ)V"), (32, .class_ 73), (0, u "java/lang/Comparable"), (0, u "MAX_TAKEOVERS"), (7, u "canPass"), (0, u "()Z")] 28

def k4c0 : Code := { maxStack := 4, maxLocals := 5, code := prog_39_method_1_code, exceptionTable := #[], attributes := #[] }
def k4m0 : Method := { name := "<init>", desc := "(JJ)V", sig := { parameters := [.long, .long], returnType := none }, accessFlags := 1, code := some k4c0 }
def k4c1 : Code := { maxStack := 4, maxLocals := 1, code := prog_39_method_4_code, exceptionTable := #[], attributes := #[] }
def k4m1 : Method := { name := "canPass", desc := "()Z", sig := { parameters := [], returnType := some .boolean }, accessFlags := 0, code := some k4c1 }
/-- com/example/cachemesh/cachemesh/core/Custody -/
def k4 : Class := { plain "com/example/cachemesh/cachemesh/core/Custody" (some 2) with
  accessFlags := 49
  interfaces := #[3]
  cf := some (fileOf pool4 13 #[] #[{ accessFlags := 1, nameIndex := 5, descriptorIndex := 39, attributes := #[] }, { accessFlags := 0, nameIndex := 82, descriptorIndex := 83, attributes := #[] }] 49 2 #[72] #[{ accessFlags := 18, nameIndex := 26, descriptorIndex := 27, attributes := #[] }, { accessFlags := 18, nameIndex := 30, descriptorIndex := 27, attributes := #[] }, { accessFlags := 25, nameIndex := 74, descriptorIndex := 27, attributes := #[] }])
  fields := #[{ name := "owner", type := .long, accessFlags := 18, slot := 0, constantValue := 0 }, { name := "takeovers", type := .long, accessFlags := 18, slot := 1, constantValue := 0 }, { name := "MAX_TAKEOVERS", type := .long, accessFlags := 25, slot := 0, constantValue := 0 }]
  methods := #[k4m0, k4m1]
  instanceTypes := #[.long, .long]
  staticTypes := #[.long]
  resolved := Array.replicate 112 none
  statics := none }

def pool5 : Array CpInfo := pool [(2, .class_ 4), (1, u "java/lang/Object"), (0, u "<init>"), (0, u "()V"), (10, .class_ 18), (0, u "com/example/cachemesh/cachemesh/core/Limits"), (23, .long 4294967295), (17, u "MAX_GROUP_CHARS"), (0, u "I"), (2, u "MAX_KEY_BYTES"), (1, u "MAX_VALUE_BYTES"), (1, u "MAX_LIFETIME_SECONDS"), (1, u "MAX_SERVER_ID"), (0, u "J"), (9, u "serverId"), (0, u "(J)J")] 2

def k5m0 : Method := { name := "<init>", desc := "()V", sig := { parameters := [], returnType := none }, accessFlags := 2, code := none }
def k5c1 : Code := { maxStack := 4, maxLocals := 2, code := prog_47_method_6_code, exceptionTable := #[], attributes := #[] }
def k5m1 : Method := { name := "serverId", desc := "(J)J", sig := { parameters := [.long], returnType := some .long }, accessFlags := 9, code := some k5c1 }
/-- com/example/cachemesh/cachemesh/core/Limits -/
def k5 : Class := { plain "com/example/cachemesh/cachemesh/core/Limits" (some 0) with
  accessFlags := 49
  interfaces := #[]
  cf := some (fileOf pool5 17 #[] #[{ accessFlags := 2, nameIndex := 5, descriptorIndex := 6, attributes := #[] }, { accessFlags := 9, nameIndex := 81, descriptorIndex := 82, attributes := #[] }] 49 2 #[] #[{ accessFlags := 25, nameIndex := 60, descriptorIndex := 61, attributes := #[] }, { accessFlags := 25, nameIndex := 64, descriptorIndex := 61, attributes := #[] }, { accessFlags := 25, nameIndex := 66, descriptorIndex := 61, attributes := #[] }, { accessFlags := 25, nameIndex := 68, descriptorIndex := 61, attributes := #[] }, { accessFlags := 25, nameIndex := 70, descriptorIndex := 71, attributes := #[] }])
  fields := #[{ name := "MAX_GROUP_CHARS", type := .int, accessFlags := 25, slot := 0, constantValue := 0 }, { name := "MAX_KEY_BYTES", type := .int, accessFlags := 25, slot := 1, constantValue := 0 }, { name := "MAX_VALUE_BYTES", type := .int, accessFlags := 25, slot := 2, constantValue := 0 }, { name := "MAX_LIFETIME_SECONDS", type := .int, accessFlags := 25, slot := 3, constantValue := 0 }, { name := "MAX_SERVER_ID", type := .long, accessFlags := 25, slot := 4, constantValue := 0 }]
  methods := #[k5m0, k5m1]
  instanceTypes := #[]
  staticTypes := #[.int, .int, .int, .int, .long]
  resolved := Array.replicate 85 none
  statics := none }

def pool6 : Array CpInfo := pool [(1, u "java/lang/Cloneable"), (0, .class_ 1), (0, u "java/lang/Object"), (0, .class_ 3)] 3

/-- java/lang/Cloneable -/
def k6 : Class := { plain "java/lang/Cloneable" (some 0) with
  accessFlags := 1537
  interfaces := #[]
  cf := some (fileOf pool6 2 #[] #[] 1537 4 #[] #[])
  fields := #[]
  methods := #[]
  instanceTypes := #[]
  staticTypes := #[]
  resolved := Array.replicate 8 none
  statics := none }

def pool7 : Array CpInfo := pool [(1, u "java/io/Serializable"), (0, .class_ 1), (0, u "java/lang/Object"), (0, .class_ 3)] 3

/-- java/io/Serializable -/
def k7 : Class := { plain "java/io/Serializable" (some 0) with
  accessFlags := 1537
  interfaces := #[]
  cf := some (fileOf pool7 2 #[] #[] 1537 4 #[] #[])
  fields := #[]
  methods := #[]
  instanceTypes := #[]
  staticTypes := #[]
  resolved := Array.replicate 8 none
  statics := none }

/-- the primitive byte -/
def k8 : Class := { plain "byte" none with kind := .primitive 'B', accessFlags := 0x411 }
/-- [B -/
def k9 : Class := { plain "[B" (some 0) with kind := .array 8 .byte, interfaces := #[6, 7], accessFlags := 1041 }

def heap : Heap := #[]
def classes : Array Class := #[k0, k1, k2, k3, k4, k5, k6, k7, k8, k9]
def interned : List (Array UInt16 × Addr) := []
def slotsUsed : Nat := 0
def theMethod : MethodId := ⟨1, 1⟩
def args0 : Array Value := #[.long 5, .long 6, .int 1]
def aboutOver (below : List Frame) : State where
  vm := { classes := classes, interned := interned.toArray }
  heap := heap
  slotsUsed := slotsUsed
  threads := #[{ frames := .invoking theMethod args0 :: below }]
def below0 : List Frame := [.native { method := ⟨0, 0⟩, args := #[] }]
def about1 : State := aboutOver below0
def p0 : Program := .bare "" "" ""
def e0 : Env := launch0.env 0 0 0
theorem w_frames : about1.frames = Frame.invoking theMethod args0 :: below0 := rfl
set_option maxRecDepth 65536 in
theorem w_args : argsFit about1.vm theMethod args0 = true := by decide +kernel
set_option maxRecDepth 65536 in
theorem w_heap : heapFits about1 = true := by decide +kernel
set_option maxRecDepth 65536 in
theorem w_runnable : about1.curStatus? = some .runnable := by decide +kernel
set_option maxRecDepth 65536 in
theorem w_alone : about1.alone = true := by decide +kernel
set_option maxRecDepth 65536 in
theorem w_named : about1.methodNamed? x = some theMethod := by decide +kernel
set_option maxRecDepth 65536 in
theorem w_hears : about1.hears theMethod below0 = true := by decide +kernel
set_option maxRecDepth 65536 in
theorem w_ripe : about1.ripe theMethod args0 below0 = true := by decide +kernel
theorem w_running : about1.status = .running := rfl
set_option maxRecDepth 65536 in
theorem w_room : about1.hasRoom e0.platform room_1 = true :=
  launch0.hasRoom_least _ room_1 (by decide +kernel) (by decide +kernel) (by decide +kernel) (by decide +kernel) (by decide +kernel) (by decide +kernel)
theorem allAtoms_all (ts : List Jvm.Cond) (a : Array Jvm.Value) (st : Jvm.State) : (allAtoms ts).before a st = ts.all (fun c => c.before a st) := by
  induction ts with
  | nil => rfl
  | cons c t ih =>
    show (Jvm.Cond.and c (allAtoms t)).before a st = _
    rw [Jvm.Cond.before_and, ih, List.all_cons]
def words1 : List Jvm.Cond := Jvm.Cond.code x code maxLocals ret :: tables_1
/-- a 'code' word, met by the world's own term for the bytes: nothing is compared byte by byte -/
theorem code_word {y : MethodName} {bytes : ByteArray} {mx : Nat} {rt : Option FieldType} {a : Array Value} {s : State} {m : MethodId} {meth : Method} {c : Code} (h1 : s.methodNamed? y = some m) (h2 : s.vm.method? m = some meth) (h3 : meth.code = some c) (h4 : c.code = bytes)
    (h5 : (c.maxLocals == mx && c.exceptionTable.isEmpty && decide (c.maxStack ≤ mostOperands) && decide (meth.sig.returnType = rt) && !meth.locks && decide (parseMethodDescriptor y.desc = some meth.sig)) = true) : (Jvm.Cond.code y bytes mx rt).before a s = true := by
  simp only [Bool.and_eq_true, beq_iff_eq, Bool.not_eq_true', decide_eq_true_eq] at h5
  obtain ⟨⟨⟨⟨⟨g1, g2⟩, g3⟩, g4⟩, g5⟩, g6⟩ := h5
  simp [Cond.before, Cond.holds, Cond.value, h1, h2, h3, h4, g1, g2, g3, g4, g5, g6]
def isCode : Jvm.Cond → Bool
  | .code _ _ _ _ => true
  | _ => false
theorem all_split {L : List Jvm.Cond} {P : Jvm.Cond → Bool} (h1 : L.all (fun c => isCode c || P c) = true) (h2 : ∀ c ∈ L.filter isCode, P c = true) : L.all P = true := by
  refine List.all_eq_true.mpr fun c hc => ?_
  have h := List.all_eq_true.mp h1 c hc
  rcases Bool.eq_false_or_eq_true (isCode c) with hi | hi
  · exact h2 c (List.mem_filter.mpr ⟨hc, hi⟩)
  · simpa [hi] using h
set_option maxRecDepth 65536 in
theorem w_c0 : (Jvm.Cond.code x code maxLocals ret).before args0 about1 = true := code_word (m := ⟨1, 1⟩) (meth := k1m1) (c := k1c1) (by decide +kernel) rfl rfl rfl (by decide +kernel)
set_option maxRecDepth 65536 in
theorem w_c1 : (Jvm.Cond.code ({ cls := "com/example/cachemesh/cachemesh/core/Custody", name := "<init>", desc := "(JJ)V" } : Jvm.MethodName) prog_39_method_1_code (5 : Nat) (Option.none : Option Jvm.ClassFile.FieldType)).before args0 about1 = true := code_word (m := ⟨4, 0⟩) (meth := k4m0) (c := k4c0) (by decide +kernel) rfl rfl rfl (by decide +kernel)
set_option maxRecDepth 65536 in
theorem w_c2 : (Jvm.Cond.code ({ cls := "java/lang/Record", name := "<init>", desc := "()V" } : Jvm.MethodName) jdk_30_method_1_code (1 : Nat) (Option.none : Option Jvm.ClassFile.FieldType)).before args0 about1 = true := code_word (m := ⟨2, 0⟩) (meth := k2m0) (c := k2c0) (by decide +kernel) rfl rfl rfl (by decide +kernel)
set_option maxRecDepth 65536 in
theorem w_c3 : (Jvm.Cond.code ({ cls := "java/lang/Object", name := "<init>", desc := "()V" } : Jvm.MethodName) object_method_1_code (1 : Nat) (Option.none : Option Jvm.ClassFile.FieldType)).before args0 about1 = true := code_word (m := ⟨0, 0⟩) (meth := k0m0) (c := k0c0) (by decide +kernel) rfl rfl rfl (by decide +kernel)
set_option maxRecDepth 65536 in
theorem w_c4 : (Jvm.Cond.code ({ cls := "com/example/cachemesh/cachemesh/core/Limits", name := "serverId", desc := "(J)J" } : Jvm.MethodName) prog_47_method_6_code (2 : Nat) (Option.some Jvm.ClassFile.FieldType.long)).before args0 about1 = true := code_word (m := ⟨5, 1⟩) (meth := k5m1) (c := k5c1) (by decide +kernel) rfl rfl rfl (by decide +kernel)
set_option maxRecDepth 65536 in
theorem w_c5 : (Jvm.Cond.code ({ cls := "com/example/cachemesh/cachemesh/core/Custody", name := "canPass", desc := "()Z" } : Jvm.MethodName) prog_39_method_4_code (1 : Nat) (Option.some Jvm.ClassFile.FieldType.boolean)).before args0 about1 = true := code_word (m := ⟨4, 1⟩) (meth := k4m1) (c := k4c1) (by decide +kernel) rfl rfl rfl (by decide +kernel)
def codes1 : List Jvm.Cond := [Jvm.Cond.code x code maxLocals ret, Jvm.Cond.code ({ cls := "com/example/cachemesh/cachemesh/core/Custody", name := "<init>", desc := "(JJ)V" } : Jvm.MethodName) prog_39_method_1_code (5 : Nat) (Option.none : Option Jvm.ClassFile.FieldType), Jvm.Cond.code ({ cls := "java/lang/Record", name := "<init>", desc := "()V" } : Jvm.MethodName) jdk_30_method_1_code (1 : Nat) (Option.none : Option Jvm.ClassFile.FieldType), Jvm.Cond.code ({ cls := "java/lang/Object", name := "<init>", desc := "()V" } : Jvm.MethodName) object_method_1_code (1 : Nat) (Option.none : Option Jvm.ClassFile.FieldType), Jvm.Cond.code ({ cls := "com/example/cachemesh/cachemesh/core/Limits", name := "serverId", desc := "(J)J" } : Jvm.MethodName) prog_47_method_6_code (2 : Nat) (Option.some Jvm.ClassFile.FieldType.long), Jvm.Cond.code ({ cls := "com/example/cachemesh/cachemesh/core/Custody", name := "canPass", desc := "()Z" } : Jvm.MethodName) prog_39_method_4_code (1 : Nat) (Option.some Jvm.ClassFile.FieldType.boolean)]
set_option maxRecDepth 65536 in
theorem codes_eq : words1.filter isCode = codes1 := rfl
theorem w_codes : ∀ c ∈ words1.filter isCode, c.before args0 about1 = true := by
  rw [codes_eq]
  intro c hc
  simp only [codes1, List.mem_cons, List.not_mem_nil, or_false] at hc
  rcases hc with rfl | rfl | rfl | rfl | rfl | rfl
  · exact w_c0
  · exact w_c1
  · exact w_c2
  · exact w_c3
  · exact w_c4
  · exact w_c5
set_option maxRecDepth 65536 in
theorem w_t1 : (words1.take 24).all (fun c => isCode c || c.before args0 about1) = true := by decide +kernel
set_option maxRecDepth 65536 in
theorem w_t2 : (words1.drop 24).all (fun c => isCode c || c.before args0 about1) = true := by decide +kernel
theorem w_tables : (allAtoms (Jvm.Cond.code x code maxLocals ret :: tables_1)).before args0 about1 = true := by
  rw [allAtoms_all]
  show words1.all (fun c => c.before args0 about1) = true
  refine all_split ?_ w_codes
  rw [← List.take_append_drop 24 words1, List.all_append, w_t1, w_t2]
  rfl
set_option maxRecDepth 65536 in
theorem w_case : (Jvm.Cond.and given_1 narrow_1).before args0 about1 = true := by decide +kernel
theorem w_applies : (headSpec (Jvm.Cond.code x code maxLocals ret :: tables_1) room_1).applies x e0.platform about1 = true :=
  (Spec.applies_iff w_frames).mpr ⟨w_running, w_runnable, w_alone, w_named, w_hears, w_ripe, w_room, w_tables⟩
theorem atStart : AtStart classFile x code maxLocals ret World_1 tables_1 room_1 Calls_1 rest_1 Pre_1 launch0 p0 e0 about1 theMethod args0 below0 :=
  ⟨lists_1, trivial, launch0.admits_env _ _ _, launch0.least_env, fairChoices_fair.cas, fairChoices_fair.clock, w_frames, w_args, w_heap, w_applies, trivial, trivial, w_case⟩
end start1
theorem witness_1 : WitnessClaimed_1 := ⟨start1.p0, start1.e0, start1.about1, start1.theMethod, start1.args0, start1.below0, start1.atStart⟩
end Jvm.Pilot.@@N@@
