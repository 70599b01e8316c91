import JvmDerived
import JvmDerived.Pilot.@@N@@Statement
import JvmDerived.Pilot.@@N@@Code
set_option linter.unusedVariables false
set_option linter.unusedSimpArgs false
@@BLOCK:NumsL.lean.txt@@
namespace Jvm.Pilot.@@N@@
open Jvm Jvm.ClassFile Sem Op Lib Jvm.Free Jvm.Stand Jvm.LawKit Jvm.RoadKit Bundle Jvm.Pilot.@@N@@.Jvm.D
/-! OwnGo: from here the run ends, returning as Q says -/
def OwnGo (p : Program) (e : Env) (below : List Frame) (s : State) (C S : Nat) (Q : Option Value → Heap → List Loc → Prop) (T : State) (g : JFrame) : Prop :=
  ∃ s₂ o, Steps p.tables e below (T.setTop g) s₂ ∧ s₂.status = .running ∧ Ended s₂ below o ∧ ∃ v L, o = .returned v ∧ Q v s₂.heap L ∧ FrameEnd s o s₂ L C S
section OwnBase
variable {p : Program} {l : Launch} {e : Env} {R : Room} {s : State} {m : MethodId} {args : Array Value} {below : List Frame} {meth : Method} {c : Code} {T T' : State} {locs : List Loc} {cells slots C S : Nat} {Q : Option Value → Heap → List Loc → Prop} {g g' : JFrame}
theorem own_st (k : ∀ t, Steps p.tables e below (T'.setTop g') t → Steps p.tables e below (T.setTop g) t) (h : OwnGo p e below s C S Q T' g') : OwnGo p e below s C S Q T g := by
  obtain ⟨s₂, o, h1, h2⟩ := h
  exact ⟨s₂, o, k _ h1, h2⟩
theorem own_tr (k : Steps p.tables e below (T.setTop g) (T'.setTop g')) (h : OwnGo p e below s C S Q T' g') : OwnGo p e below s C S Q T g := by
  obtain ⟨s₂, o, h1, h2⟩ := h
  exact ⟨s₂, o, k.trans h1, h2⟩
theorem own_cast (q : g = g') (h : OwnGo p e below s C S Q T g') : OwnGo p e below s C S Q T g := q ▸ h
theorem own_ret {v : Option Value} (X : Stand p l e R s m args below meth c T locs cells slots) (hlk : meth.locks = false) (hv : meth.sig.returnType = none → v = none)
    (step : ∀ fs, (∀ (f : JFrame) (acts : List Action), f.method = m → f.locked = none → f.entered = [] → (doReturn e (T.setTop f) acts v).1 = T.setFrames fs) → Steps p.tables e below (T.setTop g) (T.setFrames fs))
    (hQ : Q v T.heap locs) (hc : cells ≤ C) (hs : slots ≤ S) : OwnGo p e below s C S Q T g := by
  obtain ⟨fs, hr, hrun, hended, hW, hsame⟩ := X.leave (v := v) hv hlk
  exact ⟨_, _, step fs hr, hrun, hended, v, locs, rfl, hQ, ⟨_, rfl⟩, hW, hsame.mono hc hs⟩
end OwnBase

def own_cap (p : Int32) : Int32 := if p < 65 then 0 else if 90 < p then 0 else 1
theorem own_j (k : Int32) : 0 ≤ ((k &&& 2147483647) % 26).toInt ∧ ((k &&& 2147483647) % 26).toInt < 26 := by
  have e1 : (k &&& 2147483647).toInt = k.toInt % 2 ^ 31 := Jvm.Kit.i32_mask k 2147483647 (k := 31) (by decide) (by decide)
  have e2 : ((k &&& 2147483647) % 26).toInt = (k &&& 2147483647).toInt % (26 : Int32).toInt := Jvm.Kit.i32_rem_nonneg (by omega)
  have e3 : (26 : Int32).toInt = 26 := rfl
  rw [e3] at e2
  omega
theorem own_letter (k : Int32) : (65 + (k &&& 2147483647) % 26).toInt = 65 + ((k &&& 2147483647) % 26).toInt := by
  have h := own_j k
  have e3 : (65 : Int32).toInt = 65 := rfl
  rw [Jvm.Kit.i32_add (by omega) (by omega), e3]
theorem own_yes (k : Int32) : ¬ own_cap (65 + (k &&& 2147483647) % 26) = 0 := by
  have h := own_j k
  have e := own_letter k
  have h1 : ¬ (65 + (k &&& 2147483647) % 26) < (65 : Int32) := by rw [Int32.lt_iff_toInt_lt, e]; show ¬ _ < (65 : Int); omega
  have h2 : ¬ (90 : Int32) < (65 + (k &&& 2147483647) % 26) := by rw [Int32.lt_iff_toInt_lt, e]; show ¬ (90 : Int) < _; omega
  rw [own_cap, if_neg h1, if_neg h2]; decide
theorem own_no (k : Int32) : own_cap (65 + (k &&& 2147483647) % 26 + 32) = 0 := by
  have h := own_j k
  have e := own_letter k
  have e3 : (32 : Int32).toInt = 32 := rfl
  have e' : (65 + (k &&& 2147483647) % 26 + 32).toInt = 97 + ((k &&& 2147483647) % 26).toInt := by
    rw [Jvm.Kit.i32_add (by omega) (by omega), e, e3]; omega
  have h1 : ¬ (65 + (k &&& 2147483647) % 26 + 32) < (65 : Int32) := by rw [Int32.lt_iff_toInt_lt, e']; show ¬ _ < (65 : Int); omega
  have h2 : (90 : Int32) < (65 + (k &&& 2147483647) % 26 + 32) := by rw [Int32.lt_iff_toInt_lt, e']; show (90 : Int) < _; omega
  rw [own_cap, if_neg h1, if_pos h2]
theorem own_d (c : Int32) : (c.toInt64 - 65).toInt = c.toInt - 65 := by
  have a := c.toInt_lt; have b := c.le_toInt
  have e1 : c.toInt64.toInt = c.toInt := Jvm.Kit.i64_of_i32 c
  have e3 : (65 : Int64).toInt = 65 := rfl
  rw [Jvm.Kit.i64_sub (by omega) (by omega), e1, e3]
theorem own_low (c : Int32) (h : c.toInt64 - 65 < 0) : own_cap c = 0 := by
  rw [Int64.lt_iff_toInt_lt, own_d] at h
  have h0 : c.toInt - 65 < (0 : Int) := h
  have h1 : c < (65 : Int32) := by rw [Int32.lt_iff_toInt_lt]; show _ < (65 : Int); omega
  rw [own_cap, if_pos h1]
theorem own_mid (c : Int32) (h : ¬ c.toInt64 - 65 < 0) (h2 : c.toInt64 - 65 < 26) : own_cap c = 1 := by
  rw [Int64.lt_iff_toInt_lt, own_d] at h h2
  have h0 : ¬ c.toInt - 65 < (0 : Int) := h
  have h02 : c.toInt - 65 < (26 : Int) := h2
  have h1 : ¬ c < (65 : Int32) := by rw [Int32.lt_iff_toInt_lt]; show ¬ _ < (65 : Int); omega
  have h3 : ¬ (90 : Int32) < c := by rw [Int32.lt_iff_toInt_lt]; show ¬ (90 : Int) < _; omega
  rw [own_cap, if_neg h1, if_neg h3]
theorem own_high (c : Int32) (h : ¬ c.toInt64 - 65 < 0) (h2 : ¬ c.toInt64 - 65 < 26) : own_cap c = 0 := by
  rw [Int64.lt_iff_toInt_lt, own_d] at h h2
  have h0 : ¬ c.toInt - 65 < (0 : Int) := h
  have h02 : ¬ c.toInt - 65 < (26 : Int) := h2
  have h1 : ¬ c < (65 : Int32) := by rw [Int32.lt_iff_toInt_lt]; show ¬ _ < (65 : Int); omega
  have h3 : (90 : Int32) < c := by rw [Int32.lt_iff_toInt_lt]; show (90 : Int) < _; omega
  rw [own_cap, if_neg h1, if_pos h3]
theorem d1_0 : decode prog_108_method_3_code 0 = .ok (.iload_n 0, 1) := by decide +kernel
theorem d1_1 : decode prog_108_method_3_code 1 = .ok (.bipush 65, 2) := by decide +kernel
theorem d1_3 : decode prog_108_method_3_code 3 = .ok (.if_icmp .lt 13, 3) := by decide +kernel
theorem d1_6 : decode prog_108_method_3_code 6 = .ok (.iload_n 0, 1) := by decide +kernel
theorem d1_7 : decode prog_108_method_3_code 7 = .ok (.bipush 90, 2) := by decide +kernel
theorem d1_9 : decode prog_108_method_3_code 9 = .ok (.if_icmp .gt 7, 3) := by decide +kernel
theorem d1_12 : decode prog_108_method_3_code 12 = .ok (.iconst 1, 1) := by decide +kernel
theorem d1_13 : decode prog_108_method_3_code 13 = .ok (.goto 4, 3) := by decide +kernel
theorem d1_16 : decode prog_108_method_3_code 16 = .ok (.iconst 0, 1) := by decide +kernel
theorem d1_17 : decode prog_108_method_3_code 17 = .ok (.ireturn, 1) := by decide +kernel
theorem pn_1 : plainName "com/example/ledgerwire/ledgerwire/paymentlist/Ascii" = true := by first | (simp [plainName, overriddenIn]; done) | decide +kernel
theorem pn_0 : plainName "com/example/ledgerwire/ledgerwire/paymentlist/AsciiIsCapitalPinLaw" = true := by first | (simp [plainName, overriddenIn]; done) | decide +kernel
def Ctx1 (p : Program) (s : State) (m : MethodId) (meth : Method) (c : Code) (Z : State) (a0 : Array Value) : Prop := p.tables.exec = Jvm.exec ∧ Z.Warmed39 s.vm ∧ (∀ d ∈ tables_1, d.before a0 Z = true) ∧ c.code = prog_108_method_3_code ∧ c.maxLocals = 1 ∧ s.vm.findClass "com/example/ledgerwire/ledgerwire/paymentlist/Ascii" = some m.cls ∧ meth.sig.returnType = (some .boolean) ∧ meth.locks = false ∧ meth.name = "isCapital"
def Ctx0 (p : Program) (s : State) (m : MethodId) (meth : Method) (c : Code) (Z : State) (a0 : Array Value) : Prop := p.tables.exec = Jvm.exec ∧ Z.Warmed39 s.vm ∧ (∀ d ∈ tables_1, d.before a0 Z = true) ∧ c.code = code ∧ c.maxLocals = 8 ∧ s.vm.findClass "com/example/ledgerwire/ledgerwire/paymentlist/AsciiIsCapitalPinLaw" = some m.cls ∧ meth.sig.returnType = ret ∧ meth.locks = false ∧ meth.name = "law"
theorem own_pd0 : parseMethodDescriptor "(I)Z" = some ⟨[.int], some .boolean⟩ := by decide +kernel
def Q1 (Z : State) (p1 : Int32) (h0 : Heap) (n0 : Nat) (v : Option Value) (h : Heap) (L : List Loc) : Prop := v = some (.int (own_cap p1)) ∧ Fr n0 L ∧ h = h0
theorem own_ef_rm1 (m : MethodId) (x0 : Int32) : entryFrame m #[(.int x0)] 1 = mkF m 0 #[.val (.int x0)] [] := by first | (simp [entryFrame, mkF, argsToLocals, Value.category]; done) | rfl
set_option maxRecDepth 65536 in
set_option maxHeartbeats 40000000 in
theorem rm1 (l : Launch) (Z : State) (a0 : Array Value) (hw : ∀ d ∈ tables_1, d.before a0 Z = true) (ws : List Jvm.Cond) (p1 : Int32) (h0 : Heap) (n0 : Nat) (Z0 : n0 ≤ h0.size) :
    MetFree l (⟨"com/example/ledgerwire/ledgerwire/paymentlist/Ascii", "isCapital", "(I)Z"⟩ : MethodName) (head1 (Jvm.Cond.code (⟨"com/example/ledgerwire/ledgerwire/paymentlist/Ascii", "isCapital", "(I)Z"⟩ : MethodName) prog_108_method_3_code 1 (some .boolean) :: ws) ({ frames := 0, cells := 0, slots := 0, locals := 0 } : Room)) (fun aQ UQ => aQ = #[(.int p1)] ∧ Z.Warmed39 UQ.vm ∧ UQ.heap = h0) (fun _ _ _ _ _ => True) (fun _ UQ oQ UR => ∃ vQ LQ, oQ = .returned vQ ∧ Q1 Z p1 h0 n0 vQ UR.heap LQ ∧ FrameEnd UQ oQ UR LQ ({ frames := 0, cells := 0, slots := 0, locals := 0 } : Room).cells ({ frames := 0, cells := 0, slots := 0, locals := 0 } : Room).slots) := by
  refine MetFree.of_bodySF (plainFor_of_name pn_1) hisR ?_
  intro p e s m args below meth c s₁ Bd hml0 hP hK
  obtain ⟨rfl, hZ, hh⟩ := hP
  have hx := Bd.exec
  have hby := Bd.bytes
  have hml : c.maxLocals = 1 := hml0
  have hown : s.vm.findClass "com/example/ledgerwire/ledgerwire/paymentlist/Ascii" = some m.cls := findClass_of_methodNamed Bd.named
  have hnm := (name_of_methodNamed Bd.named Bd.method).1
  have hret := Bd.returns
  have hlk : meth.locks = false := Bd.notSynchronized
  have X0 : Stand p l e ({ frames := 0, cells := 0, slots := 0, locals := 0 } : Room) s m #[(.int p1)] below meth c s₁ [] 0 0 := Stand.of_body Bd
  have e0 : s₁.heap = h0 := by rw [← hh, Bd.state]; rfl
  have N0 := Fr.nil n0
  have K : Ctx1 p s m meth c Z a0 := ⟨hx, hZ, hw, hby, hml, hown, hret, hlk, hnm⟩
  show OwnGo p e below s ({ frames := 0, cells := 0, slots := 0, locals := 0 } : Room).cells ({ frames := 0, cells := 0, slots := 0, locals := 0 } : Room).slots (Q1 Z p1 h0 n0) s₁ (entryFrame m #[(.int p1)] 1)
  refine own_cast (own_ef_rm1 m p1) ?_
  show OwnGo p e below s _ _ _ s₁ (mkF m 0 #[.val (.int p1)] [])
  refine own_st (T' := s₁) (g' := (mkF m 3 #[.val (.int p1)] [(.int (65 : Int32)), (.int p1)])) (fun uT uK => ?_) ?_
  · show Steps p.tables e below (s₁.setTop (mkF m 0 #[.val (.int p1)] [])) _
    refine XS.iloadN X0.here hx rfl (hb hby d1_0) rfl ?_
    show Steps p.tables e below (s₁.setTop (mkF m 1 #[.val (.int p1)] [(.int p1)])) _
    refine XS.bipush X0.here hx rfl (hb hby d1_1) ?_
    exact uK
  by_cases hc3 : p1 < (65 : Int32)
  · refine own_st (T' := s₁) (g' := (mkF m 17 #[.val (.int p1)] [(.int (0 : Int32))])) (fun uT uK => ?_) ?_
    · show Steps p.tables e below (s₁.setTop (mkF m 3 #[.val (.int p1)] [(.int (65 : Int32)), (.int p1)])) _
      refine XS.icmpYes X0.here hx rfl (pc0 := 3) (pc' := 16) rfl (hb hby d1_3) rfl (XT.ii_lt_t hc3) (by decide) (by decide) ?_
      show Steps p.tables e below (s₁.setTop (mkF m 16 #[.val (.int p1)] [])) _
      refine XS.iconst X0.here hx rfl (hb hby d1_16) ?_
      exact uK
    exact own_ret (v := some (.int (0 : Int32))) X0 hlk (fun h => by rw [hret] at h; cases h) (fun fs hr => retOut X0 hx hret rfl (Or.inl ⟨rfl, by simp, _, rfl⟩) (hb hby d1_17) hr) (by rw [e0]; exact ⟨by first | rw [own_cap, if_pos hc3] | rw [own_cap, if_neg hc3, if_pos hc9] | rw [own_cap, if_neg hc3, if_neg hc9], N0, rfl⟩) (by decide) (by decide)
  · refine own_st (T' := s₁) (g' := (mkF m 9 #[.val (.int p1)] [(.int (90 : Int32)), (.int p1)])) (fun uT uK => ?_) ?_
    · show Steps p.tables e below (s₁.setTop (mkF m 3 #[.val (.int p1)] [(.int (65 : Int32)), (.int p1)])) _
      refine XS.icmpNo X0.here hx rfl (hb hby d1_3) rfl (XT.ii_lt_f hc3) ?_
      show Steps p.tables e below (s₁.setTop (mkF m 6 #[.val (.int p1)] [])) _
      refine XS.iloadN X0.here hx rfl (hb hby d1_6) rfl ?_
      show Steps p.tables e below (s₁.setTop (mkF m 7 #[.val (.int p1)] [(.int p1)])) _
      refine XS.bipush X0.here hx rfl (hb hby d1_7) ?_
      exact uK
    by_cases hc9 : (90 : Int32) < p1
    · refine own_st (T' := s₁) (g' := (mkF m 17 #[.val (.int p1)] [(.int (0 : Int32))])) (fun uT uK => ?_) ?_
      · show Steps p.tables e below (s₁.setTop (mkF m 9 #[.val (.int p1)] [(.int (90 : Int32)), (.int p1)])) _
        refine XS.icmpYes X0.here hx rfl (pc0 := 9) (pc' := 16) rfl (hb hby d1_9) rfl (XT.ii_gt_t hc9) (by decide) (by decide) ?_
        show Steps p.tables e below (s₁.setTop (mkF m 16 #[.val (.int p1)] [])) _
        refine XS.iconst X0.here hx rfl (hb hby d1_16) ?_
        exact uK
      exact own_ret (v := some (.int (0 : Int32))) X0 hlk (fun h => by rw [hret] at h; cases h) (fun fs hr => retOut X0 hx hret rfl (Or.inl ⟨rfl, by simp, _, rfl⟩) (hb hby d1_17) hr) (by rw [e0]; exact ⟨by first | rw [own_cap, if_pos hc3] | rw [own_cap, if_neg hc3, if_pos hc9] | rw [own_cap, if_neg hc3, if_neg hc9], N0, rfl⟩) (by decide) (by decide)
    · refine own_st (T' := s₁) (g' := (mkF m 17 #[.val (.int p1)] [(.int (1 : Int32))])) (fun uT uK => ?_) ?_
      · show Steps p.tables e below (s₁.setTop (mkF m 9 #[.val (.int p1)] [(.int (90 : Int32)), (.int p1)])) _
        refine XS.icmpNo X0.here hx rfl (hb hby d1_9) rfl (XT.ii_gt_f hc9) ?_
        show Steps p.tables e below (s₁.setTop (mkF m 12 #[.val (.int p1)] [])) _
        refine XS.iconst X0.here hx rfl (hb hby d1_12) ?_
        show Steps p.tables e below (s₁.setTop (mkF m 13 #[.val (.int p1)] [(.int (1 : Int32))])) _
        refine XS.goto X0.here hx rfl (pc0 := 13) (pc' := 17) rfl (hb hby d1_13) (by decide) (by decide) ?_
        exact uK
      exact own_ret (v := some (.int (1 : Int32))) X0 hlk (fun h => by rw [hret] at h; cases h) (fun fs hr => retOut X0 hx hret rfl (Or.inl ⟨rfl, by simp, _, rfl⟩) (hb hby d1_17) hr) (by rw [e0]; exact ⟨by first | rw [own_cap, if_pos hc3] | rw [own_cap, if_neg hc3, if_pos hc9] | rw [own_cap, if_neg hc3, if_neg hc9], N0, rfl⟩) (by decide) (by decide)
def Q0 (Z : State) (p1 : Int32) (p2 : Int32) (h0 : Heap) (n0 : Nat) (v : Option Value) (h : Heap) (L : List Loc) : Prop := v = some (.int 1) ∧ Fr n0 L
set_option maxRecDepth 65536 in
set_option maxHeartbeats 40000000 in
theorem own_t42 {p : Program} {l : Launch} {e : Env} {s : State} {m : MethodId} {args : Array Value} {below : List Frame} {meth : Method} {c : Code} {T : State} {locs : List Loc} {Z : State} {a0 : Array Value} {h : Heap} {n0 : Nat} (p1 p2 r : Int32) (h0 : Heap) (hr : own_cap p1 = r)
    (K : Ctx0 p s m meth c Z a0) (X : Stand p l e room_1 s m args below meth c T locs 0 0) (eT : T.heap = h) (N : Fr n0 locs) (Z0 : n0 ≤ h.size) :
    OwnGo p e below s room_1.cells room_1.slots (Q0 Z p1 p2 h0 n0) T (mkF m 42 #[.val (.int p1), .val (.int p2), .val (.int ((p2 &&& (2147483647 : Int32)) % (26 : Int32))), .val (.int ((65 : Int32) + ((p2 &&& (2147483647 : Int32)) % (26 : Int32)))), .val (.long (p1.toInt64 - (65 : Int64))), .second, .unset, .unset] [(.int r)]) := by
  obtain ⟨hx, hZ, hw, hby, hml, hown, hret, hlk, hnm⟩ := id K
  refine own_st (T' := T) (g' := (mkF m 45 #[.val (.int p1), .val (.int p2), .val (.int ((p2 &&& (2147483647 : Int32)) % (26 : Int32))), .val (.int ((65 : Int32) + ((p2 &&& (2147483647 : Int32)) % (26 : Int32)))), .val (.long (p1.toInt64 - (65 : Int64))), .second, .val (.int r), .unset] [(.int p1)])) (fun uT uK => ?_) ?_
  · show Steps p.tables e below (T.setTop (mkF m 42 #[.val (.int p1), .val (.int p2), .val (.int ((p2 &&& (2147483647 : Int32)) % (26 : Int32))), .val (.int ((65 : Int32) + ((p2 &&& (2147483647 : Int32)) % (26 : Int32)))), .val (.long (p1.toInt64 - (65 : Int64))), .second, .unset, .unset] [(.int r)])) _
    refine XS.istore X.here hx rfl (hb hby at_42) rfl (l' := #[.val (.int p1), .val (.int p2), .val (.int ((p2 &&& (2147483647 : Int32)) % (26 : Int32))), .val (.int ((65 : Int32) + ((p2 &&& (2147483647 : Int32)) % (26 : Int32)))), .val (.long (p1.toInt64 - (65 : Int64))), .second, .val (.int r), .unset]) rfl ?_
    show Steps p.tables e below (T.setTop (mkF m 44 #[.val (.int p1), .val (.int p2), .val (.int ((p2 &&& (2147483647 : Int32)) % (26 : Int32))), .val (.int ((65 : Int32) + ((p2 &&& (2147483647 : Int32)) % (26 : Int32)))), .val (.long (p1.toInt64 - (65 : Int64))), .second, .val (.int r), .unset] [])) _
    refine XS.iloadN X.here hx rfl (hb hby at_44) rfl ?_
    exact uK
  obtain ⟨_, _, ⟨T1, L1, k1, n1⟩, -, X1, ⟨Lc1, hQ1, l1, y1, z1⟩, st1⟩ := Jvm.LawKit.callS X hx (y := (⟨"com/example/ledgerwire/ledgerwire/paymentlist/Ascii", "isCapital", "(I)Z"⟩ : MethodName)) hown (mvT hZ (hw _ (List.mem_of_getElem? (i := 2) rfl))) (mvT hZ (hw _ (List.mem_of_getElem? (i := 3) rfl))) (mvT hZ (hw _ (List.mem_of_getElem? (i := 4) rfl))) (mvT hZ (hw _ (List.mem_of_getElem? (i := 5) rfl))) (by decide) (backOf (W := 0) (rm1 l Z a0 hw [] p1 h n0 Z0) hZ (hw _ (List.mem_of_getElem? (i := 5) rfl)) (hw _ (List.mem_of_getElem? (i := 4) rfl)) (by decide) (by decide)) (g := (mkF m 45 #[.val (.int p1), .val (.int p2), .val (.int ((p2 &&& (2147483647 : Int32)) % (26 : Int32))), .val (.int ((65 : Int32) + ((p2 &&& (2147483647 : Int32)) % (26 : Int32)))), .val (.long (p1.toInt64 - (65 : Int64))), .second, .val (.int r), .unset] [(.int p1)])) rfl (by rw [hml]; rfl) (argsL := [(.int p1)]) (rest := []) (lenOf own_pd0 rfl) rfl (by show 2 * 0 + _ ≤ _; exact Nat.le_of_eq rfl) (hb hby at_45) (fun _ _ => ⟨rfl, eT, (by decide : 0 + 0 ≤ _), (by decide : 0 + 0 ≤ _)⟩)
  dsimp only [Pt.U, Pt.locs, Pt.cells, Pt.slots] at X1 l1 y1 z1 st1 hQ1
  subst l1 y1 z1
  obtain ⟨rfl, Nq1, e1⟩ := hQ1
  have N1 := Fr.app N Nq1
  refine own_st st1 ?_
  show OwnGo p e below s _ _ _ T1 (mkF m 48 #[.val (.int p1), .val (.int p2), .val (.int ((p2 &&& (2147483647 : Int32)) % (26 : Int32))), .val (.int ((65 : Int32) + ((p2 &&& (2147483647 : Int32)) % (26 : Int32)))), .val (.long (p1.toInt64 - (65 : Int64))), .second, .val (.int r), .unset] [(.int (own_cap p1))])
  refine own_st (T' := T1) (g' := (mkF m 66 #[.val (.int p1), .val (.int p2), .val (.int ((p2 &&& (2147483647 : Int32)) % (26 : Int32))), .val (.int ((65 : Int32) + ((p2 &&& (2147483647 : Int32)) % (26 : Int32)))), .val (.long (p1.toInt64 - (65 : Int64))), .second, .val (.int r), .val (.int (1 : Int32))] [(.int ((65 : Int32) + ((p2 &&& (2147483647 : Int32)) % (26 : Int32))))])) (fun uT uK => ?_) ?_
  · show Steps p.tables e below (T1.setTop (mkF m 48 #[.val (.int p1), .val (.int p2), .val (.int ((p2 &&& (2147483647 : Int32)) % (26 : Int32))), .val (.int ((65 : Int32) + ((p2 &&& (2147483647 : Int32)) % (26 : Int32)))), .val (.long (p1.toInt64 - (65 : Int64))), .second, .val (.int r), .unset] [(.int (own_cap p1))])) _
    refine XS.iload X1.here hx rfl (hb hby at_48) rfl ?_
    show Steps p.tables e below (T1.setTop (mkF m 50 #[.val (.int p1), .val (.int p2), .val (.int ((p2 &&& (2147483647 : Int32)) % (26 : Int32))), .val (.int ((65 : Int32) + ((p2 &&& (2147483647 : Int32)) % (26 : Int32)))), .val (.long (p1.toInt64 - (65 : Int64))), .second, .val (.int r), .unset] [(.int r), (.int (own_cap p1))])) _
    refine XS.icmpNo X1.here hx rfl (hb hby at_50) rfl (XT.ii_ne_f hr) ?_
    show Steps p.tables e below (T1.setTop (mkF m 53 #[.val (.int p1), .val (.int p2), .val (.int ((p2 &&& (2147483647 : Int32)) % (26 : Int32))), .val (.int ((65 : Int32) + ((p2 &&& (2147483647 : Int32)) % (26 : Int32)))), .val (.long (p1.toInt64 - (65 : Int64))), .second, .val (.int r), .unset] [])) _
    refine XS.iconst X1.here hx rfl (hb hby at_53) ?_
    show Steps p.tables e below (T1.setTop (mkF m 54 #[.val (.int p1), .val (.int p2), .val (.int ((p2 &&& (2147483647 : Int32)) % (26 : Int32))), .val (.int ((65 : Int32) + ((p2 &&& (2147483647 : Int32)) % (26 : Int32)))), .val (.long (p1.toInt64 - (65 : Int64))), .second, .val (.int r), .unset] [(.int (1 : Int32))])) _
    refine XS.goto X1.here hx rfl (pc0 := 54) (pc' := 58) rfl (hb hby at_54) (by decide) (by decide) ?_
    show Steps p.tables e below (T1.setTop (mkF m 58 #[.val (.int p1), .val (.int p2), .val (.int ((p2 &&& (2147483647 : Int32)) % (26 : Int32))), .val (.int ((65 : Int32) + ((p2 &&& (2147483647 : Int32)) % (26 : Int32)))), .val (.long (p1.toInt64 - (65 : Int64))), .second, .val (.int r), .unset] [(.int (1 : Int32))])) _
    refine XS.istore X1.here hx rfl (hb hby at_58) rfl (l' := #[.val (.int p1), .val (.int p2), .val (.int ((p2 &&& (2147483647 : Int32)) % (26 : Int32))), .val (.int ((65 : Int32) + ((p2 &&& (2147483647 : Int32)) % (26 : Int32)))), .val (.long (p1.toInt64 - (65 : Int64))), .second, .val (.int r), .val (.int (1 : Int32))]) rfl ?_
    show Steps p.tables e below (T1.setTop (mkF m 60 #[.val (.int p1), .val (.int p2), .val (.int ((p2 &&& (2147483647 : Int32)) % (26 : Int32))), .val (.int ((65 : Int32) + ((p2 &&& (2147483647 : Int32)) % (26 : Int32)))), .val (.long (p1.toInt64 - (65 : Int64))), .second, .val (.int r), .val (.int (1 : Int32))] [])) _
    refine XS.iload X1.here hx rfl (hb hby at_60) rfl ?_
    show Steps p.tables e below (T1.setTop (mkF m 62 #[.val (.int p1), .val (.int p2), .val (.int ((p2 &&& (2147483647 : Int32)) % (26 : Int32))), .val (.int ((65 : Int32) + ((p2 &&& (2147483647 : Int32)) % (26 : Int32)))), .val (.long (p1.toInt64 - (65 : Int64))), .second, .val (.int r), .val (.int (1 : Int32))] [(.int (1 : Int32))])) _
    refine XS.ifNo X1.here hx rfl (hb hby at_62) rfl (XT.i0_eq_f (by decide)) ?_
    show Steps p.tables e below (T1.setTop (mkF m 65 #[.val (.int p1), .val (.int p2), .val (.int ((p2 &&& (2147483647 : Int32)) % (26 : Int32))), .val (.int ((65 : Int32) + ((p2 &&& (2147483647 : Int32)) % (26 : Int32)))), .val (.long (p1.toInt64 - (65 : Int64))), .second, .val (.int r), .val (.int (1 : Int32))] [])) _
    refine XS.iloadN X1.here hx rfl (hb hby at_65) rfl ?_
    exact uK
  obtain ⟨_, _, ⟨T2, L2, k2, n2⟩, -, X2, ⟨Lc2, hQ2, l2, y2, z2⟩, st2⟩ := Jvm.LawKit.callS X1 hx (y := (⟨"com/example/ledgerwire/ledgerwire/paymentlist/Ascii", "isCapital", "(I)Z"⟩ : MethodName)) hown (mvT hZ (hw _ (List.mem_of_getElem? (i := 2) rfl))) (mvT hZ (hw _ (List.mem_of_getElem? (i := 3) rfl))) (mvT hZ (hw _ (List.mem_of_getElem? (i := 4) rfl))) (mvT hZ (hw _ (List.mem_of_getElem? (i := 5) rfl))) (by decide) (backOf (W := 0) (rm1 l Z a0 hw [] ((65 : Int32) + ((p2 &&& (2147483647 : Int32)) % (26 : Int32))) h n0 Z0) hZ (hw _ (List.mem_of_getElem? (i := 5) rfl)) (hw _ (List.mem_of_getElem? (i := 4) rfl)) (by decide) (by decide)) (g := (mkF m 66 #[.val (.int p1), .val (.int p2), .val (.int ((p2 &&& (2147483647 : Int32)) % (26 : Int32))), .val (.int ((65 : Int32) + ((p2 &&& (2147483647 : Int32)) % (26 : Int32)))), .val (.long (p1.toInt64 - (65 : Int64))), .second, .val (.int r), .val (.int (1 : Int32))] [(.int ((65 : Int32) + ((p2 &&& (2147483647 : Int32)) % (26 : Int32))))])) rfl (by rw [hml]; rfl) (argsL := [(.int ((65 : Int32) + ((p2 &&& (2147483647 : Int32)) % (26 : Int32))))]) (rest := []) (lenOf own_pd0 rfl) rfl (by show 2 * 0 + _ ≤ _; exact Nat.le_of_eq rfl) (hb hby at_66) (fun _ _ => ⟨rfl, e1, (by decide : 0 + 0 ≤ _), (by decide : 0 + 0 ≤ _)⟩)
  dsimp only [Pt.U, Pt.locs, Pt.cells, Pt.slots] at X2 l2 y2 z2 st2 hQ2
  subst l2 y2 z2
  obtain ⟨rfl, Nq2, e2⟩ := hQ2
  have N2 := Fr.app N1 Nq2
  refine own_st st2 ?_
  show OwnGo p e below s _ _ _ T2 (mkF m 69 #[.val (.int p1), .val (.int p2), .val (.int ((p2 &&& (2147483647 : Int32)) % (26 : Int32))), .val (.int ((65 : Int32) + ((p2 &&& (2147483647 : Int32)) % (26 : Int32)))), .val (.long (p1.toInt64 - (65 : Int64))), .second, .val (.int r), .val (.int (1 : Int32))] [(.int (own_cap ((65 : Int32) + ((p2 &&& (2147483647 : Int32)) % (26 : Int32)))))])
  refine own_st (T' := T2) (g' := (mkF m 88 #[.val (.int p1), .val (.int p2), .val (.int ((p2 &&& (2147483647 : Int32)) % (26 : Int32))), .val (.int ((65 : Int32) + ((p2 &&& (2147483647 : Int32)) % (26 : Int32)))), .val (.long (p1.toInt64 - (65 : Int64))), .second, .val (.int r), .val (.int (1 : Int32))] [(.int (((65 : Int32) + ((p2 &&& (2147483647 : Int32)) % (26 : Int32))) + (32 : Int32)))])) (fun uT uK => ?_) ?_
  · show Steps p.tables e below (T2.setTop (mkF m 69 #[.val (.int p1), .val (.int p2), .val (.int ((p2 &&& (2147483647 : Int32)) % (26 : Int32))), .val (.int ((65 : Int32) + ((p2 &&& (2147483647 : Int32)) % (26 : Int32)))), .val (.long (p1.toInt64 - (65 : Int64))), .second, .val (.int r), .val (.int (1 : Int32))] [(.int (own_cap ((65 : Int32) + ((p2 &&& (2147483647 : Int32)) % (26 : Int32)))))])) _
    refine XS.ifNo X2.here hx rfl (hb hby at_69) rfl (XT.i0_eq_f (own_yes p2)) ?_
    show Steps p.tables e below (T2.setTop (mkF m 72 #[.val (.int p1), .val (.int p2), .val (.int ((p2 &&& (2147483647 : Int32)) % (26 : Int32))), .val (.int ((65 : Int32) + ((p2 &&& (2147483647 : Int32)) % (26 : Int32)))), .val (.long (p1.toInt64 - (65 : Int64))), .second, .val (.int r), .val (.int (1 : Int32))] [])) _
    refine XS.iconst X2.here hx rfl (hb hby at_72) ?_
    show Steps p.tables e below (T2.setTop (mkF m 73 #[.val (.int p1), .val (.int p2), .val (.int ((p2 &&& (2147483647 : Int32)) % (26 : Int32))), .val (.int ((65 : Int32) + ((p2 &&& (2147483647 : Int32)) % (26 : Int32)))), .val (.long (p1.toInt64 - (65 : Int64))), .second, .val (.int r), .val (.int (1 : Int32))] [(.int (1 : Int32))])) _
    refine XS.goto X2.here hx rfl (pc0 := 73) (pc' := 77) rfl (hb hby at_73) (by decide) (by decide) ?_
    show Steps p.tables e below (T2.setTop (mkF m 77 #[.val (.int p1), .val (.int p2), .val (.int ((p2 &&& (2147483647 : Int32)) % (26 : Int32))), .val (.int ((65 : Int32) + ((p2 &&& (2147483647 : Int32)) % (26 : Int32)))), .val (.long (p1.toInt64 - (65 : Int64))), .second, .val (.int r), .val (.int (1 : Int32))] [(.int (1 : Int32))])) _
    refine XS.istore X2.here hx rfl (hb hby at_77) rfl (l' := #[.val (.int p1), .val (.int p2), .val (.int ((p2 &&& (2147483647 : Int32)) % (26 : Int32))), .val (.int ((65 : Int32) + ((p2 &&& (2147483647 : Int32)) % (26 : Int32)))), .val (.long (p1.toInt64 - (65 : Int64))), .second, .val (.int r), .val (.int (1 : Int32))]) rfl ?_
    show Steps p.tables e below (T2.setTop (mkF m 79 #[.val (.int p1), .val (.int p2), .val (.int ((p2 &&& (2147483647 : Int32)) % (26 : Int32))), .val (.int ((65 : Int32) + ((p2 &&& (2147483647 : Int32)) % (26 : Int32)))), .val (.long (p1.toInt64 - (65 : Int64))), .second, .val (.int r), .val (.int (1 : Int32))] [])) _
    refine XS.iload X2.here hx rfl (hb hby at_79) rfl ?_
    show Steps p.tables e below (T2.setTop (mkF m 81 #[.val (.int p1), .val (.int p2), .val (.int ((p2 &&& (2147483647 : Int32)) % (26 : Int32))), .val (.int ((65 : Int32) + ((p2 &&& (2147483647 : Int32)) % (26 : Int32)))), .val (.long (p1.toInt64 - (65 : Int64))), .second, .val (.int r), .val (.int (1 : Int32))] [(.int (1 : Int32))])) _
    refine XS.ifNo X2.here hx rfl (hb hby at_81) rfl (XT.i0_eq_f (by decide)) ?_
    show Steps p.tables e below (T2.setTop (mkF m 84 #[.val (.int p1), .val (.int p2), .val (.int ((p2 &&& (2147483647 : Int32)) % (26 : Int32))), .val (.int ((65 : Int32) + ((p2 &&& (2147483647 : Int32)) % (26 : Int32)))), .val (.long (p1.toInt64 - (65 : Int64))), .second, .val (.int r), .val (.int (1 : Int32))] [])) _
    refine XS.iloadN X2.here hx rfl (hb hby at_84) rfl ?_
    show Steps p.tables e below (T2.setTop (mkF m 85 #[.val (.int p1), .val (.int p2), .val (.int ((p2 &&& (2147483647 : Int32)) % (26 : Int32))), .val (.int ((65 : Int32) + ((p2 &&& (2147483647 : Int32)) % (26 : Int32)))), .val (.long (p1.toInt64 - (65 : Int64))), .second, .val (.int r), .val (.int (1 : Int32))] [(.int ((65 : Int32) + ((p2 &&& (2147483647 : Int32)) % (26 : Int32))))])) _
    refine XS.bipush X2.here hx rfl (hb hby at_85) ?_
    show Steps p.tables e below (T2.setTop (mkF m 87 #[.val (.int p1), .val (.int p2), .val (.int ((p2 &&& (2147483647 : Int32)) % (26 : Int32))), .val (.int ((65 : Int32) + ((p2 &&& (2147483647 : Int32)) % (26 : Int32)))), .val (.long (p1.toInt64 - (65 : Int64))), .second, .val (.int r), .val (.int (1 : Int32))] [(.int (32 : Int32)), (.int ((65 : Int32) + ((p2 &&& (2147483647 : Int32)) % (26 : Int32))))])) _
    refine XS.iadd X2.here hx rfl (hb hby at_87) rfl ?_
    exact uK
  obtain ⟨_, _, ⟨T3, L3, k3, n3⟩, -, X3, ⟨Lc3, hQ3, l3, y3, z3⟩, st3⟩ := Jvm.LawKit.callS X2 hx (y := (⟨"com/example/ledgerwire/ledgerwire/paymentlist/Ascii", "isCapital", "(I)Z"⟩ : MethodName)) hown (mvT hZ (hw _ (List.mem_of_getElem? (i := 2) rfl))) (mvT hZ (hw _ (List.mem_of_getElem? (i := 3) rfl))) (mvT hZ (hw _ (List.mem_of_getElem? (i := 4) rfl))) (mvT hZ (hw _ (List.mem_of_getElem? (i := 5) rfl))) (by decide) (backOf (W := 0) (rm1 l Z a0 hw [] (((65 : Int32) + ((p2 &&& (2147483647 : Int32)) % (26 : Int32))) + (32 : Int32)) h n0 Z0) hZ (hw _ (List.mem_of_getElem? (i := 5) rfl)) (hw _ (List.mem_of_getElem? (i := 4) rfl)) (by decide) (by decide)) (g := (mkF m 88 #[.val (.int p1), .val (.int p2), .val (.int ((p2 &&& (2147483647 : Int32)) % (26 : Int32))), .val (.int ((65 : Int32) + ((p2 &&& (2147483647 : Int32)) % (26 : Int32)))), .val (.long (p1.toInt64 - (65 : Int64))), .second, .val (.int r), .val (.int (1 : Int32))] [(.int (((65 : Int32) + ((p2 &&& (2147483647 : Int32)) % (26 : Int32))) + (32 : Int32)))])) rfl (by rw [hml]; rfl) (argsL := [(.int (((65 : Int32) + ((p2 &&& (2147483647 : Int32)) % (26 : Int32))) + (32 : Int32)))]) (rest := []) (lenOf own_pd0 rfl) rfl (by show 2 * 0 + _ ≤ _; exact Nat.le_of_eq rfl) (hb hby at_88) (fun _ _ => ⟨rfl, e2, (by decide : 0 + 0 ≤ _), (by decide : 0 + 0 ≤ _)⟩)
  dsimp only [Pt.U, Pt.locs, Pt.cells, Pt.slots] at X3 l3 y3 z3 st3 hQ3
  subst l3 y3 z3
  obtain ⟨rfl, Nq3, e3⟩ := hQ3
  have N3 := Fr.app N2 Nq3
  refine own_st st3 ?_
  show OwnGo p e below s _ _ _ T3 (mkF m 91 #[.val (.int p1), .val (.int p2), .val (.int ((p2 &&& (2147483647 : Int32)) % (26 : Int32))), .val (.int ((65 : Int32) + ((p2 &&& (2147483647 : Int32)) % (26 : Int32)))), .val (.long (p1.toInt64 - (65 : Int64))), .second, .val (.int r), .val (.int (1 : Int32))] [(.int (own_cap (((65 : Int32) + ((p2 &&& (2147483647 : Int32)) % (26 : Int32))) + (32 : Int32))))])
  refine own_st (T' := T3) (g' := (mkF m 108 #[.val (.int p1), .val (.int p2), .val (.int ((p2 &&& (2147483647 : Int32)) % (26 : Int32))), .val (.int ((65 : Int32) + ((p2 &&& (2147483647 : Int32)) % (26 : Int32)))), .val (.long (p1.toInt64 - (65 : Int64))), .second, .val (.int r), .val (.int (1 : Int32))] [(.int (64 : Int32))])) (fun uT uK => ?_) ?_
  · show Steps p.tables e below (T3.setTop (mkF m 91 #[.val (.int p1), .val (.int p2), .val (.int ((p2 &&& (2147483647 : Int32)) % (26 : Int32))), .val (.int ((65 : Int32) + ((p2 &&& (2147483647 : Int32)) % (26 : Int32)))), .val (.long (p1.toInt64 - (65 : Int64))), .second, .val (.int r), .val (.int (1 : Int32))] [(.int (own_cap (((65 : Int32) + ((p2 &&& (2147483647 : Int32)) % (26 : Int32))) + (32 : Int32))))])) _
    refine XS.ifNo X3.here hx rfl (hb hby at_91) rfl (XT.i0_ne_f (own_no p2)) ?_
    show Steps p.tables e below (T3.setTop (mkF m 94 #[.val (.int p1), .val (.int p2), .val (.int ((p2 &&& (2147483647 : Int32)) % (26 : Int32))), .val (.int ((65 : Int32) + ((p2 &&& (2147483647 : Int32)) % (26 : Int32)))), .val (.long (p1.toInt64 - (65 : Int64))), .second, .val (.int r), .val (.int (1 : Int32))] [])) _
    refine XS.iconst X3.here hx rfl (hb hby at_94) ?_
    show Steps p.tables e below (T3.setTop (mkF m 95 #[.val (.int p1), .val (.int p2), .val (.int ((p2 &&& (2147483647 : Int32)) % (26 : Int32))), .val (.int ((65 : Int32) + ((p2 &&& (2147483647 : Int32)) % (26 : Int32)))), .val (.long (p1.toInt64 - (65 : Int64))), .second, .val (.int r), .val (.int (1 : Int32))] [(.int (1 : Int32))])) _
    refine XS.goto X3.here hx rfl (pc0 := 95) (pc' := 99) rfl (hb hby at_95) (by decide) (by decide) ?_
    show Steps p.tables e below (T3.setTop (mkF m 99 #[.val (.int p1), .val (.int p2), .val (.int ((p2 &&& (2147483647 : Int32)) % (26 : Int32))), .val (.int ((65 : Int32) + ((p2 &&& (2147483647 : Int32)) % (26 : Int32)))), .val (.long (p1.toInt64 - (65 : Int64))), .second, .val (.int r), .val (.int (1 : Int32))] [(.int (1 : Int32))])) _
    refine XS.istore X3.here hx rfl (hb hby at_99) rfl (l' := #[.val (.int p1), .val (.int p2), .val (.int ((p2 &&& (2147483647 : Int32)) % (26 : Int32))), .val (.int ((65 : Int32) + ((p2 &&& (2147483647 : Int32)) % (26 : Int32)))), .val (.long (p1.toInt64 - (65 : Int64))), .second, .val (.int r), .val (.int (1 : Int32))]) rfl ?_
    show Steps p.tables e below (T3.setTop (mkF m 101 #[.val (.int p1), .val (.int p2), .val (.int ((p2 &&& (2147483647 : Int32)) % (26 : Int32))), .val (.int ((65 : Int32) + ((p2 &&& (2147483647 : Int32)) % (26 : Int32)))), .val (.long (p1.toInt64 - (65 : Int64))), .second, .val (.int r), .val (.int (1 : Int32))] [])) _
    refine XS.iload X3.here hx rfl (hb hby at_101) rfl ?_
    show Steps p.tables e below (T3.setTop (mkF m 103 #[.val (.int p1), .val (.int p2), .val (.int ((p2 &&& (2147483647 : Int32)) % (26 : Int32))), .val (.int ((65 : Int32) + ((p2 &&& (2147483647 : Int32)) % (26 : Int32)))), .val (.long (p1.toInt64 - (65 : Int64))), .second, .val (.int r), .val (.int (1 : Int32))] [(.int (1 : Int32))])) _
    refine XS.ifNo X3.here hx rfl (hb hby at_103) rfl (XT.i0_eq_f (by decide)) ?_
    show Steps p.tables e below (T3.setTop (mkF m 106 #[.val (.int p1), .val (.int p2), .val (.int ((p2 &&& (2147483647 : Int32)) % (26 : Int32))), .val (.int ((65 : Int32) + ((p2 &&& (2147483647 : Int32)) % (26 : Int32)))), .val (.long (p1.toInt64 - (65 : Int64))), .second, .val (.int r), .val (.int (1 : Int32))] [])) _
    refine XS.bipush X3.here hx rfl (hb hby at_106) ?_
    exact uK
  obtain ⟨_, _, ⟨T4, L4, k4, n4⟩, -, X4, ⟨Lc4, hQ4, l4, y4, z4⟩, st4⟩ := Jvm.LawKit.callS X3 hx (y := (⟨"com/example/ledgerwire/ledgerwire/paymentlist/Ascii", "isCapital", "(I)Z"⟩ : MethodName)) hown (mvT hZ (hw _ (List.mem_of_getElem? (i := 2) rfl))) (mvT hZ (hw _ (List.mem_of_getElem? (i := 3) rfl))) (mvT hZ (hw _ (List.mem_of_getElem? (i := 4) rfl))) (mvT hZ (hw _ (List.mem_of_getElem? (i := 5) rfl))) (by decide) (backOf (W := 0) (rm1 l Z a0 hw [] (64 : Int32) h n0 Z0) hZ (hw _ (List.mem_of_getElem? (i := 5) rfl)) (hw _ (List.mem_of_getElem? (i := 4) rfl)) (by decide) (by decide)) (g := (mkF m 108 #[.val (.int p1), .val (.int p2), .val (.int ((p2 &&& (2147483647 : Int32)) % (26 : Int32))), .val (.int ((65 : Int32) + ((p2 &&& (2147483647 : Int32)) % (26 : Int32)))), .val (.long (p1.toInt64 - (65 : Int64))), .second, .val (.int r), .val (.int (1 : Int32))] [(.int (64 : Int32))])) rfl (by rw [hml]; rfl) (argsL := [(.int (64 : Int32))]) (rest := []) (lenOf own_pd0 rfl) rfl (by show 2 * 0 + _ ≤ _; exact Nat.le_of_eq rfl) (hb hby at_108) (fun _ _ => ⟨rfl, e3, (by decide : 0 + 0 ≤ _), (by decide : 0 + 0 ≤ _)⟩)
  dsimp only [Pt.U, Pt.locs, Pt.cells, Pt.slots] at X4 l4 y4 z4 st4 hQ4
  subst l4 y4 z4
  obtain ⟨rfl, Nq4, e4⟩ := hQ4
  have N4 := Fr.app N3 Nq4
  refine own_st st4 ?_
  show OwnGo p e below s _ _ _ T4 (mkF m 111 #[.val (.int p1), .val (.int p2), .val (.int ((p2 &&& (2147483647 : Int32)) % (26 : Int32))), .val (.int ((65 : Int32) + ((p2 &&& (2147483647 : Int32)) % (26 : Int32)))), .val (.long (p1.toInt64 - (65 : Int64))), .second, .val (.int r), .val (.int (1 : Int32))] [(.int (own_cap (64 : Int32)))])
  refine own_st (T' := T4) (g' := (mkF m 128 #[.val (.int p1), .val (.int p2), .val (.int ((p2 &&& (2147483647 : Int32)) % (26 : Int32))), .val (.int ((65 : Int32) + ((p2 &&& (2147483647 : Int32)) % (26 : Int32)))), .val (.long (p1.toInt64 - (65 : Int64))), .second, .val (.int r), .val (.int (1 : Int32))] [(.int (91 : Int32))])) (fun uT uK => ?_) ?_
  · show Steps p.tables e below (T4.setTop (mkF m 111 #[.val (.int p1), .val (.int p2), .val (.int ((p2 &&& (2147483647 : Int32)) % (26 : Int32))), .val (.int ((65 : Int32) + ((p2 &&& (2147483647 : Int32)) % (26 : Int32)))), .val (.long (p1.toInt64 - (65 : Int64))), .second, .val (.int r), .val (.int (1 : Int32))] [(.int (own_cap (64 : Int32)))])) _
    refine XS.ifNo X4.here hx rfl (hb hby at_111) rfl (XT.i0_ne_f (by decide)) ?_
    show Steps p.tables e below (T4.setTop (mkF m 114 #[.val (.int p1), .val (.int p2), .val (.int ((p2 &&& (2147483647 : Int32)) % (26 : Int32))), .val (.int ((65 : Int32) + ((p2 &&& (2147483647 : Int32)) % (26 : Int32)))), .val (.long (p1.toInt64 - (65 : Int64))), .second, .val (.int r), .val (.int (1 : Int32))] [])) _
    refine XS.iconst X4.here hx rfl (hb hby at_114) ?_
    show Steps p.tables e below (T4.setTop (mkF m 115 #[.val (.int p1), .val (.int p2), .val (.int ((p2 &&& (2147483647 : Int32)) % (26 : Int32))), .val (.int ((65 : Int32) + ((p2 &&& (2147483647 : Int32)) % (26 : Int32)))), .val (.long (p1.toInt64 - (65 : Int64))), .second, .val (.int r), .val (.int (1 : Int32))] [(.int (1 : Int32))])) _
    refine XS.goto X4.here hx rfl (pc0 := 115) (pc' := 119) rfl (hb hby at_115) (by decide) (by decide) ?_
    show Steps p.tables e below (T4.setTop (mkF m 119 #[.val (.int p1), .val (.int p2), .val (.int ((p2 &&& (2147483647 : Int32)) % (26 : Int32))), .val (.int ((65 : Int32) + ((p2 &&& (2147483647 : Int32)) % (26 : Int32)))), .val (.long (p1.toInt64 - (65 : Int64))), .second, .val (.int r), .val (.int (1 : Int32))] [(.int (1 : Int32))])) _
    refine XS.istore X4.here hx rfl (hb hby at_119) rfl (l' := #[.val (.int p1), .val (.int p2), .val (.int ((p2 &&& (2147483647 : Int32)) % (26 : Int32))), .val (.int ((65 : Int32) + ((p2 &&& (2147483647 : Int32)) % (26 : Int32)))), .val (.long (p1.toInt64 - (65 : Int64))), .second, .val (.int r), .val (.int (1 : Int32))]) rfl ?_
    show Steps p.tables e below (T4.setTop (mkF m 121 #[.val (.int p1), .val (.int p2), .val (.int ((p2 &&& (2147483647 : Int32)) % (26 : Int32))), .val (.int ((65 : Int32) + ((p2 &&& (2147483647 : Int32)) % (26 : Int32)))), .val (.long (p1.toInt64 - (65 : Int64))), .second, .val (.int r), .val (.int (1 : Int32))] [])) _
    refine XS.iload X4.here hx rfl (hb hby at_121) rfl ?_
    show Steps p.tables e below (T4.setTop (mkF m 123 #[.val (.int p1), .val (.int p2), .val (.int ((p2 &&& (2147483647 : Int32)) % (26 : Int32))), .val (.int ((65 : Int32) + ((p2 &&& (2147483647 : Int32)) % (26 : Int32)))), .val (.long (p1.toInt64 - (65 : Int64))), .second, .val (.int r), .val (.int (1 : Int32))] [(.int (1 : Int32))])) _
    refine XS.ifNo X4.here hx rfl (hb hby at_123) rfl (XT.i0_eq_f (by decide)) ?_
    show Steps p.tables e below (T4.setTop (mkF m 126 #[.val (.int p1), .val (.int p2), .val (.int ((p2 &&& (2147483647 : Int32)) % (26 : Int32))), .val (.int ((65 : Int32) + ((p2 &&& (2147483647 : Int32)) % (26 : Int32)))), .val (.long (p1.toInt64 - (65 : Int64))), .second, .val (.int r), .val (.int (1 : Int32))] [])) _
    refine XS.bipush X4.here hx rfl (hb hby at_126) ?_
    exact uK
  obtain ⟨_, _, ⟨T5, L5, k5, n5⟩, -, X5, ⟨Lc5, hQ5, l5, y5, z5⟩, st5⟩ := Jvm.LawKit.callS X4 hx (y := (⟨"com/example/ledgerwire/ledgerwire/paymentlist/Ascii", "isCapital", "(I)Z"⟩ : MethodName)) hown (mvT hZ (hw _ (List.mem_of_getElem? (i := 2) rfl))) (mvT hZ (hw _ (List.mem_of_getElem? (i := 3) rfl))) (mvT hZ (hw _ (List.mem_of_getElem? (i := 4) rfl))) (mvT hZ (hw _ (List.mem_of_getElem? (i := 5) rfl))) (by decide) (backOf (W := 0) (rm1 l Z a0 hw [] (91 : Int32) h n0 Z0) hZ (hw _ (List.mem_of_getElem? (i := 5) rfl)) (hw _ (List.mem_of_getElem? (i := 4) rfl)) (by decide) (by decide)) (g := (mkF m 128 #[.val (.int p1), .val (.int p2), .val (.int ((p2 &&& (2147483647 : Int32)) % (26 : Int32))), .val (.int ((65 : Int32) + ((p2 &&& (2147483647 : Int32)) % (26 : Int32)))), .val (.long (p1.toInt64 - (65 : Int64))), .second, .val (.int r), .val (.int (1 : Int32))] [(.int (91 : Int32))])) rfl (by rw [hml]; rfl) (argsL := [(.int (91 : Int32))]) (rest := []) (lenOf own_pd0 rfl) rfl (by show 2 * 0 + _ ≤ _; exact Nat.le_of_eq rfl) (hb hby at_128) (fun _ _ => ⟨rfl, e4, (by decide : 0 + 0 ≤ _), (by decide : 0 + 0 ≤ _)⟩)
  dsimp only [Pt.U, Pt.locs, Pt.cells, Pt.slots] at X5 l5 y5 z5 st5 hQ5
  subst l5 y5 z5
  obtain ⟨rfl, Nq5, e5⟩ := hQ5
  have N5 := Fr.app N4 Nq5
  refine own_st st5 ?_
  show OwnGo p e below s _ _ _ T5 (mkF m 131 #[.val (.int p1), .val (.int p2), .val (.int ((p2 &&& (2147483647 : Int32)) % (26 : Int32))), .val (.int ((65 : Int32) + ((p2 &&& (2147483647 : Int32)) % (26 : Int32)))), .val (.long (p1.toInt64 - (65 : Int64))), .second, .val (.int r), .val (.int (1 : Int32))] [(.int (own_cap (91 : Int32)))])
  refine own_st (T' := T5) (g' := (mkF m 143 #[.val (.int p1), .val (.int p2), .val (.int ((p2 &&& (2147483647 : Int32)) % (26 : Int32))), .val (.int ((65 : Int32) + ((p2 &&& (2147483647 : Int32)) % (26 : Int32)))), .val (.long (p1.toInt64 - (65 : Int64))), .second, .val (.int r), .val (.int (1 : Int32))] [(.int (1 : Int32))])) (fun uT uK => ?_) ?_
  · show Steps p.tables e below (T5.setTop (mkF m 131 #[.val (.int p1), .val (.int p2), .val (.int ((p2 &&& (2147483647 : Int32)) % (26 : Int32))), .val (.int ((65 : Int32) + ((p2 &&& (2147483647 : Int32)) % (26 : Int32)))), .val (.long (p1.toInt64 - (65 : Int64))), .second, .val (.int r), .val (.int (1 : Int32))] [(.int (own_cap (91 : Int32)))])) _
    refine XS.ifNo X5.here hx rfl (hb hby at_131) rfl (XT.i0_ne_f (by decide)) ?_
    show Steps p.tables e below (T5.setTop (mkF m 134 #[.val (.int p1), .val (.int p2), .val (.int ((p2 &&& (2147483647 : Int32)) % (26 : Int32))), .val (.int ((65 : Int32) + ((p2 &&& (2147483647 : Int32)) % (26 : Int32)))), .val (.long (p1.toInt64 - (65 : Int64))), .second, .val (.int r), .val (.int (1 : Int32))] [])) _
    refine XS.iconst X5.here hx rfl (hb hby at_134) ?_
    show Steps p.tables e below (T5.setTop (mkF m 135 #[.val (.int p1), .val (.int p2), .val (.int ((p2 &&& (2147483647 : Int32)) % (26 : Int32))), .val (.int ((65 : Int32) + ((p2 &&& (2147483647 : Int32)) % (26 : Int32)))), .val (.long (p1.toInt64 - (65 : Int64))), .second, .val (.int r), .val (.int (1 : Int32))] [(.int (1 : Int32))])) _
    refine XS.goto X5.here hx rfl (pc0 := 135) (pc' := 139) rfl (hb hby at_135) (by decide) (by decide) ?_
    show Steps p.tables e below (T5.setTop (mkF m 139 #[.val (.int p1), .val (.int p2), .val (.int ((p2 &&& (2147483647 : Int32)) % (26 : Int32))), .val (.int ((65 : Int32) + ((p2 &&& (2147483647 : Int32)) % (26 : Int32)))), .val (.long (p1.toInt64 - (65 : Int64))), .second, .val (.int r), .val (.int (1 : Int32))] [(.int (1 : Int32))])) _
    refine XS.istore X5.here hx rfl (hb hby at_139) rfl (l' := #[.val (.int p1), .val (.int p2), .val (.int ((p2 &&& (2147483647 : Int32)) % (26 : Int32))), .val (.int ((65 : Int32) + ((p2 &&& (2147483647 : Int32)) % (26 : Int32)))), .val (.long (p1.toInt64 - (65 : Int64))), .second, .val (.int r), .val (.int (1 : Int32))]) rfl ?_
    show Steps p.tables e below (T5.setTop (mkF m 141 #[.val (.int p1), .val (.int p2), .val (.int ((p2 &&& (2147483647 : Int32)) % (26 : Int32))), .val (.int ((65 : Int32) + ((p2 &&& (2147483647 : Int32)) % (26 : Int32)))), .val (.long (p1.toInt64 - (65 : Int64))), .second, .val (.int r), .val (.int (1 : Int32))] [])) _
    refine XS.iload X5.here hx rfl (hb hby at_141) rfl ?_
    exact uK
  exact own_ret (v := some (.int (1 : Int32))) X5 hlk (fun h => by rw [hret] at h; cases h) (fun fs hr => retOut X5 hx hret rfl (Or.inl ⟨rfl, by simp, _, rfl⟩) (hb hby at_143) hr) ⟨rfl, N5⟩ (by decide) (by decide)
theorem own_ef_rm0 (m : MethodId) (x0 : Int32) (x1 : Int32) : entryFrame m #[(.int x0), (.int x1)] maxLocals = mkF m 0 #[.val (.int x0), .val (.int x1), .unset, .unset, .unset, .unset, .unset, .unset] [] := by first | (simp [entryFrame, mkF, argsToLocals, Value.category, maxLocals]; done) | rfl
set_option maxRecDepth 65536 in
set_option maxHeartbeats 40000000 in
theorem rm0 (l : Launch) (Z : State) (a0 : Array Value) (hw : ∀ d ∈ tables_1, d.before a0 Z = true) (ws : List Jvm.Cond) (p1 : Int32) (p2 : Int32) (h0 : Heap) (n0 : Nat) (Z0 : n0 ≤ h0.size) :
    MetFree l x (head1 (Jvm.Cond.code x code maxLocals ret :: ws) room_1) (fun aQ UQ => aQ = #[(.int p1), (.int p2)] ∧ Z.Warmed39 UQ.vm ∧ UQ.heap = h0) (fun _ _ _ _ _ => True) (fun _ UQ oQ UR => ∃ vQ LQ, oQ = .returned vQ ∧ Q0 Z p1 p2 h0 n0 vQ UR.heap LQ ∧ FrameEnd UQ oQ UR LQ room_1.cells room_1.slots) := by
  refine MetFree.of_bodySF (plainFor_of_name pn_0) hisR ?_
  intro p e s m args below meth c s₁ Bd hml0 hP hK
  obtain ⟨rfl, hZ, hh⟩ := hP
  have hx := Bd.exec
  have hby := Bd.bytes
  have hml : c.maxLocals = 8 := hml0
  have hown : s.vm.findClass "com/example/ledgerwire/ledgerwire/paymentlist/AsciiIsCapitalPinLaw" = some m.cls := findClass_of_methodNamed Bd.named
  have hnm := (name_of_methodNamed Bd.named Bd.method).1
  have hret := Bd.returns
  have hlk : meth.locks = false := Bd.notSynchronized
  have X0 : Stand p l e room_1 s m #[(.int p1), (.int p2)] below meth c s₁ [] 0 0 := Stand.of_body Bd
  have e0 : s₁.heap = h0 := by rw [← hh, Bd.state]; rfl
  have N0 := Fr.nil n0
  have K : Ctx0 p s m meth c Z a0 := ⟨hx, hZ, hw, hby, hml, hown, hret, hlk, hnm⟩
  show OwnGo p e below s room_1.cells room_1.slots (Q0 Z p1 p2 h0 n0) s₁ (entryFrame m #[(.int p1), (.int p2)] maxLocals)
  refine own_cast (own_ef_rm0 m p1 p2) ?_
  show OwnGo p e below s _ _ _ s₁ (mkF m 0 #[.val (.int p1), .val (.int p2), .unset, .unset, .unset, .unset, .unset, .unset] [])
  refine own_st (T' := s₁) (g' := (mkF m 25 #[.val (.int p1), .val (.int p2), .val (.int ((p2 &&& (2147483647 : Int32)) % (26 : Int32))), .val (.int ((65 : Int32) + ((p2 &&& (2147483647 : Int32)) % (26 : Int32)))), .val (.long ((p1.toInt64) - (65 : Int64))), .second, .unset, .unset] [(.int (XT.cmpL ((p1.toInt64) - (65 : Int64)) (0 : Int64)))])) (fun uT uK => ?_) ?_
  · show Steps p.tables e below (s₁.setTop (mkF m 0 #[.val (.int p1), .val (.int p2), .unset, .unset, .unset, .unset, .unset, .unset] [])) _
    refine XS.iloadN X0.here hx rfl (hb hby at_0) rfl ?_
    show Steps p.tables e below (s₁.setTop (mkF m 1 #[.val (.int p1), .val (.int p2), .unset, .unset, .unset, .unset, .unset, .unset] [(.int p2)])) _
    refine X0.ldcInt hx hown (mvT hZ (hw _ (List.mem_of_getElem? (i := 0) rfl))) (g := (mkF m 1 #[.val (.int p1), .val (.int p2), .unset, .unset, .unset, .unset, .unset, .unset] [(.int p2)])) rfl (hb hby at_1) _ ?_
    show Steps p.tables e below (s₁.setTop (mkF m 3 #[.val (.int p1), .val (.int p2), .unset, .unset, .unset, .unset, .unset, .unset] [(.int (2147483647 : Int32)), (.int p2)])) _
    refine XS.iand X0.here hx rfl (hb hby at_3) rfl ?_
    show Steps p.tables e below (s₁.setTop (mkF m 4 #[.val (.int p1), .val (.int p2), .unset, .unset, .unset, .unset, .unset, .unset] [(.int (p2 &&& (2147483647 : Int32)))])) _
    refine XS.bipush X0.here hx rfl (hb hby at_4) ?_
    show Steps p.tables e below (s₁.setTop (mkF m 6 #[.val (.int p1), .val (.int p2), .unset, .unset, .unset, .unset, .unset, .unset] [(.int (26 : Int32)), (.int (p2 &&& (2147483647 : Int32)))])) _
    refine iremM X0 hx rfl (hb hby at_6) rfl (by decide) ?_
    show Steps p.tables e below (s₁.setTop (mkF m 7 #[.val (.int p1), .val (.int p2), .unset, .unset, .unset, .unset, .unset, .unset] [(.int ((p2 &&& (2147483647 : Int32)) % (26 : Int32)))])) _
    refine XS.istoreN X0.here hx rfl (hb hby at_7) rfl (l' := #[.val (.int p1), .val (.int p2), .val (.int ((p2 &&& (2147483647 : Int32)) % (26 : Int32))), .unset, .unset, .unset, .unset, .unset]) rfl ?_
    show Steps p.tables e below (s₁.setTop (mkF m 8 #[.val (.int p1), .val (.int p2), .val (.int ((p2 &&& (2147483647 : Int32)) % (26 : Int32))), .unset, .unset, .unset, .unset, .unset] [])) _
    refine XS.bipush X0.here hx rfl (hb hby at_8) ?_
    show Steps p.tables e below (s₁.setTop (mkF m 10 #[.val (.int p1), .val (.int p2), .val (.int ((p2 &&& (2147483647 : Int32)) % (26 : Int32))), .unset, .unset, .unset, .unset, .unset] [(.int (65 : Int32))])) _
    refine XS.iloadN X0.here hx rfl (hb hby at_10) rfl ?_
    show Steps p.tables e below (s₁.setTop (mkF m 11 #[.val (.int p1), .val (.int p2), .val (.int ((p2 &&& (2147483647 : Int32)) % (26 : Int32))), .unset, .unset, .unset, .unset, .unset] [(.int ((p2 &&& (2147483647 : Int32)) % (26 : Int32))), (.int (65 : Int32))])) _
    refine XS.iadd X0.here hx rfl (hb hby at_11) rfl ?_
    show Steps p.tables e below (s₁.setTop (mkF m 12 #[.val (.int p1), .val (.int p2), .val (.int ((p2 &&& (2147483647 : Int32)) % (26 : Int32))), .unset, .unset, .unset, .unset, .unset] [(.int ((65 : Int32) + ((p2 &&& (2147483647 : Int32)) % (26 : Int32))))])) _
    refine XS.istoreN X0.here hx rfl (hb hby at_12) rfl (l' := #[.val (.int p1), .val (.int p2), .val (.int ((p2 &&& (2147483647 : Int32)) % (26 : Int32))), .val (.int ((65 : Int32) + ((p2 &&& (2147483647 : Int32)) % (26 : Int32)))), .unset, .unset, .unset, .unset]) rfl ?_
    show Steps p.tables e below (s₁.setTop (mkF m 13 #[.val (.int p1), .val (.int p2), .val (.int ((p2 &&& (2147483647 : Int32)) % (26 : Int32))), .val (.int ((65 : Int32) + ((p2 &&& (2147483647 : Int32)) % (26 : Int32)))), .unset, .unset, .unset, .unset] [])) _
    refine XS.iloadN X0.here hx rfl (hb hby at_13) rfl ?_
    show Steps p.tables e below (s₁.setTop (mkF m 14 #[.val (.int p1), .val (.int p2), .val (.int ((p2 &&& (2147483647 : Int32)) % (26 : Int32))), .val (.int ((65 : Int32) + ((p2 &&& (2147483647 : Int32)) % (26 : Int32)))), .unset, .unset, .unset, .unset] [(.int p1)])) _
    refine XT.i2l X0.here hx rfl (hb hby at_14) rfl ?_
    show Steps p.tables e below (s₁.setTop (mkF m 15 #[.val (.int p1), .val (.int p2), .val (.int ((p2 &&& (2147483647 : Int32)) % (26 : Int32))), .val (.int ((65 : Int32) + ((p2 &&& (2147483647 : Int32)) % (26 : Int32)))), .unset, .unset, .unset, .unset] [(.long (p1.toInt64))])) _
    refine X0.ldc2Long hx hown (mvT hZ (hw _ (List.mem_of_getElem? (i := 1) rfl))) (g := (mkF m 15 #[.val (.int p1), .val (.int p2), .val (.int ((p2 &&& (2147483647 : Int32)) % (26 : Int32))), .val (.int ((65 : Int32) + ((p2 &&& (2147483647 : Int32)) % (26 : Int32)))), .unset, .unset, .unset, .unset] [(.long (p1.toInt64))])) rfl (hb hby at_15) _ ?_
    show Steps p.tables e below (s₁.setTop (mkF m 18 #[.val (.int p1), .val (.int p2), .val (.int ((p2 &&& (2147483647 : Int32)) % (26 : Int32))), .val (.int ((65 : Int32) + ((p2 &&& (2147483647 : Int32)) % (26 : Int32)))), .unset, .unset, .unset, .unset] [(.long (65 : Int64)), (.long (p1.toInt64))])) _
    refine XT.lsub X0.here hx rfl (hb hby at_18) rfl ?_
    show Steps p.tables e below (s₁.setTop (mkF m 19 #[.val (.int p1), .val (.int p2), .val (.int ((p2 &&& (2147483647 : Int32)) % (26 : Int32))), .val (.int ((65 : Int32) + ((p2 &&& (2147483647 : Int32)) % (26 : Int32)))), .unset, .unset, .unset, .unset] [(.long ((p1.toInt64) - (65 : Int64)))])) _
    refine XT.lstore X0.here hx rfl (hb hby at_19) rfl (l' := #[.val (.int p1), .val (.int p2), .val (.int ((p2 &&& (2147483647 : Int32)) % (26 : Int32))), .val (.int ((65 : Int32) + ((p2 &&& (2147483647 : Int32)) % (26 : Int32)))), .val (.long ((p1.toInt64) - (65 : Int64))), .second, .unset, .unset]) rfl ?_
    show Steps p.tables e below (s₁.setTop (mkF m 21 #[.val (.int p1), .val (.int p2), .val (.int ((p2 &&& (2147483647 : Int32)) % (26 : Int32))), .val (.int ((65 : Int32) + ((p2 &&& (2147483647 : Int32)) % (26 : Int32)))), .val (.long ((p1.toInt64) - (65 : Int64))), .second, .unset, .unset] [])) _
    refine XT.lload X0.here hx rfl (hb hby at_21) rfl ?_
    show Steps p.tables e below (s₁.setTop (mkF m 23 #[.val (.int p1), .val (.int p2), .val (.int ((p2 &&& (2147483647 : Int32)) % (26 : Int32))), .val (.int ((65 : Int32) + ((p2 &&& (2147483647 : Int32)) % (26 : Int32)))), .val (.long ((p1.toInt64) - (65 : Int64))), .second, .unset, .unset] [(.long ((p1.toInt64) - (65 : Int64)))])) _
    refine XT.lconst X0.here hx rfl (hb hby at_23) ?_
    show Steps p.tables e below (s₁.setTop (mkF m 24 #[.val (.int p1), .val (.int p2), .val (.int ((p2 &&& (2147483647 : Int32)) % (26 : Int32))), .val (.int ((65 : Int32) + ((p2 &&& (2147483647 : Int32)) % (26 : Int32)))), .val (.long ((p1.toInt64) - (65 : Int64))), .second, .unset, .unset] [(.long (0 : Int64)), (.long ((p1.toInt64) - (65 : Int64)))])) _
    refine XT.lcmp X0.here hx rfl (hb hby at_24) rfl ?_
    exact uK
  by_cases hc25 : ((p1.toInt64) - (65 : Int64)) < (0 : Int64)
  · refine own_st (T' := s₁) (g' := (mkF m 42 #[.val (.int p1), .val (.int p2), .val (.int ((p2 &&& (2147483647 : Int32)) % (26 : Int32))), .val (.int ((65 : Int32) + ((p2 &&& (2147483647 : Int32)) % (26 : Int32)))), .val (.long ((p1.toInt64) - (65 : Int64))), .second, .unset, .unset] [(.int (0 : Int32))])) (fun uT uK => ?_) ?_
    · show Steps p.tables e below (s₁.setTop (mkF m 25 #[.val (.int p1), .val (.int p2), .val (.int ((p2 &&& (2147483647 : Int32)) % (26 : Int32))), .val (.int ((65 : Int32) + ((p2 &&& (2147483647 : Int32)) % (26 : Int32)))), .val (.long ((p1.toInt64) - (65 : Int64))), .second, .unset, .unset] [(.int (XT.cmpL ((p1.toInt64) - (65 : Int64)) (0 : Int64)))])) _
      refine XS.ifYes X0.here hx rfl (pc0 := 25) (pc' := 41) rfl (hb hby at_25) rfl (XT.ll_lt_t hc25) (by decide) (by decide) ?_
      show Steps p.tables e below (s₁.setTop (mkF m 41 #[.val (.int p1), .val (.int p2), .val (.int ((p2 &&& (2147483647 : Int32)) % (26 : Int32))), .val (.int ((65 : Int32) + ((p2 &&& (2147483647 : Int32)) % (26 : Int32)))), .val (.long ((p1.toInt64) - (65 : Int64))), .second, .unset, .unset] [])) _
      refine XS.iconst X0.here hx rfl (hb hby at_41) ?_
      exact uK
    exact own_t42 p1 p2 (0 : Int32) h0 (by first | exact own_low p1 hc25 | exact own_high p1 hc25 hc34) K X0 e0 N0 Z0
  · refine own_st (T' := s₁) (g' := (mkF m 34 #[.val (.int p1), .val (.int p2), .val (.int ((p2 &&& (2147483647 : Int32)) % (26 : Int32))), .val (.int ((65 : Int32) + ((p2 &&& (2147483647 : Int32)) % (26 : Int32)))), .val (.long ((p1.toInt64) - (65 : Int64))), .second, .unset, .unset] [(.int (XT.cmpL ((p1.toInt64) - (65 : Int64)) (26 : Int64)))])) (fun uT uK => ?_) ?_
    · show Steps p.tables e below (s₁.setTop (mkF m 25 #[.val (.int p1), .val (.int p2), .val (.int ((p2 &&& (2147483647 : Int32)) % (26 : Int32))), .val (.int ((65 : Int32) + ((p2 &&& (2147483647 : Int32)) % (26 : Int32)))), .val (.long ((p1.toInt64) - (65 : Int64))), .second, .unset, .unset] [(.int (XT.cmpL ((p1.toInt64) - (65 : Int64)) (0 : Int64)))])) _
      refine XS.ifNo X0.here hx rfl (hb hby at_25) rfl (XT.ll_lt_f hc25) ?_
      show Steps p.tables e below (s₁.setTop (mkF m 28 #[.val (.int p1), .val (.int p2), .val (.int ((p2 &&& (2147483647 : Int32)) % (26 : Int32))), .val (.int ((65 : Int32) + ((p2 &&& (2147483647 : Int32)) % (26 : Int32)))), .val (.long ((p1.toInt64) - (65 : Int64))), .second, .unset, .unset] [])) _
      refine XT.lload X0.here hx rfl (hb hby at_28) rfl ?_
      show Steps p.tables e below (s₁.setTop (mkF m 30 #[.val (.int p1), .val (.int p2), .val (.int ((p2 &&& (2147483647 : Int32)) % (26 : Int32))), .val (.int ((65 : Int32) + ((p2 &&& (2147483647 : Int32)) % (26 : Int32)))), .val (.long ((p1.toInt64) - (65 : Int64))), .second, .unset, .unset] [(.long ((p1.toInt64) - (65 : Int64)))])) _
      refine X0.ldc2Long hx hown (mvT hZ (hw _ (List.mem_of_getElem? (i := 6) rfl))) (g := (mkF m 30 #[.val (.int p1), .val (.int p2), .val (.int ((p2 &&& (2147483647 : Int32)) % (26 : Int32))), .val (.int ((65 : Int32) + ((p2 &&& (2147483647 : Int32)) % (26 : Int32)))), .val (.long ((p1.toInt64) - (65 : Int64))), .second, .unset, .unset] [(.long ((p1.toInt64) - (65 : Int64)))])) rfl (hb hby at_30) _ ?_
      show Steps p.tables e below (s₁.setTop (mkF m 33 #[.val (.int p1), .val (.int p2), .val (.int ((p2 &&& (2147483647 : Int32)) % (26 : Int32))), .val (.int ((65 : Int32) + ((p2 &&& (2147483647 : Int32)) % (26 : Int32)))), .val (.long ((p1.toInt64) - (65 : Int64))), .second, .unset, .unset] [(.long (26 : Int64)), (.long ((p1.toInt64) - (65 : Int64)))])) _
      refine XT.lcmp X0.here hx rfl (hb hby at_33) rfl ?_
      exact uK
    by_cases hc34 : ((p1.toInt64) - (65 : Int64)) < (26 : Int64)
    · refine own_st (T' := s₁) (g' := (mkF m 42 #[.val (.int p1), .val (.int p2), .val (.int ((p2 &&& (2147483647 : Int32)) % (26 : Int32))), .val (.int ((65 : Int32) + ((p2 &&& (2147483647 : Int32)) % (26 : Int32)))), .val (.long ((p1.toInt64) - (65 : Int64))), .second, .unset, .unset] [(.int (1 : Int32))])) (fun uT uK => ?_) ?_
      · show Steps p.tables e below (s₁.setTop (mkF m 34 #[.val (.int p1), .val (.int p2), .val (.int ((p2 &&& (2147483647 : Int32)) % (26 : Int32))), .val (.int ((65 : Int32) + ((p2 &&& (2147483647 : Int32)) % (26 : Int32)))), .val (.long ((p1.toInt64) - (65 : Int64))), .second, .unset, .unset] [(.int (XT.cmpL ((p1.toInt64) - (65 : Int64)) (26 : Int64)))])) _
        refine XS.ifNo X0.here hx rfl (hb hby at_34) rfl (XT.ll_ge_f hc34) ?_
        show Steps p.tables e below (s₁.setTop (mkF m 37 #[.val (.int p1), .val (.int p2), .val (.int ((p2 &&& (2147483647 : Int32)) % (26 : Int32))), .val (.int ((65 : Int32) + ((p2 &&& (2147483647 : Int32)) % (26 : Int32)))), .val (.long ((p1.toInt64) - (65 : Int64))), .second, .unset, .unset] [])) _
        refine XS.iconst X0.here hx rfl (hb hby at_37) ?_
        show Steps p.tables e below (s₁.setTop (mkF m 38 #[.val (.int p1), .val (.int p2), .val (.int ((p2 &&& (2147483647 : Int32)) % (26 : Int32))), .val (.int ((65 : Int32) + ((p2 &&& (2147483647 : Int32)) % (26 : Int32)))), .val (.long ((p1.toInt64) - (65 : Int64))), .second, .unset, .unset] [(.int (1 : Int32))])) _
        refine XS.goto X0.here hx rfl (pc0 := 38) (pc' := 42) rfl (hb hby at_38) (by decide) (by decide) ?_
        exact uK
      exact own_t42 p1 p2 (1 : Int32) h0 (by first | exact own_mid p1 hc25 hc34) K X0 e0 N0 Z0
    · refine own_st (T' := s₁) (g' := (mkF m 42 #[.val (.int p1), .val (.int p2), .val (.int ((p2 &&& (2147483647 : Int32)) % (26 : Int32))), .val (.int ((65 : Int32) + ((p2 &&& (2147483647 : Int32)) % (26 : Int32)))), .val (.long ((p1.toInt64) - (65 : Int64))), .second, .unset, .unset] [(.int (0 : Int32))])) (fun uT uK => ?_) ?_
      · show Steps p.tables e below (s₁.setTop (mkF m 34 #[.val (.int p1), .val (.int p2), .val (.int ((p2 &&& (2147483647 : Int32)) % (26 : Int32))), .val (.int ((65 : Int32) + ((p2 &&& (2147483647 : Int32)) % (26 : Int32)))), .val (.long ((p1.toInt64) - (65 : Int64))), .second, .unset, .unset] [(.int (XT.cmpL ((p1.toInt64) - (65 : Int64)) (26 : Int64)))])) _
        refine XS.ifYes X0.here hx rfl (pc0 := 34) (pc' := 41) rfl (hb hby at_34) rfl (XT.ll_ge_t hc34) (by decide) (by decide) ?_
        show Steps p.tables e below (s₁.setTop (mkF m 41 #[.val (.int p1), .val (.int p2), .val (.int ((p2 &&& (2147483647 : Int32)) % (26 : Int32))), .val (.int ((65 : Int32) + ((p2 &&& (2147483647 : Int32)) % (26 : Int32)))), .val (.long ((p1.toInt64) - (65 : Int64))), .second, .unset, .unset] [])) _
        refine XS.iconst X0.here hx rfl (hb hby at_41) ?_
        exact uK
      exact own_t42 p1 p2 (0 : Int32) h0 (by first | exact own_low p1 hc25 | exact own_high p1 hc25 hc34) K X0 e0 N0 Z0
set_option maxRecDepth 65536 in
set_option maxHeartbeats 40000000 in
theorem comes_1 {Post : Tables → Env → Array Value → State → Outcome → State → Prop} (hpost : ∀ tb e args s v u, (limb_1_1.after args s (.returned v) u = true ∧ limb_1_2.after args s (.returned v) u = true ∧ True) → FrameEnd s (.returned v) u (Jvm.fieldLocs frame_1_writes args s ++ Jvm.arrayLocs frame_1_arrays args s ++ Jvm.staticLocs frame_1_statics s) 0 0 → Post tb e args s (.returned v) u) :
    ArmFor flags0 classFile x code maxLocals ret World_1 tables_1 room_1 Calls_1 rest_1 Pre_1 Post := by
  intro l hfl _ _ p e ha hc hk s m args below hf hA hF happ hP
  obtain ⟨hcalls, hrest, hpre⟩ := hP
  obtain ⟨-, -, -, hnamed, -, -, -, hat⟩ := (Spec.applies_iff hf).mp happ
  obtain ⟨hg, hn⟩ := and_e (Cond.before_iff.mp (show (Jvm.Cond.and given_1 narrow_1).before args s = true from hpre))
  obtain ⟨hcount, ha0⟩ := and_e hg
  obtain ⟨hv0, ha1⟩ := and_e ha0
  have hv1 := ha1
  obtain ⟨w0, w1, rfl⟩ : ∃ w0 w1 : Value, args = #[w0, w1] := by
    have hs : args.size = 2 := by simpa [Cond.value, given_1] using hcount
    obtain ⟨L⟩ := args
    match L, hs with
    | [w0, w1], _ => exact ⟨w0, w1, rfl⟩
  have hw := fun d (hd : d ∈ tables_1) => atoms_spec (ws := Jvm.Cond.code x code maxLocals ret :: tables_1) hat d (List.mem_cons_of_mem _ hd)
  obtain ⟨i0, ei0⟩ := is_v hv0
  obtain rfl : w0 = (.int i0) := Option.some.inj ei0
  obtain ⟨i1, ei1⟩ := is_v hv1
  obtain rfl : w1 = (.int i1) := Option.some.inj ei1
  obtain ⟨n, o, h1, h2, h3, _, L, rfl, ⟨rfl, N⟩, hq⟩ := rm0 l s _ hw tables_1 i0 i1 s.heap s.heap.size (Nat.le_refl _) p e ha hc hk s m _ below hf ((Spec.applies_iff_loose hf).mp happ).1 ⟨rfl, State.Warmed39.refl s, rfl⟩ trivial
  refine ⟨n, _, h1, h2, h3, hpost _ _ _ _ _ _ ⟨Cond.after_iff.mpr rfl, Cond.after_iff.mpr (eq_i res_at (Term.int_eval (1)) rfl), trivial⟩ ⟨hq.1, hq.2.1, (hq.2.2.sift fun y hy => Or.inr (N y hy)).mono (by decide) (by decide)⟩⟩
theorem main_1_1 : Claimed_1_1 := comes_1 fun _ _ _ _ _ _ h hF => ⟨h.1, hF⟩
theorem main_1_2 : Claimed_1_2 := comes_1 fun _ _ _ _ _ _ h hF => ⟨h.2.1, hF⟩
end Jvm.Pilot.@@N@@
namespace Jvm.Pilot.@@N@@
open Jvm Jvm.ClassFile Sem Op Lib Jvm.Free Jvm.Stand Jvm.Pilot.@@N@@.Jvm.D
/-! MADE BY PROGRAM (witnessworld.py) out of the Statement's table words and the real class files: 7 classes; the members and pool entries that the words name. The judged class is class 1, her method 1. -/
namespace start1
open Jvm.ClassFile
def u (s : String) : CpInfo := .utf8 (stringToUtf16 s)
/-- a pool by its gaps: so many unusable entries, then the entry; so many at the end -/
def gap : Nat → List CpInfo → List CpInfo
  | 0, r => r
  | n + 1, r => .unusable :: gap n r
def poolList (es : List (Nat × CpInfo)) (last : Nat) : List CpInfo := es.foldr (fun e r => gap e.1 (e.2 :: r)) (gap last [])
def pool (es : List (Nat × CpInfo)) (last : Nat) : Array CpInfo := ⟨poolList es last⟩
def fileOf (pool : Array CpInfo) (this : Nat) (attrs : Array Attribute := #[]) (ms : Array MethodInfo := #[]) (fl : Nat := 33) (sup : Nat := 0) (ifs : Array Nat := #[]) (fds : Array FieldInfo := #[]) : ClassFile where
  minorVersion := 0
  majorVersion := 65
  constantPool := pool
  accessFlags := fl
  thisClass := this
  superClass := sup
  interfaces := ifs
  fields := fds
  methods := ms
  attributes := attrs
def plain (name : String) (sup : Option ClassId) : Class where
  name := name
  kind := .ordinary
  loader := none
  accessFlags := 33
  super := sup
  interfaces := #[]
  cf := none
  fields := #[]
  methods := #[]
  instanceTypes := #[]
  staticTypes := #[]
  resolved := #[]
  callSites := []
  init := .initialized
  statics := none
  mirror := none

def pool0 : Array CpInfo := pool [(5, u "<init>"), (0, u "()V"), (1, .class_ 10), (1, u "java/lang/Object")] 113

def k0m0 : Method := { name := "<init>", desc := "()V", sig := { parameters := [], returnType := none }, accessFlags := 1, code := none }
/-- java/lang/Object -/
def k0 : Class := { plain "java/lang/Object" none with
  accessFlags := 33
  interfaces := #[]
  cf := some (fileOf pool0 8 #[] #[{ accessFlags := 1, nameIndex := 5, descriptorIndex := 6, attributes := #[] }] 33 0 #[] #[])
  fields := #[]
  methods := #[k0m0]
  instanceTypes := #[]
  staticTypes := #[]
  resolved := Array.replicate 124 none
  statics := none }

def pool1 : Array CpInfo := pool [(2, .class_ 4), (1, u "java/lang/Object"), (0, u "<init>"), (0, u "()V"), (0, .integer 2147483647), (0, .long 65), (1, .long 26), (1, .methodref 13 14), (0, .class_ 15), (0, .nameAndType 16 17), (0, u "com/example/ledgerwire/ledgerwire/paymentlist/Ascii"), (0, u "isCapital"), (0, u "(I)Z"), (0, .class_ 19), (0, u "com/example/ledgerwire/ledgerwire/paymentlist/AsciiIsCapitalPinLaw"), (2, u "law"), (0, u "(II)Z")] 3

def k1m0 : Method := { name := "<init>", desc := "()V", sig := { parameters := [], returnType := none }, accessFlags := 2, code := none }
def k1c1 : Code := { maxStack := 4, maxLocals := 8, code := code, exceptionTable := #[], attributes := #[] }
def k1m1 : Method := { name := "law", desc := "(II)Z", sig := { parameters := [.int, .int], returnType := some .boolean }, accessFlags := 9, code := some k1c1 }
/-- com/example/ledgerwire/ledgerwire/paymentlist/AsciiIsCapitalPinLaw -/
def k1 : Class := { plain "com/example/ledgerwire/ledgerwire/paymentlist/AsciiIsCapitalPinLaw" (some 0) with
  accessFlags := 49
  interfaces := #[]
  cf := some (fileOf pool1 18 #[] #[{ accessFlags := 2, nameIndex := 5, descriptorIndex := 6, attributes := #[] }, { accessFlags := 9, nameIndex := 22, descriptorIndex := 23, attributes := #[] }] 49 2 #[] #[])
  fields := #[]
  methods := #[k1m0, k1m1]
  instanceTypes := #[]
  staticTypes := #[]
  resolved := Array.replicate 27 none
  statics := none }

def pool2 : Array CpInfo := pool [(2, .class_ 4), (1, u "java/lang/Object"), (0, u "<init>"), (0, u "()V"), (1, .class_ 10), (1, u "com/example/ledgerwire/ledgerwire/paymentlist/Ascii"), (0, u "isCapital"), (0, u "(I)Z")] 27

def k2m0 : Method := { name := "<init>", desc := "()V", sig := { parameters := [], returnType := none }, accessFlags := 2, code := none }
def k2c1 : Code := { maxStack := 2, maxLocals := 1, code := prog_108_method_3_code, exceptionTable := #[], attributes := #[] }
def k2m1 : Method := { name := "isCapital", desc := "(I)Z", sig := { parameters := [.int], returnType := some .boolean }, accessFlags := 8, code := some k2c1 }
/-- com/example/ledgerwire/ledgerwire/paymentlist/Ascii -/
def k2 : Class := { plain "com/example/ledgerwire/ledgerwire/paymentlist/Ascii" (some 0) with
  accessFlags := 48
  interfaces := #[]
  cf := some (fileOf pool2 8 #[] #[{ accessFlags := 2, nameIndex := 5, descriptorIndex := 6, attributes := #[] }, { accessFlags := 8, nameIndex := 11, descriptorIndex := 12, attributes := #[] }] 48 2 #[] #[])
  fields := #[]
  methods := #[k2m0, k2m1]
  instanceTypes := #[]
  staticTypes := #[]
  resolved := Array.replicate 40 none
  statics := none }

def pool3 : Array CpInfo := pool [(1, u "java/lang/Cloneable"), (0, .class_ 1), (0, u "java/lang/Object"), (0, .class_ 3)] 3

/-- java/lang/Cloneable -/
def k3 : Class := { plain "java/lang/Cloneable" (some 0) with
  accessFlags := 1537
  interfaces := #[]
  cf := some (fileOf pool3 2 #[] #[] 1537 4 #[] #[])
  fields := #[]
  methods := #[]
  instanceTypes := #[]
  staticTypes := #[]
  resolved := Array.replicate 8 none
  statics := none }

def pool4 : Array CpInfo := pool [(1, u "java/io/Serializable"), (0, .class_ 1), (0, u "java/lang/Object"), (0, .class_ 3)] 3

/-- java/io/Serializable -/
def k4 : Class := { plain "java/io/Serializable" (some 0) with
  accessFlags := 1537
  interfaces := #[]
  cf := some (fileOf pool4 2 #[] #[] 1537 4 #[] #[])
  fields := #[]
  methods := #[]
  instanceTypes := #[]
  staticTypes := #[]
  resolved := Array.replicate 8 none
  statics := none }

/-- the primitive byte -/
def k5 : Class := { plain "byte" none with kind := .primitive 'B', accessFlags := 0x411 }
/-- [B -/
def k6 : Class := { plain "[B" (some 0) with kind := .array 5 .byte, interfaces := #[3, 4], accessFlags := 1041 }

def heap : Heap := #[]
def classes : Array Class := #[k0, k1, k2, k3, k4, k5, k6]
def interned : List (Array UInt16 × Addr) := []
def slotsUsed : Nat := 0
def theMethod : MethodId := ⟨1, 1⟩
def args0 : Array Value := #[.int 70, .int 5]
def aboutOver (below : List Frame) : State where
  vm := { classes := classes, interned := interned.toArray }
  heap := heap
  slotsUsed := slotsUsed
  threads := #[{ frames := .invoking theMethod args0 :: below }]
def below0 : List Frame := [.native { method := ⟨0, 0⟩, args := #[] }]
def about1 : State := aboutOver below0
def p0 : Program := .bare "" "" ""
def e0 : Env := launch0.env 0 0 0
theorem w_frames : about1.frames = Frame.invoking theMethod args0 :: below0 := rfl
set_option maxRecDepth 65536 in
theorem w_args : argsFit about1.vm theMethod args0 = true := by decide +kernel
set_option maxRecDepth 65536 in
theorem w_heap : heapFits about1 = true := by decide +kernel
set_option maxRecDepth 65536 in
theorem w_runnable : about1.curStatus? = some .runnable := by decide +kernel
set_option maxRecDepth 65536 in
theorem w_alone : about1.alone = true := by decide +kernel
set_option maxRecDepth 65536 in
theorem w_named : about1.methodNamed? x = some theMethod := by decide +kernel
set_option maxRecDepth 65536 in
theorem w_hears : about1.hears theMethod below0 = true := by decide +kernel
set_option maxRecDepth 65536 in
theorem w_ripe : about1.ripe theMethod args0 below0 = true := by decide +kernel
theorem w_running : about1.status = .running := rfl
set_option maxRecDepth 65536 in
theorem w_room : about1.hasRoom e0.platform room_1 = true :=
  launch0.hasRoom_least _ room_1 (by decide +kernel) (by decide +kernel) (by decide +kernel) (by decide +kernel) (by decide +kernel) (by decide +kernel)
theorem allAtoms_all (ts : List Jvm.Cond) (a : Array Jvm.Value) (st : Jvm.State) : (allAtoms ts).before a st = ts.all (fun c => c.before a st) := by
  induction ts with
  | nil => rfl
  | cons c t ih =>
    show (Jvm.Cond.and c (allAtoms t)).before a st = _
    rw [Jvm.Cond.before_and, ih, List.all_cons]
def words1 : List Jvm.Cond := Jvm.Cond.code x code maxLocals ret :: tables_1
/-- a 'code' word, met by the world's own term for the bytes: nothing is compared byte by byte -/
theorem code_word {y : MethodName} {bytes : ByteArray} {mx : Nat} {rt : Option FieldType} {a : Array Value} {s : State} {m : MethodId} {meth : Method} {c : Code} (h1 : s.methodNamed? y = some m) (h2 : s.vm.method? m = some meth) (h3 : meth.code = some c) (h4 : c.code = bytes)
    (h5 : (c.maxLocals == mx && c.exceptionTable.isEmpty && decide (c.maxStack ≤ mostOperands) && decide (meth.sig.returnType = rt) && !meth.locks && decide (parseMethodDescriptor y.desc = some meth.sig)) = true) : (Jvm.Cond.code y bytes mx rt).before a s = true := by
  simp only [Bool.and_eq_true, beq_iff_eq, Bool.not_eq_true', decide_eq_true_eq] at h5
  obtain ⟨⟨⟨⟨⟨g1, g2⟩, g3⟩, g4⟩, g5⟩, g6⟩ := h5
  simp [Cond.before, Cond.holds, Cond.value, h1, h2, h3, h4, g1, g2, g3, g4, g5, g6]
def isCode : Jvm.Cond → Bool
  | .code _ _ _ _ => true
  | _ => false
theorem all_split {L : List Jvm.Cond} {P : Jvm.Cond → Bool} (h1 : L.all (fun c => isCode c || P c) = true) (h2 : ∀ c ∈ L.filter isCode, P c = true) : L.all P = true := by
  refine List.all_eq_true.mpr fun c hc => ?_
  have h := List.all_eq_true.mp h1 c hc
  rcases Bool.eq_false_or_eq_true (isCode c) with hi | hi
  · exact h2 c (List.mem_filter.mpr ⟨hc, hi⟩)
  · simpa [hi] using h
set_option maxRecDepth 65536 in
theorem w_c0 : (Jvm.Cond.code x code maxLocals ret).before args0 about1 = true := code_word (m := ⟨1, 1⟩) (meth := k1m1) (c := k1c1) (by decide +kernel) rfl rfl rfl (by decide +kernel)
set_option maxRecDepth 65536 in
theorem w_c1 : (Jvm.Cond.code ({ cls := "com/example/ledgerwire/ledgerwire/paymentlist/Ascii", name := "isCapital", desc := "(I)Z" } : Jvm.MethodName) prog_108_method_3_code (1 : Nat) (Option.some Jvm.ClassFile.FieldType.boolean)).before args0 about1 = true := code_word (m := ⟨2, 1⟩) (meth := k2m1) (c := k2c1) (by decide +kernel) rfl rfl rfl (by decide +kernel)
def codes1 : List Jvm.Cond := [Jvm.Cond.code x code maxLocals ret, Jvm.Cond.code ({ cls := "com/example/ledgerwire/ledgerwire/paymentlist/Ascii", name := "isCapital", desc := "(I)Z" } : Jvm.MethodName) prog_108_method_3_code (1 : Nat) (Option.some Jvm.ClassFile.FieldType.boolean)]
set_option maxRecDepth 65536 in
theorem codes_eq : words1.filter isCode = codes1 := rfl
theorem w_codes : ∀ c ∈ words1.filter isCode, c.before args0 about1 = true := by
  rw [codes_eq]
  intro c hc
  simp only [codes1, List.mem_cons, List.not_mem_nil, or_false] at hc
  rcases hc with rfl | rfl
  · exact w_c0
  · exact w_c1
set_option maxRecDepth 65536 in
theorem w_t1 : words1.all (fun c => isCode c || c.before args0 about1) = true := by decide +kernel
theorem w_tables : (allAtoms (Jvm.Cond.code x code maxLocals ret :: tables_1)).before args0 about1 = true := by
  rw [allAtoms_all]
  show words1.all (fun c => c.before args0 about1) = true
  refine all_split ?_ w_codes
  rw [w_t1]
set_option maxRecDepth 65536 in
theorem w_case : (Jvm.Cond.and given_1 narrow_1).before args0 about1 = true := by decide +kernel
theorem w_applies : (headSpec (Jvm.Cond.code x code maxLocals ret :: tables_1) room_1).applies x e0.platform about1 = true :=
  (Spec.applies_iff w_frames).mpr ⟨w_running, w_runnable, w_alone, w_named, w_hears, w_ripe, w_room, w_tables⟩
theorem atStart : AtStart classFile x code maxLocals ret World_1 tables_1 room_1 Calls_1 rest_1 Pre_1 launch0 p0 e0 about1 theMethod args0 below0 :=
  ⟨lists_1, trivial, launch0.admits_env _ _ _, launch0.least_env, fairChoices_fair.cas, fairChoices_fair.clock, w_frames, w_args, w_heap, w_applies, trivial, trivial, w_case⟩
end start1
theorem witness_1 : WitnessClaimed_1 := ⟨start1.p0, start1.e0, start1.about1, start1.theMethod, start1.args0, start1.below0, start1.atStart⟩
end Jvm.Pilot.@@N@@
