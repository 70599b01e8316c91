import JvmDerived
import JvmDerived.Pilot.@@N@@Statement
import JvmDerived.Pilot.@@N@@Code
set_option linter.unusedVariables false
set_option linter.unusedSimpArgs false
@@BLOCK:NumsL.lean.txt@@
namespace Jvm.Pilot.@@N@@
open Jvm Jvm.ClassFile Sem Op Lib Jvm.Free Jvm.Stand Jvm.LawKit Jvm.RoadKit Bundle Jvm.Pilot.@@N@@.Jvm.D
/-! OwnGo: from here the run ends, returning as Q says -/
def OwnGo (p : Program) (e : Env) (below : List Frame) (s : State) (C S : Nat) (Q : Option Value → Heap → List Loc → Prop) (T : State) (g : JFrame) : Prop :=
  ∃ s₂ o, Steps p.tables e below (T.setTop g) s₂ ∧ s₂.status = .running ∧ Ended s₂ below o ∧ ∃ v L, o = .returned v ∧ Q v s₂.heap L ∧ FrameEnd s o s₂ L C S
section OwnBase
variable {p : Program} {l : Launch} {e : Env} {R : Room} {s : State} {m : MethodId} {args : Array Value} {below : List Frame} {meth : Method} {c : Code} {T T' : State} {locs : List Loc} {cells slots C S : Nat} {Q : Option Value → Heap → List Loc → Prop} {g g' : JFrame}
theorem own_st (k : ∀ t, Steps p.tables e below (T'.setTop g') t → Steps p.tables e below (T.setTop g) t) (h : OwnGo p e below s C S Q T' g') : OwnGo p e below s C S Q T g := by
  obtain ⟨s₂, o, h1, h2⟩ := h
  exact ⟨s₂, o, k _ h1, h2⟩
theorem own_tr (k : Steps p.tables e below (T.setTop g) (T'.setTop g')) (h : OwnGo p e below s C S Q T' g') : OwnGo p e below s C S Q T g := by
  obtain ⟨s₂, o, h1, h2⟩ := h
  exact ⟨s₂, o, k.trans h1, h2⟩
theorem own_cast (q : g = g') (h : OwnGo p e below s C S Q T g') : OwnGo p e below s C S Q T g := q ▸ h
theorem own_ret {v : Option Value} (X : Stand p l e R s m args below meth c T locs cells slots) (hlk : meth.locks = false) (hv : meth.sig.returnType = none → v = none)
    (step : ∀ fs, (∀ (f : JFrame) (acts : List Action), f.method = m → f.locked = none → f.entered = [] → (doReturn e (T.setTop f) acts v).1 = T.setFrames fs) → Steps p.tables e below (T.setTop g) (T.setFrames fs))
    (hQ : Q v T.heap locs) (hc : cells ≤ C) (hs : slots ≤ S) : OwnGo p e below s C S Q T g := by
  obtain ⟨fs, hr, hrun, hended, hW, hsame⟩ := X.leave (v := v) hv hlk
  exact ⟨_, _, step fs hr, hrun, hended, v, locs, rfl, hQ, ⟨_, rfl⟩, hW, hsame.mono hc hs⟩
end OwnBase

/-! the plain law: limbs of 62 bits -/
def own_limbs : Nat → Int64 → List Int64
  | 0, v => [v]
  | k + 1, v => (v &&& (4611686018427387903 : Int64)) :: own_limbs k (v >>> ((62 : Int32).toInt64 &&& 63))
def own_hv : List Int64 → Int64 → List Int64
  | [], _ => []
  | x :: l, c => ((c <<< ((61 : Int32).toInt64 &&& 63)) ||| (x >>> ((1 : Int32).toInt64 &&& 63))) :: own_hv l (x &&& (1 : Int64))
def own_db : Int64 → List Int64 → Int64 → List Int64
  | x, [], c => [x + x + c]
  | x, y :: l, c => ((x + x + c) &&& (4611686018427387903 : Int64)) :: own_db y l ((x + x + c) >>> ((62 : Int32).toInt64 &&& 63))
def own_dbok : Int64 → List Int64 → Int64 → Prop
  | x, [], c => XT.fits64 (x.toInt + x.toInt) ∧ XT.fits64 ((x + x).toInt + c.toInt)
  | x, y :: l, c => own_dbok y l ((x + x + c) >>> ((62 : Int32).toInt64 &&& 63))
theorem own_limbs_len : ∀ (k : Nat) (v : Int64), (own_limbs k v).length = k + 1
  | 0, _ => rfl
  | k + 1, v => by rw [own_limbs, List.length_cons, own_limbs_len k]
theorem own_hv_len : ∀ (l : List Int64) (c : Int64), (own_hv l c).length = l.length
  | [], _ => rfl
  | x :: l, c => by rw [own_hv, List.length_cons, own_hv_len l, List.length_cons]
theorem own_db_len : ∀ (l : List Int64) (x c : Int64), (own_db x l c).length = l.length + 1
  | [], _, _ => rfl
  | y :: l, x, c => by rw [own_db, List.length_cons, own_db_len l, List.length_cons]
/-! lists -/
theorem own_setg (P A B Sf : List Int64) (x y : Int64) : (P ++ (A ++ x :: B) ++ Sf).set (P.length + A.length) y = P ++ (A ++ y :: B) ++ Sf := by
  rw [List.append_assoc, List.append_assoc, List.set_append_right _ _ (Nat.le_add_right _ _), Nat.add_sub_cancel_left, List.append_assoc, List.append_assoc]
  congr 1
  rw [List.set_append_right _ _ (Nat.le_refl _), Nat.sub_self]; rfl
theorem own_getg (P A B Sf : List Int64) (x : Int64) : (P ++ (A ++ x :: B) ++ Sf).getD (P.length + A.length) 0 = x := by
  rw [List.append_assoc, List.append_assoc]
  simp [List.getD, List.getElem?_append_right]
theorem own_leng (P A B Sf : List Int64) (x : Int64) : P.length + A.length < (P ++ (A ++ x :: B) ++ Sf).length := by simp only [List.length_append, List.length_cons]; omega
theorem own_rev (y : Int64) (L D : List Int64) : (y :: L).reverse ++ D = L.reverse ++ y :: D := by simp
/-! small naturals as ints -/
theorem own_nat {i : Nat} (h : i ≤ 32) : (Int32.ofNat i).toInt = i := Int32.toInt_ofNat_of_lt (by omega)
theorem own_clamp {i : Nat} (h : i ≤ 32) : (Int32.ofNat i).toNatClampNeg = i := by
  have e := own_nat h
  simp only [Int32.toNatClampNeg, e]; omega
theorem own_ltN {i j : Nat} (hi : i ≤ 32) (hj : j ≤ 32) : Int32.ofNat i < Int32.ofNat j ↔ i < j := by
  rw [Int32.lt_iff_toInt_lt, own_nat hi, own_nat hj]; omega
theorem own_eqN {i j : Nat} (hi : i ≤ 32) (hj : j ≤ 32) : Int32.ofNat i = Int32.ofNat j ↔ i = j := by
  constructor
  · intro h
    have e := congrArg Int32.toInt h
    rw [own_nat hi, own_nat hj] at e; omega
  · rintro rfl; rfl
theorem own_i1 (i : Nat) : Int32.ofNat i + (1 : Int32) = Int32.ofNat (i + 1) := (Int32.ofNat_add i 1).symm
theorem own_pred (k : Nat) : Int32.ofNat (k + 1) - (1 : Int32) = Int32.ofNat k := by
  rw [← own_i1, Int32.add_sub_cancel]
theorem own_dec (k : Nat) : Int32.ofNat (k + 1) + (-1 : Int32) = Int32.ofNat k := by
  rw [← Int32.sub_eq_add_neg, own_pred]
theorem own_addN (a b : Nat) : Int32.ofNat a + Int32.ofNat b = Int32.ofNat (a + b) := (Int32.ofNat_add a b).symm
theorem own_zeroM (k : Nat) : (0 : Int32) * Int32.ofNat k = Int32.ofNat 0 := by rw [Int32.zero_mul]; rfl
theorem own_oneM (k : Nat) : (1 : Int32) * Int32.ofNat k = Int32.ofNat k := by rw [Int32.one_mul]
theorem own_twoM (k : Nat) : (2 : Int32) * Int32.ofNat k = Int32.ofNat (k + k) := by
  rw [← own_addN, show (2 : Int32) = 1 + 1 from rfl, Int32.add_mul, Int32.one_mul]
theorem own_pos {k : Nat} (h : k ≤ 16) : (0 : Int32) < Int32.ofNat (k + 1) := by
  rw [Int32.lt_iff_toInt_lt, own_nat (by omega)]; show (0 : Int) < _; omega
theorem own_lim (p : Int32) : ∃ k : Nat, k ≤ 3 ∧ ((1 : Int32) + (p &&& (3 : Int32))) = Int32.ofNat (k + 1) := by
  have e1 : (p &&& 3).toInt = p.toInt % 2 ^ 2 := Jvm.Kit.i32_mask p 3 (k := 2) (by decide) (by decide)
  generalize (p &&& 3) = y at *
  refine ⟨y.toInt.toNat, by omega, ?_⟩
  apply Int32.toInt_inj.mp
  have e3 : (1 : Int32).toInt = 1 := rfl
  rw [own_nat (by omega), Jvm.Kit.i32_add (by omega) (by omega), e3]; omega
/-! the object, as the walk sees it -/
def own_w (Z : State) (h : Heap) (ob wb : Addr) (kc : ClassId) (k0 : Nat) (vs : List Int64) : Prop :=
  Exa Z h ob "com/example/matchwright/matchwright/service/matching/WideArray" ∧ Fld Z h ob "com/example/matchwright/matchwright/service/matching/WideArray" "limbs" "I" (.int (Int32.ofNat (k0 + 1))) ∧ Fld Z h ob "com/example/matchwright/matchwright/service/matching/WideArray" "words" "[J" (.ref wb) ∧ Arv Z h wb kc .long (Int32.ofNat vs.length) (vs.map Value.long) (.long 0) ∧ vs.length ≤ 16 ∧ ob ≠ wb
theorem own_w_keep {Z : State} {h h' : Heap} {ob wb : Addr} {kc : ClassId} {k0 : Nat} {vs : List Int64} {ws : List Addr} (O : own_w Z h ob wb kc k0 vs) (K : Keep h h' ws) (h1 : ob ∉ ws) (h2 : wb ∉ ws) : own_w Z h' ob wb kc k0 vs :=
  ⟨O.1.keep K, O.2.1.keep K h1, O.2.2.1.keep K h1, O.2.2.2.1.keep K h2, O.2.2.2.2⟩
theorem own_w_ext {Z : State} {h h' : Heap} {ob wb : Addr} {kc : ClassId} {k0 : Nat} {vs : List Int64} (O : own_w Z h ob wb kc k0 vs) (E : Ext h h') : own_w Z h' ob wb kc k0 vs :=
  ⟨O.1.ext E, O.2.1.ext E, O.2.2.1.ext E, O.2.2.2.1.ext E, O.2.2.2.2⟩
theorem own_inb {c : Cell} {i n : Nat} (S : c.slots.size = (Int32.ofNat n).toNatClampNeg) (hn : n ≤ 16) (h : i < n) : ¬ (Int32.ofNat i < 0 ∨ c.slots.size ≤ (Int32.ofNat i).toNatClampNeg) := by
  refine inb_of S ⟨?_, ?_⟩
  · rw [Int32.lt_iff_toInt_lt, own_nat (by omega)]; show ¬ _ < (0 : Int); omega
  · rw [own_ltN (by omega) (by omega)]; exact h
theorem own_getD (vs : List Int64) {i : Nat} (h : i ≤ 16) : (vs.map Value.long).getD (Int32.ofNat i).toNatClampNeg (.long 0) = .long (vs.getD i 0) := by
  rw [own_clamp (by omega)]
  simp only [List.getD, List.getElem?_map]
  cases vs[i]? <;> rfl
theorem own_setMap (vs : List Int64) (i : Nat) (y : Int64) : (vs.map Value.long).set i (.long y) = (vs.set i y).map Value.long := by
  rw [List.map_set]
section OwnSt
variable {p : Program} {l : Launch} {e : Env} {R : Room} {s : State} {m : MethodId} {args : Array Value} {below : List Frame} {meth : Method} {c : Code} {T : State} {locs : List Loc} {cells slots : Nat} {Z : State} {h : Heap} {n0 : Nat}
theorem own_ldJ (X : Stand p l e R s m args below meth c T locs cells slots) (hx : p.tables.exec = Jvm.exec) (hZ : Z.Warmed39 s.vm) (eT : T.heap = h) {ob wb : Addr} {kc : ClassId} {k0 : Nat} {vs : List Int64} (O : own_w Z h ob wb kc k0 vs) {j : Nat} (hj : j < vs.length) {y : Int64} (hv : vs.getD j 0 = y)
    {g : JFrame} (hg : g.method = m) {rest : List Value} (hs : g.stack = .int (Int32.ofNat j) :: .ref wb :: rest) (hd : decode c.code g.pc = .ok (.laload, 1)) :
    ∀ target, Steps p.tables e below (T.setTop { g with pc := g.pc + 1, stack := .long y :: rest }) target → Steps p.tables e below (T.setTop g) target := by
  obtain ⟨-, -, -, ⟨cl, A, q, Sz, Nn, H, G⟩, hl, -⟩ := O
  intro target k
  have hin := own_inb Sz hl hj
  exact X.laload hx (j := Int32.ofNat j) (v := .long y) (by rw [eT]; exact A.1) (State.isArrayOf_alike hZ.alike A.2.1) A.2.2 hin (Has.at H hin (by rw [own_getD vs (by omega), hv])) hg hs hd target k
theorem own_stJ (X : Stand p l e R s m args below meth c T locs cells slots) (hx : p.tables.exec = Jvm.exec) (hZ : Z.Warmed39 s.vm) (eT : T.heap = h) {ob wb : Addr} {kc : ClassId} {k0 : Nat} {vs : List Int64} (O : own_w Z h ob wb kc k0 vs) {j : Nat} (hj : j < vs.length) {y : Int64} {us : List Int64} (hu : vs.set j y = us)
    (N : Fr n0 locs) (gw : n0 ≤ wb) {g : JFrame} (hg : g.method = m) {rest : List Value} (hs : g.stack = .long y :: .int (Int32.ofNat j) :: .ref wb :: rest) (hd : decode c.code g.pc = .ok (.lastore, 1)) :
    ∃ T' h' locs', Stand p l e R s m args below meth c T' locs' cells slots ∧ T'.heap = h' ∧ own_w Z h' ob wb kc k0 us ∧ Fr n0 locs' ∧ Keep h h' [wb] ∧
      ∀ target, Steps p.tables e below (T'.setTop { g with pc := g.pc + 1, stack := rest }) target → Steps p.tables e below (T.setTop g) target := by
  obtain ⟨O1, O2, O3, ⟨cl, A, q, Sz, Nn, H, G⟩, hl, hne⟩ := O
  obtain ⟨T', h', X', e', W, st⟩ := stJ X hx hZ eT A (own_inb Sz hl hj) hg hs hd
  refine ⟨T', h', _, X', e', ⟨O1.wr W, O2.other W (Or.inl hne), O3.other W (Or.inl hne), ?_, by rw [← hu, List.length_set]; exact hl, hne⟩, Fr.snoc X' N gw, Keep.of_wr W, st⟩
  have V' := Arv.set A q Sz Nn H G (v := .long y) rfl W j (own_clamp (by omega)) (by rw [List.length_map]; exact hj)
  rw [own_setMap, hu] at V'
  have hl2 : us.length = vs.length := by rw [← hu, List.length_set]
  rw [hl2]; exact V'
end OwnSt
def own_two (s t : Slot) : Prop := (s = .unset ∧ t = .unset) ∨ ∃ z : Int64, s = .val (.long z) ∧ t = .second
theorem own_sto4 {ob : Addr} {x1 x2 x3 : Int32} {c v : Int64} {s6 s7 : Slot} (h : own_two s6 s7) : storeLocals #[.val (.ref ob), .val (.int x1), .val (.int x2), .val (.int x3), .val (.long c), .second, s6, s7] 6 (.long v) = some #[.val (.ref ob), .val (.int x1), .val (.int x2), .val (.int x3), .val (.long c), .second, .val (.long v), .second] := by
  rcases h with ⟨rfl, rfl⟩ | ⟨z, rfl, rfl⟩ <;> rfl
theorem own_sto11 {ob oc : Addr} {x1 x3 x4 x5 x6 x7 x10 : Int32} {c v : Int64} {s11 s12 s13 s14 : Slot} (h : own_two s11 s12) : storeLocals #[.val (.ref ob), .val (.int x1), .val (.ref oc), .val (.int x3), .val (.int x4), .val (.int x5), .val (.int x6), .val (.int x7), .val (.long c), .second, .val (.int x10), s11, s12, s13, s14] 11 (.long v) = some #[.val (.ref ob), .val (.int x1), .val (.ref oc), .val (.int x3), .val (.int x4), .val (.int x5), .val (.int x6), .val (.int x7), .val (.long c), .second, .val (.int x10), .val (.long v), .second, s13, s14] := by
  rcases h with ⟨rfl, rfl⟩ | ⟨z, rfl, rfl⟩ <;> rfl
theorem own_sto13 {ob oc : Addr} {x1 x3 x4 x5 x6 x7 x10 : Int32} {c v w : Int64} {s13 s14 : Slot} (h : own_two s13 s14) : storeLocals #[.val (.ref ob), .val (.int x1), .val (.ref oc), .val (.int x3), .val (.int x4), .val (.int x5), .val (.int x6), .val (.int x7), .val (.long c), .second, .val (.int x10), .val (.long w), .second, s13, s14] 13 (.long v) = some #[.val (.ref ob), .val (.int x1), .val (.ref oc), .val (.int x3), .val (.int x4), .val (.int x5), .val (.int x6), .val (.int x7), .val (.long c), .second, .val (.int x10), .val (.long w), .second, .val (.long v), .second] := by
  rcases h with ⟨rfl, rfl⟩ | ⟨z, rfl, rfl⟩ <;> rfl
theorem own_sto10 {ob oc : Addr} {x1 x3 x4 x5 x6 x7 x10 : Int32} {c v : Int64} {s11 s12 s13 s14 : Slot} (h : own_two s11 s12) : storeLocals #[.val (.ref ob), .val (.int x1), .val (.ref oc), .val (.int x3), .val (.int x4), .val (.int x5), .val (.int x6), .val (.int x7), .val (.long c), .second, .val (.int x10), s11, s12, s13, s14] 10 (.long v) = some #[.val (.ref ob), .val (.int x1), .val (.ref oc), .val (.int x3), .val (.int x4), .val (.int x5), .val (.int x6), .val (.int x7), .val (.long c), .second, .val (.long v), .second, .unset, s13, s14] := by
  rcases h with ⟨rfl, rfl⟩ | ⟨z, rfl, rfl⟩ <;> rfl
/-! the arithmetic of the law -/
theorem own_s62 (v : Int64) : (v >>> ((62 : Int32).toInt64 &&& 63)).toInt = v.toInt / 2 ^ 62 := Jvm.Kit.i64_shr v _ (k := 62) (by decide)
theorem own_s1 (v : Int64) : (v >>> ((1 : Int32).toInt64 &&& 63)).toInt = v.toInt / 2 ^ 1 := Jvm.Kit.i64_shr v _ (k := 1) (by decide)
theorem own_m62 (v : Int64) : (v &&& (4611686018427387903 : Int64)).toInt = v.toInt % 2 ^ 62 := Jvm.Kit.i64_mask v 4611686018427387903 (k := 62) (by decide) (by decide)
theorem own_m1 (v : Int64) : (v &&& (1 : Int64)).toInt = v.toInt % 2 ^ 1 := Jvm.Kit.i64_mask v 1 (k := 1) (by decide) (by decide)
theorem own_sh (v : Int64) : ((v &&& (-2 : Int64)) >>> ((1 : Int32).toInt64 &&& 63)) = v >>> ((1 : Int32).toInt64 &&& 63) := by
  apply Int64.toBitVec_inj.mp
  rw [Int64.toBitVec_shiftRight, Int64.toBitVec_shiftRight, Int64.toBitVec_and]
  have e : (BitVec.smod (((1 : Int32).toInt64 &&& 63)).toBitVec 64).toNat = 1 := by decide
  show BitVec.sshiftRight _ _ = BitVec.sshiftRight _ _
  rw [e, BitVec.sshiftRight_and_distrib]
  have e2 : BitVec.sshiftRight (-2 : Int64).toBitVec 1 = BitVec.allOnes 64 := by decide
  rw [e2, BitVec.and_allOnes]
theorem own_or61 {y : Int64} (h1 : 0 ≤ y.toInt) (h2 : y.toInt < 2 ^ 61) : ((2305843009213693952 : Int64) ||| y).toInt = 2305843009213693952 + y.toInt := by
  have e : y.toInt = y.toBitVec.toInt := rfl
  have hlt := y.toBitVec.isLt
  have hn : y.toBitVec.toNat < 2 ^ 61 := by
    rw [e, BitVec.toInt_eq_toNat_cond] at h1 h2
    by_cases q : 2 * y.toBitVec.toNat < 2 ^ 64
    · rw [if_pos q] at h2; omega
    · rw [if_neg q] at h1; omega
  have e0 : y.toInt = (y.toBitVec.toNat : Int) := by
    rw [e, BitVec.toInt_eq_toNat_cond, if_pos (by omega)]
  have e1 : ((2305843009213693952 : Int64) ||| y).toBitVec.toNat = 2 ^ 61 ||| y.toBitVec.toNat := by
    rw [Int64.toBitVec_or, BitVec.toNat_or]; rfl
  have e2 : 2 ^ 61 ||| y.toBitVec.toNat = 2 ^ 61 + y.toBitVec.toNat := by
    have q := Nat.two_pow_add_eq_or_of_lt hn 1
    rw [Nat.mul_one] at q; exact q.symm
  have e3 : ((2305843009213693952 : Int64) ||| y).toInt = (((2305843009213693952 : Int64) ||| y).toBitVec.toNat : Int) := by
    show BitVec.toInt _ = _
    rw [BitVec.toInt_eq_toNat_cond, if_pos (by rw [e1, e2]; omega)]
  rw [e3, e1, e2, e0]; omega
theorem own_join {c x : Int64} (hc : c.toInt = 0 ∨ c.toInt = 1) (h1 : 0 ≤ x.toInt) (h2 : x.toInt < 2 ^ 62) : ((c <<< ((61 : Int32).toInt64 &&& 63)) ||| (x >>> ((1 : Int32).toInt64 &&& 63))).toInt = c.toInt * 2 ^ 61 + x.toInt / 2 := by
  have e1 := own_s1 x
  rcases hc with h | h
  · obtain rfl : c = 0 := Int64.toInt_inj.mp h
    have e : ((0 : Int64) <<< ((61 : Int32).toInt64 &&& 63)) = 0 := by decide
    rw [e, Int64.zero_or, e1, h]; omega
  · obtain rfl : c = 1 := Int64.toInt_inj.mp h
    have e : ((1 : Int64) <<< ((61 : Int32).toInt64 &&& 63)) = 2305843009213693952 := by decide
    rw [e, own_or61 (by omega) (by omega), e1, h]; omega
def own_last : List Int64 → Int64 → Int64
  | [], c => c
  | x :: l, _ => own_last l (x &&& (1 : Int64))
theorem own_last_snoc (y : Int64) : ∀ (l : List Int64) (c : Int64), own_last (l ++ [y]) c = y &&& (1 : Int64)
  | [], _ => rfl
  | x :: l, c => own_last_snoc y l (x &&& (1 : Int64))
theorem own_hv_snoc (y : Int64) : ∀ (l : List Int64) (c : Int64), own_hv (l ++ [y]) c = own_hv l c ++ [((own_last l c <<< ((61 : Int32).toInt64 &&& 63)) ||| (y >>> ((1 : Int32).toInt64 &&& 63)))]
  | [], _ => rfl
  | x :: l, c => by
    show _ :: own_hv (l ++ [y]) (x &&& (1 : Int64)) = _ :: (own_hv l (x &&& (1 : Int64)) ++ _)
    rw [own_hv_snoc y l]; rfl
theorem own_mm (v : Int64) : ((v &&& (4611686018427387903 : Int64)) &&& (1 : Int64)) = v &&& (1 : Int64) := by
  apply Int64.toInt_inj.mp
  rw [own_m1, own_m62, own_m1]; omega
theorem own_jH (v : Int64) : ((((v >>> ((62 : Int32).toInt64 &&& 63)) &&& (1 : Int64)) <<< ((61 : Int32).toInt64 &&& 63)) ||| ((v &&& (4611686018427387903 : Int64)) >>> ((1 : Int32).toInt64 &&& 63))) = (v >>> ((1 : Int32).toInt64 &&& 63)) &&& (4611686018427387903 : Int64) := by
  apply Int64.toInt_inj.mp
  have a1 := own_m1 (v >>> ((62 : Int32).toInt64 &&& 63))
  have a2 := own_s62 v
  have a3 := own_m62 v
  rw [own_join (by omega) (by omega) (by omega), a1, a2, a3, own_m62, own_s1]
  have := v.toInt_lt; have := v.le_toInt
  omega
theorem own_comm (v : Int64) : ((v >>> ((1 : Int32).toInt64 &&& 63)) >>> ((62 : Int32).toInt64 &&& 63)) = ((v >>> ((62 : Int32).toInt64 &&& 63)) >>> ((1 : Int32).toInt64 &&& 63)) := by
  apply Int64.toInt_inj.mp
  rw [own_s62, own_s1, own_s1, own_s62]
  have := v.toInt_lt; have := v.le_toInt
  omega
theorem own_H : ∀ (k : Nat) (v : Int64), ∃ (L : List Int64) (x : Int64), own_limbs k v = L.reverse ++ [x] ∧ L.length = k ∧ own_last L (x &&& (1 : Int64)) = v &&& (1 : Int64) ∧ (own_hv L (x &&& (1 : Int64))).reverse ++ [(x >>> ((1 : Int32).toInt64 &&& 63))] = own_limbs k (v >>> ((1 : Int32).toInt64 &&& 63))
  | 0, v => ⟨[], v, rfl, rfl, rfl, rfl⟩
  | k + 1, v => by
    obtain ⟨L, x, h1, h2, h3, h4⟩ := own_H k (v >>> ((62 : Int32).toInt64 &&& 63))
    refine ⟨L ++ [v &&& (4611686018427387903 : Int64)], x, ?_, by rw [List.length_append, h2]; rfl, ?_, ?_⟩
    · rw [own_limbs, h1, List.reverse_append]; rfl
    · rw [own_last_snoc, own_mm]
    · rw [own_hv_snoc, h3, own_jH, List.reverse_append, own_limbs, own_comm, ← h4]; rfl
theorem own_G : ∀ (k : Nat) (v c : Int64), (c.toInt = 0 ∨ c.toInt = 1) → (k = 0 → -2 ^ 62 ≤ v.toInt ∧ v.toInt < 2 ^ 62) → ∃ (x : Int64) (R : List Int64), own_limbs k v = x :: R ∧ R.length = k ∧ own_dbok x R c ∧
    ∃ (L : List Int64) (y : Int64), own_db x R c = L.reverse ++ [y] ∧ L.length = k ∧ own_last L (y &&& (1 : Int64)) = c ∧ (own_hv L (y &&& (1 : Int64))).reverse ++ [(y >>> ((1 : Int32).toInt64 &&& 63))] = own_limbs k v
  | 0, v, c, hc, hv => by
    have hv' := hv rfl
    have e1 : (v + v).toInt = v.toInt + v.toInt := Jvm.Kit.i64_add (by omega) (by omega)
    have e2 : (v + v + c).toInt = v.toInt + v.toInt + c.toInt := by rw [Jvm.Kit.i64_add (by omega) (by omega), e1]
    refine ⟨v, [], rfl, rfl, ⟨⟨by omega, by omega⟩, ⟨by omega, by omega⟩⟩, [], v + v + c, rfl, rfl, ?_, ?_⟩
    · show (v + v + c) &&& (1 : Int64) = c
      apply Int64.toInt_inj.mp
      rw [own_m1, e2]; omega
    · show [(v + v + c) >>> ((1 : Int32).toInt64 &&& 63)] = [v]
      congr 1
      apply Int64.toInt_inj.mp
      rw [own_s1, e2]; omega
  | k + 1, v, c, hc, _ => by
    have a3 := own_m62 v
    have a2 := own_s62 v
    have b1 := v.toInt_lt; have b2 := v.le_toInt
    generalize hx : (v &&& (4611686018427387903 : Int64)) = x at *
    have e1 : (x + x).toInt = x.toInt + x.toInt := Jvm.Kit.i64_add (by omega) (by omega)
    have e2 : (x + x + c).toInt = x.toInt + x.toInt + c.toInt := by rw [Jvm.Kit.i64_add (by omega) (by omega), e1]
    have e3 := own_s62 (x + x + c)
    have e4 := own_m62 (x + x + c)
    obtain ⟨x', R', g1, g2, g3, L, y, g4, g5, g6, g7⟩ := own_G k (v >>> ((62 : Int32).toInt64 &&& 63)) ((x + x + c) >>> ((62 : Int32).toInt64 &&& 63)) (by omega) (fun _ => by omega)
    refine ⟨x, x' :: R', by rw [own_limbs, hx, g1], by rw [List.length_cons, g2], g3, L ++ [(x + x + c) &&& (4611686018427387903 : Int64)], y, ?_, by rw [List.length_append, g5]; rfl, ?_, ?_⟩
    · rw [own_db, g4, List.reverse_append]; rfl
    · rw [own_last_snoc]
      apply Int64.toInt_inj.mp
      rw [own_m1, e4, e2]; omega
    · have ej : ((((x + x + c) >>> ((62 : Int32).toInt64 &&& 63)) <<< ((61 : Int32).toInt64 &&& 63)) ||| (((x + x + c) &&& (4611686018427387903 : Int64)) >>> ((1 : Int32).toInt64 &&& 63))) = x := by
        apply Int64.toInt_inj.mp
        rw [own_join (by omega) (by omega) (by omega), e3, e4, e2]; omega
      rw [own_hv_snoc, g6, ej, List.reverse_append, own_limbs, hx, ← g7]; rfl
theorem own_gA (A B : List Int64) {n : Nat} (hA : A.length = n) (j : Nat) : (A ++ B ++ []).getD (n + j) 0 = B.getD j 0 := by
  subst hA
  rw [List.append_nil]
  simp [List.getD, List.getElem?_append_right]
theorem own_gB (A B : List Int64) (j : Nat) (h : j < B.length) : (B ++ A ++ []).getD (0 + j) 0 = B.getD j 0 := by
  rw [List.append_nil, Nat.zero_add]
  simp [List.getD, List.getElem?_append_left h]
theorem pn_0 : plainName "com/example/matchwright/matchwright/service/matching/WideArrayHalvePinLaw" = true := by first | (simp [plainName, overriddenIn]; done) | decide +kernel
def Ctx0 (p : Program) (s : State) (m : MethodId) (meth : Method) (c : Code) (Z : State) (a0 : Array Value) : Prop := p.tables.exec = Jvm.exec ∧ Z.Warmed39 s.vm ∧ (∀ d ∈ tables_1, d.before a0 Z = true) ∧ c.code = code ∧ c.maxLocals = 11 ∧ s.vm.findClass "com/example/matchwright/matchwright/service/matching/WideArrayHalvePinLaw" = some m.cls ∧ meth.sig.returnType = ret ∧ meth.locks = false ∧ meth.name = "law"
theorem d1_0 : decode prog_131_method_1_code 0 = .ok (.aload_n 0, 1) := by decide +kernel
theorem d1_1 : decode prog_131_method_1_code 1 = .ok (.invokespecial 3, 3) := by decide +kernel
theorem d1_4 : decode prog_131_method_1_code 4 = .ok (.aload_n 0, 1) := by decide +kernel
theorem d1_5 : decode prog_131_method_1_code 5 = .ok (.iload_n 2, 1) := by decide +kernel
theorem d1_6 : decode prog_131_method_1_code 6 = .ok (.putfield 9, 3) := by decide +kernel
theorem d1_9 : decode prog_131_method_1_code 9 = .ok (.aload_n 0, 1) := by decide +kernel
theorem d1_10 : decode prog_131_method_1_code 10 = .ok (.iload_n 1, 1) := by decide +kernel
theorem d1_11 : decode prog_131_method_1_code 11 = .ok (.iload_n 2, 1) := by decide +kernel
theorem d1_12 : decode prog_131_method_1_code 12 = .ok (.imul, 1) := by decide +kernel
theorem d1_13 : decode prog_131_method_1_code 13 = .ok (.newarray .long, 2) := by decide +kernel
theorem d1_15 : decode prog_131_method_1_code 15 = .ok (.putfield 13, 3) := by decide +kernel
theorem d1_18 : decode prog_131_method_1_code 18 = .ok (.return_, 1) := by decide +kernel
theorem pn_1 : plainName "com/example/matchwright/matchwright/service/matching/WideArray" = true := by first | (simp [plainName, overriddenIn]; done) | decide +kernel
def Ctx1 (p : Program) (s : State) (m : MethodId) (meth : Method) (c : Code) (Z : State) (a0 : Array Value) : Prop := p.tables.exec = Jvm.exec ∧ Z.Warmed39 s.vm ∧ (∀ d ∈ tables_1, d.before a0 Z = true) ∧ c.code = prog_131_method_1_code ∧ c.maxLocals = 3 ∧ s.vm.findClass "com/example/matchwright/matchwright/service/matching/WideArray" = some m.cls ∧ meth.sig.returnType = none ∧ meth.locks = false ∧ meth.name = "<init>"
theorem d3_0 : decode prog_131_method_4_code 0 = .ok (.iload_n 1, 1) := by decide +kernel
theorem d3_1 : decode prog_131_method_4_code 1 = .ok (.aload_n 0, 1) := by decide +kernel
theorem d3_2 : decode prog_131_method_4_code 2 = .ok (.getfield 9, 3) := by decide +kernel
theorem d3_5 : decode prog_131_method_4_code 5 = .ok (.imul, 1) := by decide +kernel
theorem d3_6 : decode prog_131_method_4_code 6 = .ok (.istore 4, 2) := by decide +kernel
theorem d3_8 : decode prog_131_method_4_code 8 = .ok (.aload_n 0, 1) := by decide +kernel
theorem d3_9 : decode prog_131_method_4_code 9 = .ok (.getfield 9, 3) := by decide +kernel
theorem d3_12 : decode prog_131_method_4_code 12 = .ok (.iconst 1, 1) := by decide +kernel
theorem d3_13 : decode prog_131_method_4_code 13 = .ok (.isub, 1) := by decide +kernel
theorem d3_14 : decode prog_131_method_4_code 14 = .ok (.istore 5, 2) := by decide +kernel
theorem d3_16 : decode prog_131_method_4_code 16 = .ok (.lload_n 2, 1) := by decide +kernel
theorem d3_17 : decode prog_131_method_4_code 17 = .ok (.lstore 6, 2) := by decide +kernel
theorem d3_19 : decode prog_131_method_4_code 19 = .ok (.iconst 0, 1) := by decide +kernel
theorem d3_20 : decode prog_131_method_4_code 20 = .ok (.istore 8, 2) := by decide +kernel
theorem d3_22 : decode prog_131_method_4_code 22 = .ok (.iload 8, 2) := by decide +kernel
theorem d3_24 : decode prog_131_method_4_code 24 = .ok (.iload 5, 2) := by decide +kernel
theorem d3_26 : decode prog_131_method_4_code 26 = .ok (.if_icmp .ge 32, 3) := by decide +kernel
theorem d3_29 : decode prog_131_method_4_code 29 = .ok (.aload_n 0, 1) := by decide +kernel
theorem d3_30 : decode prog_131_method_4_code 30 = .ok (.getfield 13, 3) := by decide +kernel
theorem d3_33 : decode prog_131_method_4_code 33 = .ok (.iload 4, 2) := by decide +kernel
theorem d3_35 : decode prog_131_method_4_code 35 = .ok (.iload 8, 2) := by decide +kernel
theorem d3_37 : decode prog_131_method_4_code 37 = .ok (.iadd, 1) := by decide +kernel
theorem d3_38 : decode prog_131_method_4_code 38 = .ok (.lload 6, 2) := by decide +kernel
theorem d3_40 : decode prog_131_method_4_code 40 = .ok (.ldc2_w 63, 3) := by decide +kernel
theorem d3_43 : decode prog_131_method_4_code 43 = .ok (.land, 1) := by decide +kernel
theorem d3_44 : decode prog_131_method_4_code 44 = .ok (.lastore, 1) := by decide +kernel
theorem d3_45 : decode prog_131_method_4_code 45 = .ok (.lload 6, 2) := by decide +kernel
theorem d3_47 : decode prog_131_method_4_code 47 = .ok (.bipush 62, 2) := by decide +kernel
theorem d3_49 : decode prog_131_method_4_code 49 = .ok (.lshr, 1) := by decide +kernel
theorem d3_50 : decode prog_131_method_4_code 50 = .ok (.lstore 6, 2) := by decide +kernel
theorem d3_52 : decode prog_131_method_4_code 52 = .ok (.iinc 8 1, 3) := by decide +kernel
theorem d3_55 : decode prog_131_method_4_code 55 = .ok (.goto (-33), 3) := by decide +kernel
theorem d3_58 : decode prog_131_method_4_code 58 = .ok (.aload_n 0, 1) := by decide +kernel
theorem d3_59 : decode prog_131_method_4_code 59 = .ok (.getfield 13, 3) := by decide +kernel
theorem d3_62 : decode prog_131_method_4_code 62 = .ok (.iload 4, 2) := by decide +kernel
theorem d3_64 : decode prog_131_method_4_code 64 = .ok (.iload 5, 2) := by decide +kernel
theorem d3_66 : decode prog_131_method_4_code 66 = .ok (.iadd, 1) := by decide +kernel
theorem d3_67 : decode prog_131_method_4_code 67 = .ok (.lload 6, 2) := by decide +kernel
theorem d3_69 : decode prog_131_method_4_code 69 = .ok (.lastore, 1) := by decide +kernel
theorem d3_70 : decode prog_131_method_4_code 70 = .ok (.return_, 1) := by decide +kernel
theorem pn_3 : plainName "com/example/matchwright/matchwright/service/matching/WideArray" = true := by first | (simp [plainName, overriddenIn]; done) | decide +kernel
def Ctx3 (p : Program) (s : State) (m : MethodId) (meth : Method) (c : Code) (Z : State) (a0 : Array Value) : Prop := p.tables.exec = Jvm.exec ∧ Z.Warmed39 s.vm ∧ (∀ d ∈ tables_1, d.before a0 Z = true) ∧ c.code = prog_131_method_4_code ∧ c.maxLocals = 9 ∧ s.vm.findClass "com/example/matchwright/matchwright/service/matching/WideArray" = some m.cls ∧ meth.sig.returnType = none ∧ meth.locks = false ∧ meth.name = "set"
theorem d4_0 : decode prog_131_method_12_code 0 = .ok (.iload_n 1, 1) := by decide +kernel
theorem d4_1 : decode prog_131_method_12_code 1 = .ok (.aload_n 0, 1) := by decide +kernel
theorem d4_2 : decode prog_131_method_12_code 2 = .ok (.getfield 9, 3) := by decide +kernel
theorem d4_5 : decode prog_131_method_12_code 5 = .ok (.imul, 1) := by decide +kernel
theorem d4_6 : decode prog_131_method_12_code 6 = .ok (.istore_n 2, 1) := by decide +kernel
theorem d4_7 : decode prog_131_method_12_code 7 = .ok (.aload_n 0, 1) := by decide +kernel
theorem d4_8 : decode prog_131_method_12_code 8 = .ok (.getfield 9, 3) := by decide +kernel
theorem d4_11 : decode prog_131_method_12_code 11 = .ok (.iconst 1, 1) := by decide +kernel
theorem d4_12 : decode prog_131_method_12_code 12 = .ok (.isub, 1) := by decide +kernel
theorem d4_13 : decode prog_131_method_12_code 13 = .ok (.istore_n 3, 1) := by decide +kernel
theorem d4_14 : decode prog_131_method_12_code 14 = .ok (.aload_n 0, 1) := by decide +kernel
theorem d4_15 : decode prog_131_method_12_code 15 = .ok (.getfield 13, 3) := by decide +kernel
theorem d4_18 : decode prog_131_method_12_code 18 = .ok (.iload_n 2, 1) := by decide +kernel
theorem d4_19 : decode prog_131_method_12_code 19 = .ok (.iload_n 3, 1) := by decide +kernel
theorem d4_20 : decode prog_131_method_12_code 20 = .ok (.iadd, 1) := by decide +kernel
theorem d4_21 : decode prog_131_method_12_code 21 = .ok (.laload, 1) := by decide +kernel
theorem d4_22 : decode prog_131_method_12_code 22 = .ok (.lconst 1, 1) := by decide +kernel
theorem d4_23 : decode prog_131_method_12_code 23 = .ok (.land, 1) := by decide +kernel
theorem d4_24 : decode prog_131_method_12_code 24 = .ok (.lstore 4, 2) := by decide +kernel
theorem d4_26 : decode prog_131_method_12_code 26 = .ok (.aload_n 0, 1) := by decide +kernel
theorem d4_27 : decode prog_131_method_12_code 27 = .ok (.getfield 13, 3) := by decide +kernel
theorem d4_30 : decode prog_131_method_12_code 30 = .ok (.iload_n 2, 1) := by decide +kernel
theorem d4_31 : decode prog_131_method_12_code 31 = .ok (.iload_n 3, 1) := by decide +kernel
theorem d4_32 : decode prog_131_method_12_code 32 = .ok (.iadd, 1) := by decide +kernel
theorem d4_33 : decode prog_131_method_12_code 33 = .ok (.dup2, 1) := by decide +kernel
theorem d4_34 : decode prog_131_method_12_code 34 = .ok (.laload, 1) := by decide +kernel
theorem d4_35 : decode prog_131_method_12_code 35 = .ok (.iconst 1, 1) := by decide +kernel
theorem d4_36 : decode prog_131_method_12_code 36 = .ok (.lshr, 1) := by decide +kernel
theorem d4_37 : decode prog_131_method_12_code 37 = .ok (.lastore, 1) := by decide +kernel
theorem d4_38 : decode prog_131_method_12_code 38 = .ok (.iload_n 3, 1) := by decide +kernel
theorem d4_39 : decode prog_131_method_12_code 39 = .ok (.ifCond .le 43, 3) := by decide +kernel
theorem d4_42 : decode prog_131_method_12_code 42 = .ok (.iinc 3 (-1), 3) := by decide +kernel
theorem d4_45 : decode prog_131_method_12_code 45 = .ok (.aload_n 0, 1) := by decide +kernel
theorem d4_46 : decode prog_131_method_12_code 46 = .ok (.getfield 13, 3) := by decide +kernel
theorem d4_49 : decode prog_131_method_12_code 49 = .ok (.iload_n 2, 1) := by decide +kernel
theorem d4_50 : decode prog_131_method_12_code 50 = .ok (.iload_n 3, 1) := by decide +kernel
theorem d4_51 : decode prog_131_method_12_code 51 = .ok (.iadd, 1) := by decide +kernel
theorem d4_52 : decode prog_131_method_12_code 52 = .ok (.laload, 1) := by decide +kernel
theorem d4_53 : decode prog_131_method_12_code 53 = .ok (.lstore 6, 2) := by decide +kernel
theorem d4_55 : decode prog_131_method_12_code 55 = .ok (.aload_n 0, 1) := by decide +kernel
theorem d4_56 : decode prog_131_method_12_code 56 = .ok (.getfield 13, 3) := by decide +kernel
theorem d4_59 : decode prog_131_method_12_code 59 = .ok (.iload_n 2, 1) := by decide +kernel
theorem d4_60 : decode prog_131_method_12_code 60 = .ok (.iload_n 3, 1) := by decide +kernel
theorem d4_61 : decode prog_131_method_12_code 61 = .ok (.iadd, 1) := by decide +kernel
theorem d4_62 : decode prog_131_method_12_code 62 = .ok (.lload 4, 2) := by decide +kernel
theorem d4_64 : decode prog_131_method_12_code 64 = .ok (.bipush 61, 2) := by decide +kernel
theorem d4_66 : decode prog_131_method_12_code 66 = .ok (.lshl, 1) := by decide +kernel
theorem d4_67 : decode prog_131_method_12_code 67 = .ok (.lload 6, 2) := by decide +kernel
theorem d4_69 : decode prog_131_method_12_code 69 = .ok (.iconst 1, 1) := by decide +kernel
theorem d4_70 : decode prog_131_method_12_code 70 = .ok (.lshr, 1) := by decide +kernel
theorem d4_71 : decode prog_131_method_12_code 71 = .ok (.lor, 1) := by decide +kernel
theorem d4_72 : decode prog_131_method_12_code 72 = .ok (.lastore, 1) := by decide +kernel
theorem d4_73 : decode prog_131_method_12_code 73 = .ok (.lload 6, 2) := by decide +kernel
theorem d4_75 : decode prog_131_method_12_code 75 = .ok (.lconst 1, 1) := by decide +kernel
theorem d4_76 : decode prog_131_method_12_code 76 = .ok (.land, 1) := by decide +kernel
theorem d4_77 : decode prog_131_method_12_code 77 = .ok (.lstore 4, 2) := by decide +kernel
theorem d4_79 : decode prog_131_method_12_code 79 = .ok (.goto (-41), 3) := by decide +kernel
theorem d4_82 : decode prog_131_method_12_code 82 = .ok (.return_, 1) := by decide +kernel
theorem pn_4 : plainName "com/example/matchwright/matchwright/service/matching/WideArray" = true := by first | (simp [plainName, overriddenIn]; done) | decide +kernel
def Ctx4 (p : Program) (s : State) (m : MethodId) (meth : Method) (c : Code) (Z : State) (a0 : Array Value) : Prop := p.tables.exec = Jvm.exec ∧ Z.Warmed39 s.vm ∧ (∀ d ∈ tables_1, d.before a0 Z = true) ∧ c.code = prog_131_method_12_code ∧ c.maxLocals = 8 ∧ s.vm.findClass "com/example/matchwright/matchwright/service/matching/WideArray" = some m.cls ∧ meth.sig.returnType = none ∧ meth.locks = false ∧ meth.name = "halve"
theorem d5_0 : decode prog_131_method_8_code 0 = .ok (.aload_n 0, 1) := by decide +kernel
theorem d5_1 : decode prog_131_method_8_code 1 = .ok (.getfield 9, 3) := by decide +kernel
theorem d5_4 : decode prog_131_method_8_code 4 = .ok (.iconst 1, 1) := by decide +kernel
theorem d5_5 : decode prog_131_method_8_code 5 = .ok (.if_icmp .ne 19, 3) := by decide +kernel
theorem d5_8 : decode prog_131_method_8_code 8 = .ok (.aload_n 0, 1) := by decide +kernel
theorem d5_9 : decode prog_131_method_8_code 9 = .ok (.getfield 13, 3) := by decide +kernel
theorem d5_12 : decode prog_131_method_8_code 12 = .ok (.iload_n 1, 1) := by decide +kernel
theorem d5_13 : decode prog_131_method_8_code 13 = .ok (.laload, 1) := by decide +kernel
theorem d5_14 : decode prog_131_method_8_code 14 = .ok (.aload_n 2, 1) := by decide +kernel
theorem d5_15 : decode prog_131_method_8_code 15 = .ok (.getfield 13, 3) := by decide +kernel
theorem d5_18 : decode prog_131_method_8_code 18 = .ok (.iload_n 3, 1) := by decide +kernel
theorem d5_19 : decode prog_131_method_8_code 19 = .ok (.laload, 1) := by decide +kernel
theorem d5_20 : decode prog_131_method_8_code 20 = .ok (.invokestatic 73, 3) := by decide +kernel
theorem d5_23 : decode prog_131_method_8_code 23 = .ok (.ireturn, 1) := by decide +kernel
theorem d5_24 : decode prog_131_method_8_code 24 = .ok (.iload_n 1, 1) := by decide +kernel
theorem d5_25 : decode prog_131_method_8_code 25 = .ok (.aload_n 0, 1) := by decide +kernel
theorem d5_26 : decode prog_131_method_8_code 26 = .ok (.getfield 9, 3) := by decide +kernel
theorem d5_29 : decode prog_131_method_8_code 29 = .ok (.imul, 1) := by decide +kernel
theorem d5_30 : decode prog_131_method_8_code 30 = .ok (.istore 4, 2) := by decide +kernel
theorem d5_32 : decode prog_131_method_8_code 32 = .ok (.iload_n 3, 1) := by decide +kernel
theorem d5_33 : decode prog_131_method_8_code 33 = .ok (.aload_n 0, 1) := by decide +kernel
theorem d5_34 : decode prog_131_method_8_code 34 = .ok (.getfield 9, 3) := by decide +kernel
theorem d5_37 : decode prog_131_method_8_code 37 = .ok (.imul, 1) := by decide +kernel
theorem d5_38 : decode prog_131_method_8_code 38 = .ok (.istore 5, 2) := by decide +kernel
theorem d5_40 : decode prog_131_method_8_code 40 = .ok (.aload_n 0, 1) := by decide +kernel
theorem d5_41 : decode prog_131_method_8_code 41 = .ok (.getfield 9, 3) := by decide +kernel
theorem d5_44 : decode prog_131_method_8_code 44 = .ok (.iconst 1, 1) := by decide +kernel
theorem d5_45 : decode prog_131_method_8_code 45 = .ok (.isub, 1) := by decide +kernel
theorem d5_46 : decode prog_131_method_8_code 46 = .ok (.istore 6, 2) := by decide +kernel
theorem d5_48 : decode prog_131_method_8_code 48 = .ok (.aload_n 0, 1) := by decide +kernel
theorem d5_49 : decode prog_131_method_8_code 49 = .ok (.getfield 13, 3) := by decide +kernel
theorem d5_52 : decode prog_131_method_8_code 52 = .ok (.iload 4, 2) := by decide +kernel
theorem d5_54 : decode prog_131_method_8_code 54 = .ok (.iload 6, 2) := by decide +kernel
theorem d5_56 : decode prog_131_method_8_code 56 = .ok (.iadd, 1) := by decide +kernel
theorem d5_57 : decode prog_131_method_8_code 57 = .ok (.laload, 1) := by decide +kernel
theorem d5_58 : decode prog_131_method_8_code 58 = .ok (.aload_n 2, 1) := by decide +kernel
theorem d5_59 : decode prog_131_method_8_code 59 = .ok (.getfield 13, 3) := by decide +kernel
theorem d5_62 : decode prog_131_method_8_code 62 = .ok (.iload 5, 2) := by decide +kernel
theorem d5_64 : decode prog_131_method_8_code 64 = .ok (.iload 6, 2) := by decide +kernel
theorem d5_66 : decode prog_131_method_8_code 66 = .ok (.iadd, 1) := by decide +kernel
theorem d5_67 : decode prog_131_method_8_code 67 = .ok (.laload, 1) := by decide +kernel
theorem d5_68 : decode prog_131_method_8_code 68 = .ok (.invokestatic 73, 3) := by decide +kernel
theorem d5_71 : decode prog_131_method_8_code 71 = .ok (.istore 7, 2) := by decide +kernel
theorem d5_73 : decode prog_131_method_8_code 73 = .ok (.iload 7, 2) := by decide +kernel
theorem d5_75 : decode prog_131_method_8_code 75 = .ok (.ifCond .ne 39, 3) := by decide +kernel
theorem d5_78 : decode prog_131_method_8_code 78 = .ok (.iload 6, 2) := by decide +kernel
theorem d5_80 : decode prog_131_method_8_code 80 = .ok (.ifCond .le 34, 3) := by decide +kernel
theorem d5_83 : decode prog_131_method_8_code 83 = .ok (.iinc 6 (-1), 3) := by decide +kernel
theorem d5_86 : decode prog_131_method_8_code 86 = .ok (.aload_n 0, 1) := by decide +kernel
theorem d5_87 : decode prog_131_method_8_code 87 = .ok (.getfield 13, 3) := by decide +kernel
theorem d5_90 : decode prog_131_method_8_code 90 = .ok (.iload 4, 2) := by decide +kernel
theorem d5_92 : decode prog_131_method_8_code 92 = .ok (.iload 6, 2) := by decide +kernel
theorem d5_94 : decode prog_131_method_8_code 94 = .ok (.iadd, 1) := by decide +kernel
theorem d5_95 : decode prog_131_method_8_code 95 = .ok (.laload, 1) := by decide +kernel
theorem d5_96 : decode prog_131_method_8_code 96 = .ok (.aload_n 2, 1) := by decide +kernel
theorem d5_97 : decode prog_131_method_8_code 97 = .ok (.getfield 13, 3) := by decide +kernel
theorem d5_100 : decode prog_131_method_8_code 100 = .ok (.iload 5, 2) := by decide +kernel
theorem d5_102 : decode prog_131_method_8_code 102 = .ok (.iload 6, 2) := by decide +kernel
theorem d5_104 : decode prog_131_method_8_code 104 = .ok (.iadd, 1) := by decide +kernel
theorem d5_105 : decode prog_131_method_8_code 105 = .ok (.laload, 1) := by decide +kernel
theorem d5_106 : decode prog_131_method_8_code 106 = .ok (.invokestatic 73, 3) := by decide +kernel
theorem d5_109 : decode prog_131_method_8_code 109 = .ok (.istore 7, 2) := by decide +kernel
theorem d5_111 : decode prog_131_method_8_code 111 = .ok (.goto (-38), 3) := by decide +kernel
theorem d5_114 : decode prog_131_method_8_code 114 = .ok (.iload 7, 2) := by decide +kernel
theorem d5_116 : decode prog_131_method_8_code 116 = .ok (.ireturn, 1) := by decide +kernel
theorem pn_5 : plainName "com/example/matchwright/matchwright/service/matching/WideArray" = true := by first | (simp [plainName, overriddenIn]; done) | decide +kernel
def Ctx5 (p : Program) (s : State) (m : MethodId) (meth : Method) (c : Code) (Z : State) (a0 : Array Value) : Prop := p.tables.exec = Jvm.exec ∧ Z.Warmed39 s.vm ∧ (∀ d ∈ tables_1, d.before a0 Z = true) ∧ c.code = prog_131_method_8_code ∧ c.maxLocals = 8 ∧ s.vm.findClass "com/example/matchwright/matchwright/service/matching/WideArray" = some m.cls ∧ meth.sig.returnType = (some .int) ∧ meth.locks = false ∧ meth.name = "compare"
theorem d6_0 : decode jdk_35_method_42_code 0 = .ok (.lload_n 0, 1) := by decide +kernel
theorem d6_1 : decode jdk_35_method_42_code 1 = .ok (.lload_n 2, 1) := by decide +kernel
theorem d6_2 : decode jdk_35_method_42_code 2 = .ok (.lcmp, 1) := by decide +kernel
theorem d6_3 : decode jdk_35_method_42_code 3 = .ok (.ifCond .ge 7, 3) := by decide +kernel
theorem d6_6 : decode jdk_35_method_42_code 6 = .ok (.iconst (-1), 1) := by decide +kernel
theorem d6_7 : decode jdk_35_method_42_code 7 = .ok (.goto 14, 3) := by decide +kernel
theorem d6_10 : decode jdk_35_method_42_code 10 = .ok (.lload_n 0, 1) := by decide +kernel
theorem d6_11 : decode jdk_35_method_42_code 11 = .ok (.lload_n 2, 1) := by decide +kernel
theorem d6_12 : decode jdk_35_method_42_code 12 = .ok (.lcmp, 1) := by decide +kernel
theorem d6_13 : decode jdk_35_method_42_code 13 = .ok (.ifCond .ne 7, 3) := by decide +kernel
theorem d6_16 : decode jdk_35_method_42_code 16 = .ok (.iconst 0, 1) := by decide +kernel
theorem d6_17 : decode jdk_35_method_42_code 17 = .ok (.goto 4, 3) := by decide +kernel
theorem d6_20 : decode jdk_35_method_42_code 20 = .ok (.iconst 1, 1) := by decide +kernel
theorem d6_21 : decode jdk_35_method_42_code 21 = .ok (.ireturn, 1) := by decide +kernel
theorem pn_6 : plainName "java/lang/Long" = true := by first | (simp [plainName, overriddenIn]; done) | decide +kernel
def Ctx6 (p : Program) (s : State) (m : MethodId) (meth : Method) (c : Code) (Z : State) (a0 : Array Value) : Prop := p.tables.exec = Jvm.exec ∧ Z.Warmed39 s.vm ∧ (∀ d ∈ tables_1, d.before a0 Z = true) ∧ c.code = jdk_35_method_42_code ∧ c.maxLocals = 4 ∧ s.vm.findClass "java/lang/Long" = some m.cls ∧ meth.sig.returnType = (some .int) ∧ meth.locks = false ∧ meth.name = "compare"
theorem d7_0 : decode prog_131_method_11_code 0 = .ok (.iload_n 1, 1) := by decide +kernel
theorem d7_1 : decode prog_131_method_11_code 1 = .ok (.aload_n 0, 1) := by decide +kernel
theorem d7_2 : decode prog_131_method_11_code 2 = .ok (.getfield 9, 3) := by decide +kernel
theorem d7_5 : decode prog_131_method_11_code 5 = .ok (.imul, 1) := by decide +kernel
theorem d7_6 : decode prog_131_method_11_code 6 = .ok (.istore 5, 2) := by decide +kernel
theorem d7_8 : decode prog_131_method_11_code 8 = .ok (.iload_n 3, 1) := by decide +kernel
theorem d7_9 : decode prog_131_method_11_code 9 = .ok (.aload_n 0, 1) := by decide +kernel
theorem d7_10 : decode prog_131_method_11_code 10 = .ok (.getfield 9, 3) := by decide +kernel
theorem d7_13 : decode prog_131_method_11_code 13 = .ok (.imul, 1) := by decide +kernel
theorem d7_14 : decode prog_131_method_11_code 14 = .ok (.istore 6, 2) := by decide +kernel
theorem d7_16 : decode prog_131_method_11_code 16 = .ok (.aload_n 0, 1) := by decide +kernel
theorem d7_17 : decode prog_131_method_11_code 17 = .ok (.getfield 9, 3) := by decide +kernel
theorem d7_20 : decode prog_131_method_11_code 20 = .ok (.iconst 1, 1) := by decide +kernel
theorem d7_21 : decode prog_131_method_11_code 21 = .ok (.isub, 1) := by decide +kernel
theorem d7_22 : decode prog_131_method_11_code 22 = .ok (.istore 7, 2) := by decide +kernel
theorem d7_24 : decode prog_131_method_11_code 24 = .ok (.lconst 0, 1) := by decide +kernel
theorem d7_25 : decode prog_131_method_11_code 25 = .ok (.lstore 8, 2) := by decide +kernel
theorem d7_27 : decode prog_131_method_11_code 27 = .ok (.iconst 0, 1) := by decide +kernel
theorem d7_28 : decode prog_131_method_11_code 28 = .ok (.istore 10, 2) := by decide +kernel
theorem d7_30 : decode prog_131_method_11_code 30 = .ok (.iload 10, 2) := by decide +kernel
theorem d7_32 : decode prog_131_method_11_code 32 = .ok (.iload 7, 2) := by decide +kernel
theorem d7_34 : decode prog_131_method_11_code 34 = .ok (.if_icmp .ge 81, 3) := by decide +kernel
theorem d7_37 : decode prog_131_method_11_code 37 = .ok (.iload 4, 2) := by decide +kernel
theorem d7_39 : decode prog_131_method_11_code 39 = .ok (.ifCond .eq 17, 3) := by decide +kernel
theorem d7_42 : decode prog_131_method_11_code 42 = .ok (.aload_n 2, 1) := by decide +kernel
theorem d7_43 : decode prog_131_method_11_code 43 = .ok (.getfield 13, 3) := by decide +kernel
theorem d7_46 : decode prog_131_method_11_code 46 = .ok (.iload 6, 2) := by decide +kernel
theorem d7_48 : decode prog_131_method_11_code 48 = .ok (.iload 10, 2) := by decide +kernel
theorem d7_50 : decode prog_131_method_11_code 50 = .ok (.iadd, 1) := by decide +kernel
theorem d7_51 : decode prog_131_method_11_code 51 = .ok (.laload, 1) := by decide +kernel
theorem d7_52 : decode prog_131_method_11_code 52 = .ok (.lneg, 1) := by decide +kernel
theorem d7_53 : decode prog_131_method_11_code 53 = .ok (.goto 13, 3) := by decide +kernel
theorem d7_56 : decode prog_131_method_11_code 56 = .ok (.aload_n 2, 1) := by decide +kernel
theorem d7_57 : decode prog_131_method_11_code 57 = .ok (.getfield 13, 3) := by decide +kernel
theorem d7_60 : decode prog_131_method_11_code 60 = .ok (.iload 6, 2) := by decide +kernel
theorem d7_62 : decode prog_131_method_11_code 62 = .ok (.iload 10, 2) := by decide +kernel
theorem d7_64 : decode prog_131_method_11_code 64 = .ok (.iadd, 1) := by decide +kernel
theorem d7_65 : decode prog_131_method_11_code 65 = .ok (.laload, 1) := by decide +kernel
theorem d7_66 : decode prog_131_method_11_code 66 = .ok (.lstore 11, 2) := by decide +kernel
theorem d7_68 : decode prog_131_method_11_code 68 = .ok (.aload_n 0, 1) := by decide +kernel
theorem d7_69 : decode prog_131_method_11_code 69 = .ok (.getfield 13, 3) := by decide +kernel
theorem d7_72 : decode prog_131_method_11_code 72 = .ok (.iload 5, 2) := by decide +kernel
theorem d7_74 : decode prog_131_method_11_code 74 = .ok (.iload 10, 2) := by decide +kernel
theorem d7_76 : decode prog_131_method_11_code 76 = .ok (.iadd, 1) := by decide +kernel
theorem d7_77 : decode prog_131_method_11_code 77 = .ok (.laload, 1) := by decide +kernel
theorem d7_78 : decode prog_131_method_11_code 78 = .ok (.lload 11, 2) := by decide +kernel
theorem d7_80 : decode prog_131_method_11_code 80 = .ok (.ladd, 1) := by decide +kernel
theorem d7_81 : decode prog_131_method_11_code 81 = .ok (.lload 8, 2) := by decide +kernel
theorem d7_83 : decode prog_131_method_11_code 83 = .ok (.ladd, 1) := by decide +kernel
theorem d7_84 : decode prog_131_method_11_code 84 = .ok (.lstore 13, 2) := by decide +kernel
theorem d7_86 : decode prog_131_method_11_code 86 = .ok (.lload 13, 2) := by decide +kernel
theorem d7_88 : decode prog_131_method_11_code 88 = .ok (.bipush 62, 2) := by decide +kernel
theorem d7_90 : decode prog_131_method_11_code 90 = .ok (.lshr, 1) := by decide +kernel
theorem d7_91 : decode prog_131_method_11_code 91 = .ok (.lstore 8, 2) := by decide +kernel
theorem d7_93 : decode prog_131_method_11_code 93 = .ok (.aload_n 0, 1) := by decide +kernel
theorem d7_94 : decode prog_131_method_11_code 94 = .ok (.getfield 13, 3) := by decide +kernel
theorem d7_97 : decode prog_131_method_11_code 97 = .ok (.iload 5, 2) := by decide +kernel
theorem d7_99 : decode prog_131_method_11_code 99 = .ok (.iload 10, 2) := by decide +kernel
theorem d7_101 : decode prog_131_method_11_code 101 = .ok (.iadd, 1) := by decide +kernel
theorem d7_102 : decode prog_131_method_11_code 102 = .ok (.lload 13, 2) := by decide +kernel
theorem d7_104 : decode prog_131_method_11_code 104 = .ok (.ldc2_w 63, 3) := by decide +kernel
theorem d7_107 : decode prog_131_method_11_code 107 = .ok (.land, 1) := by decide +kernel
theorem d7_108 : decode prog_131_method_11_code 108 = .ok (.lastore, 1) := by decide +kernel
theorem d7_109 : decode prog_131_method_11_code 109 = .ok (.iinc 10 1, 3) := by decide +kernel
theorem d7_112 : decode prog_131_method_11_code 112 = .ok (.goto (-82), 3) := by decide +kernel
theorem d7_115 : decode prog_131_method_11_code 115 = .ok (.iload 4, 2) := by decide +kernel
theorem d7_117 : decode prog_131_method_11_code 117 = .ok (.ifCond .eq 29, 3) := by decide +kernel
theorem d7_120 : decode prog_131_method_11_code 120 = .ok (.aload_n 0, 1) := by decide +kernel
theorem d7_121 : decode prog_131_method_11_code 121 = .ok (.getfield 13, 3) := by decide +kernel
theorem d7_124 : decode prog_131_method_11_code 124 = .ok (.iload 5, 2) := by decide +kernel
theorem d7_126 : decode prog_131_method_11_code 126 = .ok (.iload 7, 2) := by decide +kernel
theorem d7_128 : decode prog_131_method_11_code 128 = .ok (.iadd, 1) := by decide +kernel
theorem d7_129 : decode prog_131_method_11_code 129 = .ok (.laload, 1) := by decide +kernel
theorem d7_130 : decode prog_131_method_11_code 130 = .ok (.aload_n 2, 1) := by decide +kernel
theorem d7_131 : decode prog_131_method_11_code 131 = .ok (.getfield 13, 3) := by decide +kernel
theorem d7_134 : decode prog_131_method_11_code 134 = .ok (.iload 6, 2) := by decide +kernel
theorem d7_136 : decode prog_131_method_11_code 136 = .ok (.iload 7, 2) := by decide +kernel
theorem d7_138 : decode prog_131_method_11_code 138 = .ok (.iadd, 1) := by decide +kernel
theorem d7_139 : decode prog_131_method_11_code 139 = .ok (.laload, 1) := by decide +kernel
theorem d7_140 : decode prog_131_method_11_code 140 = .ok (.invokestatic 87, 3) := by decide +kernel
theorem d7_143 : decode prog_131_method_11_code 143 = .ok (.goto 26, 3) := by decide +kernel
theorem d7_146 : decode prog_131_method_11_code 146 = .ok (.aload_n 0, 1) := by decide +kernel
theorem d7_147 : decode prog_131_method_11_code 147 = .ok (.getfield 13, 3) := by decide +kernel
theorem d7_150 : decode prog_131_method_11_code 150 = .ok (.iload 5, 2) := by decide +kernel
theorem d7_152 : decode prog_131_method_11_code 152 = .ok (.iload 7, 2) := by decide +kernel
theorem d7_154 : decode prog_131_method_11_code 154 = .ok (.iadd, 1) := by decide +kernel
theorem d7_155 : decode prog_131_method_11_code 155 = .ok (.laload, 1) := by decide +kernel
theorem d7_156 : decode prog_131_method_11_code 156 = .ok (.aload_n 2, 1) := by decide +kernel
theorem d7_157 : decode prog_131_method_11_code 157 = .ok (.getfield 13, 3) := by decide +kernel
theorem d7_160 : decode prog_131_method_11_code 160 = .ok (.iload 6, 2) := by decide +kernel
theorem d7_162 : decode prog_131_method_11_code 162 = .ok (.iload 7, 2) := by decide +kernel
theorem d7_164 : decode prog_131_method_11_code 164 = .ok (.iadd, 1) := by decide +kernel
theorem d7_165 : decode prog_131_method_11_code 165 = .ok (.laload, 1) := by decide +kernel
theorem d7_166 : decode prog_131_method_11_code 166 = .ok (.invokestatic 83, 3) := by decide +kernel
theorem d7_169 : decode prog_131_method_11_code 169 = .ok (.lstore 10, 2) := by decide +kernel
theorem d7_171 : decode prog_131_method_11_code 171 = .ok (.aload_n 0, 1) := by decide +kernel
theorem d7_172 : decode prog_131_method_11_code 172 = .ok (.getfield 13, 3) := by decide +kernel
theorem d7_175 : decode prog_131_method_11_code 175 = .ok (.iload 5, 2) := by decide +kernel
theorem d7_177 : decode prog_131_method_11_code 177 = .ok (.iload 7, 2) := by decide +kernel
theorem d7_179 : decode prog_131_method_11_code 179 = .ok (.iadd, 1) := by decide +kernel
theorem d7_180 : decode prog_131_method_11_code 180 = .ok (.lload 10, 2) := by decide +kernel
theorem d7_182 : decode prog_131_method_11_code 182 = .ok (.lload 8, 2) := by decide +kernel
theorem d7_184 : decode prog_131_method_11_code 184 = .ok (.invokestatic 83, 3) := by decide +kernel
theorem d7_187 : decode prog_131_method_11_code 187 = .ok (.lastore, 1) := by decide +kernel
theorem d7_188 : decode prog_131_method_11_code 188 = .ok (.return_, 1) := by decide +kernel
theorem pn_7 : plainName "com/example/matchwright/matchwright/service/matching/WideArray" = true := by first | (simp [plainName, overriddenIn]; done) | decide +kernel
def Ctx7 (p : Program) (s : State) (m : MethodId) (meth : Method) (c : Code) (Z : State) (a0 : Array Value) : Prop := p.tables.exec = Jvm.exec ∧ Z.Warmed39 s.vm ∧ (∀ d ∈ tables_1, d.before a0 Z = true) ∧ c.code = prog_131_method_11_code ∧ c.maxLocals = 15 ∧ s.vm.findClass "com/example/matchwright/matchwright/service/matching/WideArray" = some m.cls ∧ meth.sig.returnType = none ∧ meth.locks = false ∧ meth.name = "add"
theorem d8_0 : decode jdk_29_method_25_code 0 = .ok (.lload_n 0, 1) := by decide +kernel
theorem d8_1 : decode jdk_29_method_25_code 1 = .ok (.lload_n 2, 1) := by decide +kernel
theorem d8_2 : decode jdk_29_method_25_code 2 = .ok (.ladd, 1) := by decide +kernel
theorem d8_3 : decode jdk_29_method_25_code 3 = .ok (.lstore 4, 2) := by decide +kernel
theorem d8_5 : decode jdk_29_method_25_code 5 = .ok (.lload_n 0, 1) := by decide +kernel
theorem d8_6 : decode jdk_29_method_25_code 6 = .ok (.lload 4, 2) := by decide +kernel
theorem d8_8 : decode jdk_29_method_25_code 8 = .ok (.lxor, 1) := by decide +kernel
theorem d8_9 : decode jdk_29_method_25_code 9 = .ok (.lload_n 2, 1) := by decide +kernel
theorem d8_10 : decode jdk_29_method_25_code 10 = .ok (.lload 4, 2) := by decide +kernel
theorem d8_12 : decode jdk_29_method_25_code 12 = .ok (.lxor, 1) := by decide +kernel
theorem d8_13 : decode jdk_29_method_25_code 13 = .ok (.land, 1) := by decide +kernel
theorem d8_14 : decode jdk_29_method_25_code 14 = .ok (.lconst 0, 1) := by decide +kernel
theorem d8_15 : decode jdk_29_method_25_code 15 = .ok (.lcmp, 1) := by decide +kernel
theorem d8_16 : decode jdk_29_method_25_code 16 = .ok (.ifCond .ge 13, 3) := by decide +kernel
theorem d8_19 : decode jdk_29_method_25_code 19 = .ok (.new 109, 3) := by decide +kernel
theorem d8_22 : decode jdk_29_method_25_code 22 = .ok (.dup, 1) := by decide +kernel
theorem d8_23 : decode jdk_29_method_25_code 23 = .ok (.ldc 116, 2) := by decide +kernel
theorem d8_25 : decode jdk_29_method_25_code 25 = .ok (.invokespecial 113, 3) := by decide +kernel
theorem d8_28 : decode jdk_29_method_25_code 28 = .ok (.athrow, 1) := by decide +kernel
theorem d8_29 : decode jdk_29_method_25_code 29 = .ok (.lload 4, 2) := by decide +kernel
theorem d8_31 : decode jdk_29_method_25_code 31 = .ok (.lreturn, 1) := by decide +kernel
def Ctx8 (p : Program) (s : State) (m : MethodId) (meth : Method) (c : Code) (Z : State) (a0 : Array Value) : Prop := p.tables.exec = Jvm.exec ∧ Z.Warmed39 s.vm ∧ (∀ d ∈ tables_1, d.before a0 Z = true) ∧ c.code = jdk_29_method_25_code ∧ c.maxLocals = 6 ∧ s.vm.findClass "java/lang/Math" = some m.cls ∧ meth.sig.returnType = (some .long) ∧ meth.locks = false ∧ meth.name = "addExact"
theorem own_nn {k0 : Nat} (h : k0 ≤ 3) : ¬ Int32.ofNat (k0 + 1 + (k0 + 1)) < 0 := by
  rw [Int32.lt_iff_toInt_lt, own_nat (by omega)]; show ¬ _ < (0 : Int); omega
theorem own_nc {k0 : Nat} (h : k0 ≤ 3) : (Int32.ofNat (k0 + 1 + (k0 + 1))).toNatClampNeg ≤ 8 := by rw [own_clamp (by omega)]; omega
def own_zs (k0 : Nat) : List Int64 := List.replicate (k0 + 1) 0
theorem own_zeros {Z : State} {h : Heap} {wb : Addr} {kc : ClassId} {k0 : Nat} (h3 : k0 ≤ 3) (A : Arr Z h wb (newA kc .long (Int32.ofNat (k0 + 1 + (k0 + 1)))) .long) : Arv Z h wb kc .long (Int32.ofNat (own_zs k0 ++ own_zs k0).length) ((own_zs k0 ++ own_zs k0).map Value.long) (.long 0) := by
  have e : (own_zs k0 ++ own_zs k0).length = k0 + 1 + (k0 + 1) := by simp [own_zs]
  have e2 : (own_zs k0 ++ own_zs k0).map Value.long = [] ++ List.replicate (k0 + 1 + (k0 + 1)) (.long 0) := by simp [own_zs, List.replicate_append_replicate]
  rw [e, e2]
  exact (Arv.new A (own_nn h3)).pad (pad_rep [] (.long 0) _)
theorem own_pd0 : parseMethodDescriptor "(JJ)I" = some ⟨[.long, .long], some .int⟩ := by decide +kernel
theorem own_pd1 : parseMethodDescriptor "(JJ)J" = some ⟨[.long, .long], some .long⟩ := by decide +kernel
theorem own_pd2 : parseMethodDescriptor "(I)V" = some ⟨[.int], none⟩ := by decide +kernel
theorem own_pd3 : parseMethodDescriptor "(IJ)V" = some ⟨[.int, .long], none⟩ := by decide +kernel
theorem own_pd4 : parseMethodDescriptor "(ILcom/example/matchwright/matchwright/service/matching/WideArray;I)I" = some ⟨[.int, (.object "com/example/matchwright/matchwright/service/matching/WideArray"), .int], some .int⟩ := by decide +kernel
theorem own_pd5 : parseMethodDescriptor "(II)V" = some ⟨[.int, .int], none⟩ := by decide +kernel
theorem own_pd6 : parseMethodDescriptor "(ILcom/example/matchwright/matchwright/service/matching/WideArray;IZ)V" = some ⟨[.int, (.object "com/example/matchwright/matchwright/service/matching/WideArray"), .int, .boolean], none⟩ := by decide +kernel
def Q6 (Z : State) (q : Int64) (h0 : Heap) (n0 : Nat) (v : Option Value) (h : Heap) (L : List Loc) : Prop := v = some (.int 0) ∧ Fr n0 L ∧ h = h0
theorem own_ef_rm6 (m : MethodId) (x0 : Int64) (x1 : Int64) : entryFrame m #[(.long x0), (.long x1)] 4 = mkF m 0 #[.val (.long x0), .second, .val (.long x1), .second] [] := by first | (simp [entryFrame, mkF, argsToLocals, Value.category]; done) | rfl
set_option maxRecDepth 65536 in
set_option maxHeartbeats 40000000 in
theorem rm6 (l : Launch) (Z : State) (a0 : Array Value) (hw : ∀ d ∈ tables_1, d.before a0 Z = true) (ws : List Jvm.Cond) (q : Int64) (h0 : Heap) (n0 : Nat) (Z0 : n0 ≤ h0.size) :
    MetFree l (⟨"java/lang/Long", "compare", "(JJ)I"⟩ : MethodName) (head1 (Jvm.Cond.code (⟨"java/lang/Long", "compare", "(JJ)I"⟩ : MethodName) jdk_35_method_42_code 4 (some .int) :: ws) ({ frames := 0, cells := 0, slots := 0, locals := 0 } : Room)) (fun aQ UQ => aQ = #[(.long q), (.long q)] ∧ Z.Warmed39 UQ.vm ∧ UQ.heap = h0) (fun _ _ _ _ _ => True) (fun _ UQ oQ UR => ∃ vQ LQ, oQ = .returned vQ ∧ Q6 Z q h0 n0 vQ UR.heap LQ ∧ FrameEnd UQ oQ UR LQ ({ frames := 0, cells := 0, slots := 0, locals := 0 } : Room).cells ({ frames := 0, cells := 0, slots := 0, locals := 0 } : Room).slots) := by
  refine MetFree.of_bodySF (plainFor_of_name pn_6) hisR ?_
  intro p e s m args below meth c s₁ Bd hml0 hP hK
  obtain ⟨rfl, hZ, hh⟩ := hP
  have hx := Bd.exec
  have hby := Bd.bytes
  have hml : c.maxLocals = 4 := hml0
  have hown : s.vm.findClass "java/lang/Long" = some m.cls := findClass_of_methodNamed Bd.named
  have hnm := (name_of_methodNamed Bd.named Bd.method).1
  have hret := Bd.returns
  have hlk : meth.locks = false := Bd.notSynchronized
  have X0 : Stand p l e ({ frames := 0, cells := 0, slots := 0, locals := 0 } : Room) s m #[(.long q), (.long q)] below meth c s₁ [] 0 0 := Stand.of_body Bd
  have e0 : s₁.heap = h0 := by rw [← hh, Bd.state]; rfl
  have N0 := Fr.nil n0
  have K : Ctx6 p s m meth c Z a0 := ⟨hx, hZ, hw, hby, hml, hown, hret, hlk, hnm⟩
  show OwnGo p e below s ({ frames := 0, cells := 0, slots := 0, locals := 0 } : Room).cells ({ frames := 0, cells := 0, slots := 0, locals := 0 } : Room).slots (Q6 Z q h0 n0) s₁ (entryFrame m #[(.long q), (.long q)] 4)
  refine own_cast (own_ef_rm6 m q q) ?_
  show OwnGo p e below s _ _ _ s₁ (mkF m 0 #[.val (.long q), .second, .val (.long q), .second] [])
  refine own_st (T' := s₁) (g' := (mkF m 21 #[.val (.long q), .second, .val (.long q), .second] [(.int (0 : Int32))])) (fun uT uK => ?_) ?_
  · show Steps p.tables e below (s₁.setTop (mkF m 0 #[.val (.long q), .second, .val (.long q), .second] [])) _
    refine XT.lloadN X0.here hx rfl (hb hby d6_0) rfl ?_
    show Steps p.tables e below (s₁.setTop (mkF m 1 #[.val (.long q), .second, .val (.long q), .second] [(.long q)])) _
    refine XT.lloadN X0.here hx rfl (hb hby d6_1) rfl ?_
    show Steps p.tables e below (s₁.setTop (mkF m 2 #[.val (.long q), .second, .val (.long q), .second] [(.long q), (.long q)])) _
    refine XT.lcmp X0.here hx rfl (hb hby d6_2) rfl ?_
    show Steps p.tables e below (s₁.setTop (mkF m 3 #[.val (.long q), .second, .val (.long q), .second] [(.int (XT.cmpL q q))])) _
    refine XS.ifYes X0.here hx rfl (pc0 := 3) (pc' := 10) rfl (hb hby d6_3) rfl (XT.ll_ge_t Int64.lt_irrefl) (by decide) (by decide) ?_
    show Steps p.tables e below (s₁.setTop (mkF m 10 #[.val (.long q), .second, .val (.long q), .second] [])) _
    refine XT.lloadN X0.here hx rfl (hb hby d6_10) rfl ?_
    show Steps p.tables e below (s₁.setTop (mkF m 11 #[.val (.long q), .second, .val (.long q), .second] [(.long q)])) _
    refine XT.lloadN X0.here hx rfl (hb hby d6_11) rfl ?_
    show Steps p.tables e below (s₁.setTop (mkF m 12 #[.val (.long q), .second, .val (.long q), .second] [(.long q), (.long q)])) _
    refine XT.lcmp X0.here hx rfl (hb hby d6_12) rfl ?_
    show Steps p.tables e below (s₁.setTop (mkF m 13 #[.val (.long q), .second, .val (.long q), .second] [(.int (XT.cmpL q q))])) _
    refine XS.ifNo X0.here hx rfl (hb hby d6_13) rfl (XT.ll_ne_f rfl) ?_
    show Steps p.tables e below (s₁.setTop (mkF m 16 #[.val (.long q), .second, .val (.long q), .second] [])) _
    refine XS.iconst X0.here hx rfl (hb hby d6_16) ?_
    show Steps p.tables e below (s₁.setTop (mkF m 17 #[.val (.long q), .second, .val (.long q), .second] [(.int (0 : Int32))])) _
    refine XS.goto X0.here hx rfl (pc0 := 17) (pc' := 21) rfl (hb hby d6_17) (by decide) (by decide) ?_
    exact uK
  exact own_ret (v := some (.int (0 : Int32))) X0 hlk (fun h => by rw [hret] at h; cases h) (fun fs hr => retOut X0 hx hret rfl (Or.inl ⟨rfl, by simp, _, rfl⟩) (hb hby d6_21) hr) (by rw [e0]; exact ⟨rfl, N0, rfl⟩) (by decide) (by decide)
def Q8 (Z : State) (q1 : Int64) (q2 : Int64) (h0 : Heap) (n0 : Nat) (v : Option Value) (h : Heap) (L : List Loc) : Prop := v = some (.long (q1 + q2)) ∧ Fr n0 L ∧ h = h0
theorem own_ef_rm8 (m : MethodId) (x0 : Int64) (x1 : Int64) : entryFrame m #[(.long x0), (.long x1)] 6 = mkF m 0 #[.val (.long x0), .second, .val (.long x1), .second, .unset, .unset] [] := by first | (simp [entryFrame, mkF, argsToLocals, Value.category]; done) | rfl
set_option maxRecDepth 65536 in
set_option maxHeartbeats 40000000 in
theorem rm8 (l : Launch) (Z : State) (a0 : Array Value) (hw : ∀ d ∈ tables_1, d.before a0 Z = true) (ws : List Jvm.Cond) (q1 : Int64) (q2 : Int64) (h0 : Heap) (n0 : Nat) (Z0 : n0 ≤ h0.size) (hf : XT.fits64 (q1.toInt + q2.toInt)) :
    MetFree l (⟨"java/lang/Math", "addExact", "(JJ)J"⟩ : MethodName) (head1 (Jvm.Cond.code (⟨"java/lang/Math", "addExact", "(JJ)J"⟩ : MethodName) jdk_29_method_25_code 6 (some .long) :: ws) ({ frames := 0, cells := 0, slots := 0, locals := 0 } : Room)) (fun aQ UQ => aQ = #[(.long q1), (.long q2)] ∧ Z.Warmed39 UQ.vm ∧ UQ.heap = h0) (fun _ _ _ _ _ => True) (fun _ UQ oQ UR => ∃ vQ LQ, oQ = .returned vQ ∧ Q8 Z q1 q2 h0 n0 vQ UR.heap LQ ∧ FrameEnd UQ oQ UR LQ ({ frames := 0, cells := 0, slots := 0, locals := 0 } : Room).cells ({ frames := 0, cells := 0, slots := 0, locals := 0 } : Room).slots) := by
  refine MetFree.of_bodySF (Jvm.Free.JP.mathPlain rfl (by decide +kernel)) hisR ?_
  intro p e s m args below meth c s₁ Bd hml0 hP hK
  obtain ⟨rfl, hZ, hh⟩ := hP
  have hx := Bd.exec
  have hby := Bd.bytes
  have hml : c.maxLocals = 6 := hml0
  have hown : s.vm.findClass "java/lang/Math" = some m.cls := findClass_of_methodNamed Bd.named
  have hnm := (name_of_methodNamed Bd.named Bd.method).1
  have hret := Bd.returns
  have hlk : meth.locks = false := Bd.notSynchronized
  have X0 : Stand p l e ({ frames := 0, cells := 0, slots := 0, locals := 0 } : Room) s m #[(.long q1), (.long q2)] below meth c s₁ [] 0 0 := Stand.of_body Bd
  have e0 : s₁.heap = h0 := by rw [← hh, Bd.state]; rfl
  have N0 := Fr.nil n0
  have K : Ctx8 p s m meth c Z a0 := ⟨hx, hZ, hw, hby, hml, hown, hret, hlk, hnm⟩
  show OwnGo p e below s ({ frames := 0, cells := 0, slots := 0, locals := 0 } : Room).cells ({ frames := 0, cells := 0, slots := 0, locals := 0 } : Room).slots (Q8 Z q1 q2 h0 n0) s₁ (entryFrame m #[(.long q1), (.long q2)] 6)
  refine own_cast (own_ef_rm8 m q1 q2) ?_
  show OwnGo p e below s _ _ _ s₁ (mkF m 0 #[.val (.long q1), .second, .val (.long q2), .second, .unset, .unset] [])
  refine own_st (T' := s₁) (g' := (mkF m 31 #[.val (.long q1), .second, .val (.long q2), .second, .val (.long (q1 + q2)), .second] [(.long (q1 + q2))])) (fun uT uK => ?_) ?_
  · show Steps p.tables e below (s₁.setTop (mkF m 0 #[.val (.long q1), .second, .val (.long q2), .second, .unset, .unset] [])) _
    refine XT.lloadN X0.here hx rfl (hb hby d8_0) rfl ?_
    show Steps p.tables e below (s₁.setTop (mkF m 1 #[.val (.long q1), .second, .val (.long q2), .second, .unset, .unset] [(.long q1)])) _
    refine XT.lloadN X0.here hx rfl (hb hby d8_1) rfl ?_
    show Steps p.tables e below (s₁.setTop (mkF m 2 #[.val (.long q1), .second, .val (.long q2), .second, .unset, .unset] [(.long q2), (.long q1)])) _
    refine XT.ladd X0.here hx rfl (hb hby d8_2) rfl ?_
    show Steps p.tables e below (s₁.setTop (mkF m 3 #[.val (.long q1), .second, .val (.long q2), .second, .unset, .unset] [(.long (q1 + q2))])) _
    refine XT.lstore X0.here hx rfl (hb hby d8_3) rfl (l' := #[.val (.long q1), .second, .val (.long q2), .second, .val (.long (q1 + q2)), .second]) rfl ?_
    show Steps p.tables e below (s₁.setTop (mkF m 5 #[.val (.long q1), .second, .val (.long q2), .second, .val (.long (q1 + q2)), .second] [])) _
    refine XT.lloadN X0.here hx rfl (hb hby d8_5) rfl ?_
    show Steps p.tables e below (s₁.setTop (mkF m 6 #[.val (.long q1), .second, .val (.long q2), .second, .val (.long (q1 + q2)), .second] [(.long q1)])) _
    refine XT.lload X0.here hx rfl (hb hby d8_6) rfl ?_
    show Steps p.tables e below (s₁.setTop (mkF m 8 #[.val (.long q1), .second, .val (.long q2), .second, .val (.long (q1 + q2)), .second] [(.long (q1 + q2)), (.long q1)])) _
    refine XT.lxor X0.here hx rfl (hb hby d8_8) rfl ?_
    show Steps p.tables e below (s₁.setTop (mkF m 9 #[.val (.long q1), .second, .val (.long q2), .second, .val (.long (q1 + q2)), .second] [(.long (q1 ^^^ (q1 + q2)))])) _
    refine XT.lloadN X0.here hx rfl (hb hby d8_9) rfl ?_
    show Steps p.tables e below (s₁.setTop (mkF m 10 #[.val (.long q1), .second, .val (.long q2), .second, .val (.long (q1 + q2)), .second] [(.long q2), (.long (q1 ^^^ (q1 + q2)))])) _
    refine XT.lload X0.here hx rfl (hb hby d8_10) rfl ?_
    show Steps p.tables e below (s₁.setTop (mkF m 12 #[.val (.long q1), .second, .val (.long q2), .second, .val (.long (q1 + q2)), .second] [(.long (q1 + q2)), (.long q2), (.long (q1 ^^^ (q1 + q2)))])) _
    refine XT.lxor X0.here hx rfl (hb hby d8_12) rfl ?_
    show Steps p.tables e below (s₁.setTop (mkF m 13 #[.val (.long q1), .second, .val (.long q2), .second, .val (.long (q1 + q2)), .second] [(.long (q2 ^^^ (q1 + q2))), (.long (q1 ^^^ (q1 + q2)))])) _
    refine XT.land X0.here hx rfl (hb hby d8_13) rfl ?_
    show Steps p.tables e below (s₁.setTop (mkF m 14 #[.val (.long q1), .second, .val (.long q2), .second, .val (.long (q1 + q2)), .second] [(.long ((q1 ^^^ (q1 + q2)) &&& (q2 ^^^ (q1 + q2))))])) _
    refine XT.lconst X0.here hx rfl (hb hby d8_14) ?_
    show Steps p.tables e below (s₁.setTop (mkF m 15 #[.val (.long q1), .second, .val (.long q2), .second, .val (.long (q1 + q2)), .second] [(.long (0 : Int64)), (.long ((q1 ^^^ (q1 + q2)) &&& (q2 ^^^ (q1 + q2))))])) _
    refine XT.lcmp X0.here hx rfl (hb hby d8_15) rfl ?_
    show Steps p.tables e below (s₁.setTop (mkF m 16 #[.val (.long q1), .second, .val (.long q2), .second, .val (.long (q1 + q2)), .second] [(.int (XT.cmpL ((q1 ^^^ (q1 + q2)) &&& (q2 ^^^ (q1 + q2))) (0 : Int64)))])) _
    refine XS.ifYes X0.here hx rfl (pc0 := 16) (pc' := 29) rfl (hb hby d8_16) rfl (XT.ll_ge_t (XT.addOk64 hf)) (by decide) (by decide) ?_
    show Steps p.tables e below (s₁.setTop (mkF m 29 #[.val (.long q1), .second, .val (.long q2), .second, .val (.long (q1 + q2)), .second] [])) _
    refine XT.lload X0.here hx rfl (hb hby d8_29) rfl ?_
    exact uK
  exact own_ret (v := some (.long (q1 + q2))) X0 hlk (fun h => by rw [hret] at h; cases h) (fun fs hr => retOut X0 hx hret rfl (Or.inr (Or.inl ⟨rfl, rfl, _, rfl⟩)) (hb hby d8_31) hr) (by rw [e0]; exact ⟨rfl, N0, rfl⟩) (by decide) (by decide)
def Q1 (Z : State) (ob : Addr) (k0 : Nat) (h0 : Heap) (n0 : Nat) (v : Option Value) (h : Heap) (L : List Loc) : Prop := v = none ∧ Fr n0 L ∧ Keep h0 h [ob] ∧ ∃ wb kc, n0 ≤ wb ∧ h0.size ≤ wb ∧ own_w Z h ob wb kc k0 (own_zs k0 ++ own_zs k0)
theorem own_ef_rm1 (m : MethodId) (x0 : Addr) (x1 : Int32) (x2 : Int32) : entryFrame m #[(.ref x0), (.int x1), (.int x2)] 3 = mkF m 0 #[.val (.ref x0), .val (.int x1), .val (.int x2)] [] := by first | (simp [entryFrame, mkF, argsToLocals, Value.category]; done) | rfl
set_option maxRecDepth 65536 in
set_option maxHeartbeats 40000000 in
theorem rm1 (l : Launch) (Z : State) (a0 : Array Value) (hw : ∀ d ∈ tables_1, d.before a0 Z = true) (ws : List Jvm.Cond) (ob : Addr) (k0 : Nat) (h0 : Heap) (n0 : Nat) (Z0 : n0 ≤ h0.size) (hk0 : k0 ≤ 3) (E_ob : Exa Z h0 ob "com/example/matchwright/matchwright/service/matching/WideArray") (F_l : Fld Z h0 ob "com/example/matchwright/matchwright/service/matching/WideArray" "limbs" "I" (.int (0 : Int32))) (F_w : Fld Z h0 ob "com/example/matchwright/matchwright/service/matching/WideArray" "words" "[J" .null) (g_ob : n0 ≤ ob) :
    MetFree l (⟨"com/example/matchwright/matchwright/service/matching/WideArray", "<init>", "(II)V"⟩ : MethodName) (head1 (Jvm.Cond.code (⟨"com/example/matchwright/matchwright/service/matching/WideArray", "<init>", "(II)V"⟩ : MethodName) prog_131_method_1_code 3 none :: ws) ({ frames := 1, cells := 1, slots := 8, locals := 12 } : Room)) (fun aQ UQ => aQ = #[(.ref ob), (.int (2 : Int32)), (.int (Int32.ofNat (k0 + 1)))] ∧ Z.Warmed39 UQ.vm ∧ UQ.heap = h0) (fun _ _ _ _ _ => True) (fun _ UQ oQ UR => ∃ vQ LQ, oQ = .returned vQ ∧ Q1 Z ob k0 h0 n0 vQ UR.heap LQ ∧ FrameEnd UQ oQ UR LQ ({ frames := 1, cells := 1, slots := 8, locals := 12 } : Room).cells ({ frames := 1, cells := 1, slots := 8, locals := 12 } : Room).slots) := by
  refine MetFree.of_bodySF (plainFor_of_name pn_1) hisR ?_
  intro p e s m args below meth c s₁ Bd hml0 hP hK
  obtain ⟨rfl, hZ, hh⟩ := hP
  have hx := Bd.exec
  have hby := Bd.bytes
  have hml : c.maxLocals = 3 := hml0
  have hown : s.vm.findClass "com/example/matchwright/matchwright/service/matching/WideArray" = some m.cls := findClass_of_methodNamed Bd.named
  have hnm := (name_of_methodNamed Bd.named Bd.method).1
  have hret := Bd.returns
  have hlk : meth.locks = false := Bd.notSynchronized
  have X0 : Stand p l e ({ frames := 1, cells := 1, slots := 8, locals := 12 } : Room) s m #[(.ref ob), (.int (2 : Int32)), (.int (Int32.ofNat (k0 + 1)))] below meth c s₁ [] 0 0 := Stand.of_body Bd
  have e0 : s₁.heap = h0 := by rw [← hh, Bd.state]; rfl
  have N0 := Fr.nil n0
  have K : Ctx1 p s m meth c Z a0 := ⟨hx, hZ, hw, hby, hml, hown, hret, hlk, hnm⟩
  show OwnGo p e below s ({ frames := 1, cells := 1, slots := 8, locals := 12 } : Room).cells ({ frames := 1, cells := 1, slots := 8, locals := 12 } : Room).slots (Q1 Z ob k0 h0 n0) s₁ (entryFrame m #[(.ref ob), (.int (2 : Int32)), (.int (Int32.ofNat (k0 + 1)))] 3)
  refine own_cast (own_ef_rm1 m ob (2 : Int32) (Int32.ofNat (k0 + 1))) ?_
  show OwnGo p e below s _ _ _ s₁ (mkF m 0 #[.val (.ref ob), .val (.int (2 : Int32)), .val (.int (Int32.ofNat (k0 + 1)))] [])
  refine own_st (T' := s₁) (g' := (mkF m 1 #[.val (.ref ob), .val (.int (2 : Int32)), .val (.int (Int32.ofNat (k0 + 1)))] [(.ref ob)])) (fun uT uK => ?_) ?_
  · show Steps p.tables e below (s₁.setTop (mkF m 0 #[.val (.ref ob), .val (.int (2 : Int32)), .val (.int (Int32.ofNat (k0 + 1)))] [])) _
    refine XS.aloadN X0.here hx rfl (hb hby d1_0) rfl rfl ?_
    exact uK
  obtain ⟨T1, X1, e1, st1⟩ := initO X0 hx hZ hown (hw _ (List.mem_of_getElem? (i := 6) rfl)) (hw _ (List.mem_of_getElem? (i := 7) rfl)) (hw _ (List.mem_of_getElem? (i := 8) rfl)) e0 (g := (mkF m 1 #[.val (.ref ob), .val (.int (2 : Int32)), .val (.int (Int32.ofNat (k0 + 1)))] [(.ref ob)])) rfl (by rw [hml]; rfl) rfl (hb hby d1_1) (by decide) (W := 0) (by show 2 * 0 + _ ≤ _; exact Nat.le_of_eq rfl) (by decide)
  refine own_st st1 ?_
  show OwnGo p e below s _ _ _ T1 (mkF m 4 #[.val (.ref ob), .val (.int (2 : Int32)), .val (.int (Int32.ofNat (k0 + 1)))] [])
  refine own_st (T' := T1) (g' := (mkF m 6 #[.val (.ref ob), .val (.int (2 : Int32)), .val (.int (Int32.ofNat (k0 + 1)))] [(.int (Int32.ofNat (k0 + 1))), (.ref ob)])) (fun uT uK => ?_) ?_
  · show Steps p.tables e below (T1.setTop (mkF m 4 #[.val (.ref ob), .val (.int (2 : Int32)), .val (.int (Int32.ofNat (k0 + 1)))] [])) _
    refine XS.aloadN X1.here hx rfl (hb hby d1_4) rfl rfl ?_
    show Steps p.tables e below (T1.setTop (mkF m 5 #[.val (.ref ob), .val (.int (2 : Int32)), .val (.int (Int32.ofNat (k0 + 1)))] [(.ref ob)])) _
    refine XS.iloadN X1.here hx rfl (hb hby d1_5) rfl ?_
    exact uK
  obtain ⟨T2, h2, X2, e2, W2, st2⟩ := putF X1 hx hZ hown (host := "") (Or.inl (hw _ (List.mem_of_getElem? (i := 9) rfl))) Via.refl e1 F_l E_ob (Or.inr ⟨(hw _ (List.mem_of_getElem? (i := 10) rfl)), rfl, hnm⟩) (hw _ (List.mem_of_getElem? (i := 1) rfl)) (ty := .int) (by decide) rfl rfl (g := (mkF m 6 #[.val (.ref ob), .val (.int (2 : Int32)), .val (.int (Int32.ofNat (k0 + 1)))] [(.int (Int32.ofNat (k0 + 1))), (.ref ob)])) rfl rfl (hb hby d1_6)
  have E2_ob := (E_ob).wr W2
  have K2 := (Keep.refl h0 [ob]).wr W2 (Or.inl (List.mem_of_getElem? (i := 0) rfl))
  have F2_limbs_ob := (F_l).same W2
  have F2_words_ob := (F_w).other W2 (Or.inr (slot_ne (Or.inr (hw _ (List.mem_of_getElem? (i := 13) rfl))) (Or.inr (hw _ (List.mem_of_getElem? (i := 10) rfl))) (by decide) (t := (.array .long)) (t' := .int) (by decide) (by decide)))
  have N2 := Fr.snoc X2 N0 g_ob
  have Z2 : n0 ≤ h2.size := Nat.le_trans Z0 (Keep.of_wr W2).1
  refine own_st st2 ?_
  show OwnGo p e below s _ _ _ T2 (mkF m 9 #[.val (.ref ob), .val (.int (2 : Int32)), .val (.int (Int32.ofNat (k0 + 1)))] [])
  refine own_st (T' := T2) (g' := (mkF m 13 #[.val (.ref ob), .val (.int (2 : Int32)), .val (.int (Int32.ofNat (k0 + 1)))] [(.int ((2 : Int32) * (Int32.ofNat (k0 + 1)))), (.ref ob)])) (fun uT uK => ?_) ?_
  · show Steps p.tables e below (T2.setTop (mkF m 9 #[.val (.ref ob), .val (.int (2 : Int32)), .val (.int (Int32.ofNat (k0 + 1)))] [])) _
    refine XS.aloadN X2.here hx rfl (hb hby d1_9) rfl rfl ?_
    show Steps p.tables e below (T2.setTop (mkF m 10 #[.val (.ref ob), .val (.int (2 : Int32)), .val (.int (Int32.ofNat (k0 + 1)))] [(.ref ob)])) _
    refine XS.iloadN X2.here hx rfl (hb hby d1_10) rfl ?_
    show Steps p.tables e below (T2.setTop (mkF m 11 #[.val (.ref ob), .val (.int (2 : Int32)), .val (.int (Int32.ofNat (k0 + 1)))] [(.int (2 : Int32)), (.ref ob)])) _
    refine XS.iloadN X2.here hx rfl (hb hby d1_11) rfl ?_
    show Steps p.tables e below (T2.setTop (mkF m 12 #[.val (.ref ob), .val (.int (2 : Int32)), .val (.int (Int32.ofNat (k0 + 1)))] [(.int (Int32.ofNat (k0 + 1))), (.int (2 : Int32)), (.ref ob)])) _
    refine XS.imul X2.here hx rfl (hb hby d1_12) rfl ?_
    exact uK
  rw [own_twoM (k0 + 1)]
  show OwnGo p e below s _ _ _ T2 (mkF m 13 #[.val (.ref ob), .val (.int (2 : Int32)), .val (.int (Int32.ofNat (k0 + 1)))] [(.int (Int32.ofNat (k0 + 1 + (k0 + 1)))), (.ref ob)])
  obtain ⟨T3, h3, kc, X3, e3, E3, A3, st3⟩ := newP X2 hx hZ (hw _ (List.mem_of_getElem? (i := 11) rfl)) e2 (g := (mkF m 13 #[.val (.ref ob), .val (.int (2 : Int32)), .val (.int (Int32.ofNat (k0 + 1)))] [(.int (Int32.ofNat (k0 + 1 + (k0 + 1)))), (.ref ob)])) rfl (hb hby d1_13) rfl (own_nn hk0) (cap := 8) (own_nc hk0) (by decide) (by decide) (by decide)
  obtain ⟨wb, g3⟩ : ∃ z, z = h2.size := ⟨_, rfl⟩
  rw [← g3] at A3 st3
  have g_wb : n0 ≤ wb := Nat.le_trans Z2 (Nat.le_of_eq g3.symm)
  have sz_wb : h0.size ≤ wb := Nat.le_trans (K2).1 (Nat.le_of_eq g3.symm)
  have ne_ob_wb : ob ≠ wb := Nat.ne_of_lt (Nat.lt_of_lt_of_le (E2_ob).lt (Nat.le_of_eq g3.symm))
  have Ex3_ob := (E2_ob).ext E3
  have K3 := (K2).ext E3
  have Fx3_ob_limbs := (F2_limbs_ob).ext E3
  have Fx3_ob_words := (F2_words_ob).ext E3
  have Z3 : n0 ≤ h3.size := Nat.le_trans Z2 E3.1
  have V_w := own_zeros hk0 A3
  refine own_st st3 ?_
  show OwnGo p e below s _ _ _ T3 (mkF m 15 #[.val (.ref ob), .val (.int (2 : Int32)), .val (.int (Int32.ofNat (k0 + 1)))] [(.ref wb), (.ref ob)])
  obtain ⟨T4, h4, X4, e4, W4, st4⟩ := putF X3 hx hZ hown (host := "") (Or.inl (hw _ (List.mem_of_getElem? (i := 12) rfl))) Via.refl e3 Fx3_ob_words Ex3_ob (Or.inr ⟨(hw _ (List.mem_of_getElem? (i := 13) rfl)), rfl, hnm⟩) (hw _ (List.mem_of_getElem? (i := 1) rfl)) (ty := (.array .long)) (by decide) rfl rfl (g := (mkF m 15 #[.val (.ref ob), .val (.int (2 : Int32)), .val (.int (Int32.ofNat (k0 + 1)))] [(.ref wb), (.ref ob)])) rfl rfl (hb hby d1_15)
  have E4_ob := (Ex3_ob).wr W4
  have K4 := (K3).wr W4 (Or.inl (List.mem_of_getElem? (i := 0) rfl))
  have F4_limbs_ob := (Fx3_ob_limbs).other W4 (Or.inr (slot_ne (Or.inr (hw _ (List.mem_of_getElem? (i := 10) rfl))) (Or.inr (hw _ (List.mem_of_getElem? (i := 13) rfl))) (by decide) (t := .int) (t' := (.array .long)) (by decide) (by decide)))
  have F4_words_ob := (Fx3_ob_words).same W4
  have V4_wb := (V_w).other W4 (Ne.symm ne_ob_wb)
  have N4 := Fr.snoc X4 N2 g_ob
  have Z4 : n0 ≤ h4.size := Nat.le_trans Z3 (Keep.of_wr W4).1
  refine own_st st4 ?_
  show OwnGo p e below s _ _ _ T4 (mkF m 18 #[.val (.ref ob), .val (.int (2 : Int32)), .val (.int (Int32.ofNat (k0 + 1)))] [])
  exact own_ret (v := none) X4 hlk (fun _ => rfl) (fun fs hr => X4.returnOut hx hret (hb hby d1_18) hr) (by rw [e4]; exact ⟨rfl, N4, K4, wb, kc, g_wb, sz_wb, E4_ob, F4_limbs_ob, F4_words_ob, V4_wb, by simp [own_zs]; omega, ne_ob_wb⟩) (by decide) (by decide)
def Q3 (Z : State) (ob : Addr) (wb : Addr) (kc : ClassId) (k0 : Nat) (P : List Int64) (Sf : List Int64) (F : List Int64) (ix : Int32) (bs : Nat) (q : Int64) (h0 : Heap) (n0 : Nat) (v : Option Value) (h : Heap) (L : List Loc) : Prop := v = none ∧ Fr n0 L ∧ Keep h0 h [wb] ∧ own_w Z h ob wb kc k0 (P ++ F ++ Sf)
set_option maxRecDepth 65536 in
set_option maxHeartbeats 40000000 in
theorem own_loop3 {p : Program} {l : Launch} {e : Env} {s : State} {m : MethodId} {args : Array Value} {below : List Frame} {meth : Method} {c : Code} {Z : State} {a0 : Array Value} {h0 : Heap} {n0 : Nat} (ob wb : Addr) (kc : ClassId) (k0 : Nat) (P Sf F : List Int64) (ix : Int32) (bs : Nat) (q : Int64) (hk0 : k0 ≤ 3) (hP : P.length = bs) (g_w : n0 ≤ wb)
    (K : Ctx3 p s m meth c Z a0) :
    ∀ (k i : Nat) (D R : List Int64) (v : Int64) (T : State) (h : Heap) (locs : List Loc), i + k = k0 → D.length = i → R.length = k + 1 → Stand p l e ({ frames := 0, cells := 0, slots := 0, locals := 0 } : Room) s m args below meth c T locs 0 0 → T.heap = h → Fr n0 locs → Keep h0 h [wb] → own_w Z h ob wb kc k0 (P ++ (D ++ R) ++ Sf) → D ++ own_limbs k v = F →
      OwnGo p e below s ({ frames := 0, cells := 0, slots := 0, locals := 0 } : Room).cells ({ frames := 0, cells := 0, slots := 0, locals := 0 } : Room).slots (Q3 Z ob wb kc k0 P Sf F ix bs q h0 n0) T (mkF m 22 #[.val (.ref ob), .val (.int ix), .val (.long q), .second, .val (.int (Int32.ofNat bs)), .val (.int (Int32.ofNat k0)), .val (.long v), .second, .val (.int (Int32.ofNat i))] []) := by
  obtain ⟨hx, hZ, hw, hby, hml, hown, hret, hlk, hnm⟩ := id K
  intro k
  induction k with
  | zero =>
    intro i D R v T h locs hi hD hR X eT N Kp O hF
    obtain ⟨x, rfl⟩ : ∃ x, R = [x] := List.length_eq_one_iff.mp hR
    have hik : i = k0 := by omega
    have hlt : ¬ Int32.ofNat i < Int32.ofNat k0 := by rw [own_ltN (by omega) (by omega)]; omega
    show OwnGo p e below s _ _ _ T (mkF m 22 #[.val (.ref ob), .val (.int ix), .val (.long q), .second, .val (.int (Int32.ofNat bs)), .val (.int (Int32.ofNat k0)), .val (.long v), .second, .val (.int (Int32.ofNat i))] [])
    refine own_st (T' := T) (g' := (mkF m 59 #[.val (.ref ob), .val (.int ix), .val (.long q), .second, .val (.int (Int32.ofNat bs)), .val (.int (Int32.ofNat k0)), .val (.long v), .second, .val (.int (Int32.ofNat i))] [(.ref ob)])) (fun uT uK => ?_) ?_
    · show Steps p.tables e below (T.setTop (mkF m 22 #[.val (.ref ob), .val (.int ix), .val (.long q), .second, .val (.int (Int32.ofNat bs)), .val (.int (Int32.ofNat k0)), .val (.long v), .second, .val (.int (Int32.ofNat i))] [])) _
      refine XS.iload X.here hx rfl (hb hby d3_22) rfl ?_
      show Steps p.tables e below (T.setTop (mkF m 24 #[.val (.ref ob), .val (.int ix), .val (.long q), .second, .val (.int (Int32.ofNat bs)), .val (.int (Int32.ofNat k0)), .val (.long v), .second, .val (.int (Int32.ofNat i))] [(.int (Int32.ofNat i))])) _
      refine XS.iload X.here hx rfl (hb hby d3_24) rfl ?_
      show Steps p.tables e below (T.setTop (mkF m 26 #[.val (.ref ob), .val (.int ix), .val (.long q), .second, .val (.int (Int32.ofNat bs)), .val (.int (Int32.ofNat k0)), .val (.long v), .second, .val (.int (Int32.ofNat i))] [(.int (Int32.ofNat k0)), (.int (Int32.ofNat i))])) _
      refine XS.icmpYes X.here hx rfl (pc0 := 26) (pc' := 58) rfl (hb hby d3_26) rfl (XT.ii_ge_t hlt) (by decide) (by decide) ?_
      show Steps p.tables e below (T.setTop (mkF m 58 #[.val (.ref ob), .val (.int ix), .val (.long q), .second, .val (.int (Int32.ofNat bs)), .val (.int (Int32.ofNat k0)), .val (.long v), .second, .val (.int (Int32.ofNat i))] [])) _
      refine XS.aloadN X.here hx rfl (hb hby d3_58) rfl rfl ?_
      exact uK
    obtain ⟨T1, X1, e1, st1⟩ := getF X hx hZ hown (host := "") (Or.inl (hw _ (List.mem_of_getElem? (i := 12) rfl))) Via.refl eT (O).2.2.1 (g := (mkF m 59 #[.val (.ref ob), .val (.int ix), .val (.long q), .second, .val (.int (Int32.ofNat bs)), .val (.int (Int32.ofNat k0)), .val (.long v), .second, .val (.int (Int32.ofNat i))] [(.ref ob)])) rfl rfl (hb hby d3_59)
    refine own_st st1 ?_
    show OwnGo p e below s _ _ _ T1 (mkF m 62 #[.val (.ref ob), .val (.int ix), .val (.long q), .second, .val (.int (Int32.ofNat bs)), .val (.int (Int32.ofNat k0)), .val (.long v), .second, .val (.int (Int32.ofNat i))] [(.ref wb)])
    refine own_st (T' := T1) (g' := (mkF m 67 #[.val (.ref ob), .val (.int ix), .val (.long q), .second, .val (.int (Int32.ofNat bs)), .val (.int (Int32.ofNat k0)), .val (.long v), .second, .val (.int (Int32.ofNat i))] [(.int ((Int32.ofNat bs) + (Int32.ofNat k0))), (.ref wb)])) (fun uT uK => ?_) ?_
    · show Steps p.tables e below (T1.setTop (mkF m 62 #[.val (.ref ob), .val (.int ix), .val (.long q), .second, .val (.int (Int32.ofNat bs)), .val (.int (Int32.ofNat k0)), .val (.long v), .second, .val (.int (Int32.ofNat i))] [(.ref wb)])) _
      refine XS.iload X1.here hx rfl (hb hby d3_62) rfl ?_
      show Steps p.tables e below (T1.setTop (mkF m 64 #[.val (.ref ob), .val (.int ix), .val (.long q), .second, .val (.int (Int32.ofNat bs)), .val (.int (Int32.ofNat k0)), .val (.long v), .second, .val (.int (Int32.ofNat i))] [(.int (Int32.ofNat bs)), (.ref wb)])) _
      refine XS.iload X1.here hx rfl (hb hby d3_64) rfl ?_
      show Steps p.tables e below (T1.setTop (mkF m 66 #[.val (.ref ob), .val (.int ix), .val (.long q), .second, .val (.int (Int32.ofNat bs)), .val (.int (Int32.ofNat k0)), .val (.long v), .second, .val (.int (Int32.ofNat i))] [(.int (Int32.ofNat k0)), (.int (Int32.ofNat bs)), (.ref wb)])) _
      refine XS.iadd X1.here hx rfl (hb hby d3_66) rfl ?_
      exact uK
    rw [own_addN bs k0]
    show OwnGo p e below s _ _ _ T1 (mkF m 67 #[.val (.ref ob), .val (.int ix), .val (.long q), .second, .val (.int (Int32.ofNat bs)), .val (.int (Int32.ofNat k0)), .val (.long v), .second, .val (.int (Int32.ofNat i))] [(.int (Int32.ofNat (bs + k0))), (.ref wb)])
    refine own_st (T' := T1) (g' := (mkF m 69 #[.val (.ref ob), .val (.int ix), .val (.long q), .second, .val (.int (Int32.ofNat bs)), .val (.int (Int32.ofNat k0)), .val (.long v), .second, .val (.int (Int32.ofNat i))] [(.long v), (.int (Int32.ofNat (bs + k0))), (.ref wb)])) (fun uT uK => ?_) ?_
    · show Steps p.tables e below (T1.setTop (mkF m 67 #[.val (.ref ob), .val (.int ix), .val (.long q), .second, .val (.int (Int32.ofNat bs)), .val (.int (Int32.ofNat k0)), .val (.long v), .second, .val (.int (Int32.ofNat i))] [(.int (Int32.ofNat (bs + k0))), (.ref wb)])) _
      refine XT.lload X1.here hx rfl (hb hby d3_67) rfl ?_
      exact uK
    obtain ⟨T2, h2, locs2, X2, e2, O2, N2, Kw2, st2⟩ := own_stJ X1 hx hZ e1 (O) (j := bs + k0) (by rw [← hP, ← hik, ← hD]; exact own_leng P D [] Sf x) (us := P ++ (D ++ [v]) ++ Sf) (by rw [← hP, ← hik, ← hD]; exact own_setg P D [] Sf x v) N g_w (g := (mkF m 69 #[.val (.ref ob), .val (.int ix), .val (.long q), .second, .val (.int (Int32.ofNat bs)), .val (.int (Int32.ofNat k0)), .val (.long v), .second, .val (.int (Int32.ofNat i))] [(.long v), (.int (Int32.ofNat (bs + k0))), (.ref wb)])) rfl rfl (hb hby d3_69)
    have Ka2 : Keep h0 h2 [wb] := (Kp).trans Kw2 (allS (Or.inl (List.mem_of_getElem? (i := 0) rfl)) all0)
    refine own_st st2 ?_
    show OwnGo p e below s _ _ _ T2 (mkF m 70 #[.val (.ref ob), .val (.int ix), .val (.long q), .second, .val (.int (Int32.ofNat bs)), .val (.int (Int32.ofNat k0)), .val (.long v), .second, .val (.int (Int32.ofNat i))] [])
    exact own_ret (v := none) X2 hlk (fun _ => rfl) (fun fs hr => X2.returnOut hx hret (hb hby d3_70) hr) (by rw [e2]; exact ⟨rfl, N2, Ka2, (by have q := O2; rw [show D ++ [v] = F from hF] at q; exact q)⟩) (by decide) (by decide)
  | succ k ih =>
    intro i D R v T h locs hi hD hR X eT N Kp O hF
    obtain ⟨x, R', rfl⟩ : ∃ x R', R = x :: R' := by
      cases R with
      | nil => simp at hR
      | cons a t => exact ⟨a, t, rfl⟩
    have hlt : Int32.ofNat i < Int32.ofNat k0 := by rw [own_ltN (by omega) (by omega)]; omega
    show OwnGo p e below s _ _ _ T (mkF m 22 #[.val (.ref ob), .val (.int ix), .val (.long q), .second, .val (.int (Int32.ofNat bs)), .val (.int (Int32.ofNat k0)), .val (.long v), .second, .val (.int (Int32.ofNat i))] [])
    refine own_st (T' := T) (g' := (mkF m 30 #[.val (.ref ob), .val (.int ix), .val (.long q), .second, .val (.int (Int32.ofNat bs)), .val (.int (Int32.ofNat k0)), .val (.long v), .second, .val (.int (Int32.ofNat i))] [(.ref ob)])) (fun uT uK => ?_) ?_
    · show Steps p.tables e below (T.setTop (mkF m 22 #[.val (.ref ob), .val (.int ix), .val (.long q), .second, .val (.int (Int32.ofNat bs)), .val (.int (Int32.ofNat k0)), .val (.long v), .second, .val (.int (Int32.ofNat i))] [])) _
      refine XS.iload X.here hx rfl (hb hby d3_22) rfl ?_
      show Steps p.tables e below (T.setTop (mkF m 24 #[.val (.ref ob), .val (.int ix), .val (.long q), .second, .val (.int (Int32.ofNat bs)), .val (.int (Int32.ofNat k0)), .val (.long v), .second, .val (.int (Int32.ofNat i))] [(.int (Int32.ofNat i))])) _
      refine XS.iload X.here hx rfl (hb hby d3_24) rfl ?_
      show Steps p.tables e below (T.setTop (mkF m 26 #[.val (.ref ob), .val (.int ix), .val (.long q), .second, .val (.int (Int32.ofNat bs)), .val (.int (Int32.ofNat k0)), .val (.long v), .second, .val (.int (Int32.ofNat i))] [(.int (Int32.ofNat k0)), (.int (Int32.ofNat i))])) _
      refine XS.icmpNo X.here hx rfl (hb hby d3_26) rfl (XT.ii_ge_f hlt) ?_
      show Steps p.tables e below (T.setTop (mkF m 29 #[.val (.ref ob), .val (.int ix), .val (.long q), .second, .val (.int (Int32.ofNat bs)), .val (.int (Int32.ofNat k0)), .val (.long v), .second, .val (.int (Int32.ofNat i))] [])) _
      refine XS.aloadN X.here hx rfl (hb hby d3_29) rfl rfl ?_
      exact uK
    obtain ⟨T1, X1, e1, st1⟩ := getF X hx hZ hown (host := "") (Or.inl (hw _ (List.mem_of_getElem? (i := 12) rfl))) Via.refl eT (O).2.2.1 (g := (mkF m 30 #[.val (.ref ob), .val (.int ix), .val (.long q), .second, .val (.int (Int32.ofNat bs)), .val (.int (Int32.ofNat k0)), .val (.long v), .second, .val (.int (Int32.ofNat i))] [(.ref ob)])) rfl rfl (hb hby d3_30)
    refine own_st st1 ?_
    show OwnGo p e below s _ _ _ T1 (mkF m 33 #[.val (.ref ob), .val (.int ix), .val (.long q), .second, .val (.int (Int32.ofNat bs)), .val (.int (Int32.ofNat k0)), .val (.long v), .second, .val (.int (Int32.ofNat i))] [(.ref wb)])
    refine own_st (T' := T1) (g' := (mkF m 38 #[.val (.ref ob), .val (.int ix), .val (.long q), .second, .val (.int (Int32.ofNat bs)), .val (.int (Int32.ofNat k0)), .val (.long v), .second, .val (.int (Int32.ofNat i))] [(.int ((Int32.ofNat bs) + (Int32.ofNat i))), (.ref wb)])) (fun uT uK => ?_) ?_
    · show Steps p.tables e below (T1.setTop (mkF m 33 #[.val (.ref ob), .val (.int ix), .val (.long q), .second, .val (.int (Int32.ofNat bs)), .val (.int (Int32.ofNat k0)), .val (.long v), .second, .val (.int (Int32.ofNat i))] [(.ref wb)])) _
      refine XS.iload X1.here hx rfl (hb hby d3_33) rfl ?_
      show Steps p.tables e below (T1.setTop (mkF m 35 #[.val (.ref ob), .val (.int ix), .val (.long q), .second, .val (.int (Int32.ofNat bs)), .val (.int (Int32.ofNat k0)), .val (.long v), .second, .val (.int (Int32.ofNat i))] [(.int (Int32.ofNat bs)), (.ref wb)])) _
      refine XS.iload X1.here hx rfl (hb hby d3_35) rfl ?_
      show Steps p.tables e below (T1.setTop (mkF m 37 #[.val (.ref ob), .val (.int ix), .val (.long q), .second, .val (.int (Int32.ofNat bs)), .val (.int (Int32.ofNat k0)), .val (.long v), .second, .val (.int (Int32.ofNat i))] [(.int (Int32.ofNat i)), (.int (Int32.ofNat bs)), (.ref wb)])) _
      refine XS.iadd X1.here hx rfl (hb hby d3_37) rfl ?_
      exact uK
    rw [own_addN bs i]
    show OwnGo p e below s _ _ _ T1 (mkF m 38 #[.val (.ref ob), .val (.int ix), .val (.long q), .second, .val (.int (Int32.ofNat bs)), .val (.int (Int32.ofNat k0)), .val (.long v), .second, .val (.int (Int32.ofNat i))] [(.int (Int32.ofNat (bs + i))), (.ref wb)])
    refine own_st (T' := T1) (g' := (mkF m 44 #[.val (.ref ob), .val (.int ix), .val (.long q), .second, .val (.int (Int32.ofNat bs)), .val (.int (Int32.ofNat k0)), .val (.long v), .second, .val (.int (Int32.ofNat i))] [(.long (v &&& (4611686018427387903 : Int64))), (.int (Int32.ofNat (bs + i))), (.ref wb)])) (fun uT uK => ?_) ?_
    · show Steps p.tables e below (T1.setTop (mkF m 38 #[.val (.ref ob), .val (.int ix), .val (.long q), .second, .val (.int (Int32.ofNat bs)), .val (.int (Int32.ofNat k0)), .val (.long v), .second, .val (.int (Int32.ofNat i))] [(.int (Int32.ofNat (bs + i))), (.ref wb)])) _
      refine XT.lload X1.here hx rfl (hb hby d3_38) rfl ?_
      show Steps p.tables e below (T1.setTop (mkF m 40 #[.val (.ref ob), .val (.int ix), .val (.long q), .second, .val (.int (Int32.ofNat bs)), .val (.int (Int32.ofNat k0)), .val (.long v), .second, .val (.int (Int32.ofNat i))] [(.long v), (.int (Int32.ofNat (bs + i))), (.ref wb)])) _
      refine X1.ldc2Long hx hown (mvT hZ (hw _ (List.mem_of_getElem? (i := 34) rfl))) (g := (mkF m 40 #[.val (.ref ob), .val (.int ix), .val (.long q), .second, .val (.int (Int32.ofNat bs)), .val (.int (Int32.ofNat k0)), .val (.long v), .second, .val (.int (Int32.ofNat i))] [(.long v), (.int (Int32.ofNat (bs + i))), (.ref wb)])) rfl (hb hby d3_40) _ ?_
      show Steps p.tables e below (T1.setTop (mkF m 43 #[.val (.ref ob), .val (.int ix), .val (.long q), .second, .val (.int (Int32.ofNat bs)), .val (.int (Int32.ofNat k0)), .val (.long v), .second, .val (.int (Int32.ofNat i))] [(.long (4611686018427387903 : Int64)), (.long v), (.int (Int32.ofNat (bs + i))), (.ref wb)])) _
      refine XT.land X1.here hx rfl (hb hby d3_43) rfl ?_
      exact uK
    obtain ⟨T2, h2, locs2, X2, e2, O2, N2, Kw2, st2⟩ := own_stJ X1 hx hZ e1 (O) (j := bs + i) (by rw [← hP, ← hD]; exact own_leng P D R' Sf x) (us := P ++ (D ++ (v &&& (4611686018427387903 : Int64)) :: R') ++ Sf) (by rw [← hP, ← hD]; exact own_setg P D R' Sf x _) N g_w (g := (mkF m 44 #[.val (.ref ob), .val (.int ix), .val (.long q), .second, .val (.int (Int32.ofNat bs)), .val (.int (Int32.ofNat k0)), .val (.long v), .second, .val (.int (Int32.ofNat i))] [(.long (v &&& (4611686018427387903 : Int64))), (.int (Int32.ofNat (bs + i))), (.ref wb)])) rfl rfl (hb hby d3_44)
    have Ka2 : Keep h0 h2 [wb] := (Kp).trans Kw2 (allS (Or.inl (List.mem_of_getElem? (i := 0) rfl)) all0)
    refine own_st st2 ?_
    show OwnGo p e below s _ _ _ T2 (mkF m 45 #[.val (.ref ob), .val (.int ix), .val (.long q), .second, .val (.int (Int32.ofNat bs)), .val (.int (Int32.ofNat k0)), .val (.long v), .second, .val (.int (Int32.ofNat i))] [])
    refine own_st (T' := T2) (g' := (mkF m 22 #[.val (.ref ob), .val (.int ix), .val (.long q), .second, .val (.int (Int32.ofNat bs)), .val (.int (Int32.ofNat k0)), .val (.long (v >>> ((62 : Int32).toInt64 &&& 63))), .second, .val (.int ((Int32.ofNat i) + (1 : Int32)))] [])) (fun uT uK => ?_) ?_
    · show Steps p.tables e below (T2.setTop (mkF m 45 #[.val (.ref ob), .val (.int ix), .val (.long q), .second, .val (.int (Int32.ofNat bs)), .val (.int (Int32.ofNat k0)), .val (.long v), .second, .val (.int (Int32.ofNat i))] [])) _
      refine XT.lload X2.here hx rfl (hb hby d3_45) rfl ?_
      show Steps p.tables e below (T2.setTop (mkF m 47 #[.val (.ref ob), .val (.int ix), .val (.long q), .second, .val (.int (Int32.ofNat bs)), .val (.int (Int32.ofNat k0)), .val (.long v), .second, .val (.int (Int32.ofNat i))] [(.long v)])) _
      refine XS.bipush X2.here hx rfl (hb hby d3_47) ?_
      show Steps p.tables e below (T2.setTop (mkF m 49 #[.val (.ref ob), .val (.int ix), .val (.long q), .second, .val (.int (Int32.ofNat bs)), .val (.int (Int32.ofNat k0)), .val (.long v), .second, .val (.int (Int32.ofNat i))] [(.int (62 : Int32)), (.long v)])) _
      refine XT.lshr X2.here hx rfl (hb hby d3_49) rfl ?_
      show Steps p.tables e below (T2.setTop (mkF m 50 #[.val (.ref ob), .val (.int ix), .val (.long q), .second, .val (.int (Int32.ofNat bs)), .val (.int (Int32.ofNat k0)), .val (.long v), .second, .val (.int (Int32.ofNat i))] [(.long (v >>> ((62 : Int32).toInt64 &&& 63)))])) _
      refine XT.lstore X2.here hx rfl (hb hby d3_50) rfl (l' := #[.val (.ref ob), .val (.int ix), .val (.long q), .second, .val (.int (Int32.ofNat bs)), .val (.int (Int32.ofNat k0)), .val (.long (v >>> ((62 : Int32).toInt64 &&& 63))), .second, .val (.int (Int32.ofNat i))]) rfl ?_
      show Steps p.tables e below (T2.setTop (mkF m 52 #[.val (.ref ob), .val (.int ix), .val (.long q), .second, .val (.int (Int32.ofNat bs)), .val (.int (Int32.ofNat k0)), .val (.long (v >>> ((62 : Int32).toInt64 &&& 63))), .second, .val (.int (Int32.ofNat i))] [])) _
      refine XS.iinc X2.here hx rfl (hb hby d3_52) rfl (l' := #[.val (.ref ob), .val (.int ix), .val (.long q), .second, .val (.int (Int32.ofNat bs)), .val (.int (Int32.ofNat k0)), .val (.long (v >>> ((62 : Int32).toInt64 &&& 63))), .second, .val (.int ((Int32.ofNat i) + (1 : Int32)))]) rfl ?_
      show Steps p.tables e below (T2.setTop (mkF m 55 #[.val (.ref ob), .val (.int ix), .val (.long q), .second, .val (.int (Int32.ofNat bs)), .val (.int (Int32.ofNat k0)), .val (.long (v >>> ((62 : Int32).toInt64 &&& 63))), .second, .val (.int ((Int32.ofNat i) + (1 : Int32)))] [])) _
      refine XS.goto X2.here hx rfl (pc0 := 55) (pc' := 22) rfl (hb hby d3_55) (by decide) (by decide) ?_
      exact uK
    rw [own_i1 i]
    exact ih (i + 1) (D ++ [(v &&& (4611686018427387903 : Int64))]) R' (v >>> ((62 : Int32).toInt64 &&& 63)) T2 h2 locs2 (by omega) (by rw [List.length_append, hD]; rfl) (by simpa using hR) X2 e2 N2 Ka2 (by have q := O2; rw [List.append_cons] at q; exact q) (by rw [← hF, List.append_assoc]; rfl)
theorem own_ef_rm3 (m : MethodId) (x0 : Addr) (x1 : Int32) (x2 : Int64) : entryFrame m #[(.ref x0), (.int x1), (.long x2)] 9 = mkF m 0 #[.val (.ref x0), .val (.int x1), .val (.long x2), .second, .unset, .unset, .unset, .unset, .unset] [] := by first | (simp [entryFrame, mkF, argsToLocals, Value.category]; done) | rfl
set_option maxRecDepth 65536 in
set_option maxHeartbeats 40000000 in
theorem rm3 (l : Launch) (Z : State) (a0 : Array Value) (hw : ∀ d ∈ tables_1, d.before a0 Z = true) (ws : List Jvm.Cond) (ob : Addr) (wb : Addr) (kc : ClassId) (k0 : Nat) (P : List Int64) (Sf : List Int64) (F : List Int64) (ix : Int32) (bs : Nat) (q : Int64) (h0 : Heap) (n0 : Nat) (Z0 : n0 ≤ h0.size) (Xs : List Int64) (hk0 : k0 ≤ 3) (hP : P.length = bs) (hX : Xs.length = k0 + 1) (hix : ix * Int32.ofNat (k0 + 1) = Int32.ofNat bs) (g_w : n0 ≤ wb) (O : own_w Z h0 ob wb kc k0 (P ++ Xs ++ Sf)) (hF : own_limbs k0 q = F) :
    MetFree l (⟨"com/example/matchwright/matchwright/service/matching/WideArray", "set", "(IJ)V"⟩ : MethodName) (head1 (Jvm.Cond.code (⟨"com/example/matchwright/matchwright/service/matching/WideArray", "set", "(IJ)V"⟩ : MethodName) prog_131_method_4_code 9 none :: ws) ({ frames := 0, cells := 0, slots := 0, locals := 0 } : Room)) (fun aQ UQ => aQ = #[(.ref ob), (.int ix), (.long q)] ∧ Z.Warmed39 UQ.vm ∧ UQ.heap = h0) (fun _ _ _ _ _ => True) (fun _ UQ oQ UR => ∃ vQ LQ, oQ = .returned vQ ∧ Q3 Z ob wb kc k0 P Sf F ix bs q h0 n0 vQ UR.heap LQ ∧ FrameEnd UQ oQ UR LQ ({ frames := 0, cells := 0, slots := 0, locals := 0 } : Room).cells ({ frames := 0, cells := 0, slots := 0, locals := 0 } : Room).slots) := by
  refine MetFree.of_bodySF (plainFor_of_name pn_3) hisR ?_
  intro p e s m args below meth c s₁ Bd hml0 hP hK
  obtain ⟨rfl, hZ, hh⟩ := hP
  have hx := Bd.exec
  have hby := Bd.bytes
  have hml : c.maxLocals = 9 := hml0
  have hown : s.vm.findClass "com/example/matchwright/matchwright/service/matching/WideArray" = some m.cls := findClass_of_methodNamed Bd.named
  have hnm := (name_of_methodNamed Bd.named Bd.method).1
  have hret := Bd.returns
  have hlk : meth.locks = false := Bd.notSynchronized
  have X0 : Stand p l e ({ frames := 0, cells := 0, slots := 0, locals := 0 } : Room) s m #[(.ref ob), (.int ix), (.long q)] below meth c s₁ [] 0 0 := Stand.of_body Bd
  have e0 : s₁.heap = h0 := by rw [← hh, Bd.state]; rfl
  have N0 := Fr.nil n0
  have K : Ctx3 p s m meth c Z a0 := ⟨hx, hZ, hw, hby, hml, hown, hret, hlk, hnm⟩
  show OwnGo p e below s ({ frames := 0, cells := 0, slots := 0, locals := 0 } : Room).cells ({ frames := 0, cells := 0, slots := 0, locals := 0 } : Room).slots (Q3 Z ob wb kc k0 P Sf F ix bs q h0 n0) s₁ (entryFrame m #[(.ref ob), (.int ix), (.long q)] 9)
  refine own_cast (own_ef_rm3 m ob ix q) ?_
  show OwnGo p e below s _ _ _ s₁ (mkF m 0 #[.val (.ref ob), .val (.int ix), .val (.long q), .second, .unset, .unset, .unset, .unset, .unset] [])
  refine own_st (T' := s₁) (g' := (mkF m 2 #[.val (.ref ob), .val (.int ix), .val (.long q), .second, .unset, .unset, .unset, .unset, .unset] [(.ref ob), (.int ix)])) (fun uT uK => ?_) ?_
  · show Steps p.tables e below (s₁.setTop (mkF m 0 #[.val (.ref ob), .val (.int ix), .val (.long q), .second, .unset, .unset, .unset, .unset, .unset] [])) _
    refine XS.iloadN X0.here hx rfl (hb hby d3_0) rfl ?_
    show Steps p.tables e below (s₁.setTop (mkF m 1 #[.val (.ref ob), .val (.int ix), .val (.long q), .second, .unset, .unset, .unset, .unset, .unset] [(.int ix)])) _
    refine XS.aloadN X0.here hx rfl (hb hby d3_1) rfl rfl ?_
    exact uK
  obtain ⟨T1, X1, e1, st1⟩ := getF X0 hx hZ hown (host := "") (Or.inl (hw _ (List.mem_of_getElem? (i := 9) rfl))) Via.refl e0 (O).2.1 (g := (mkF m 2 #[.val (.ref ob), .val (.int ix), .val (.long q), .second, .unset, .unset, .unset, .unset, .unset] [(.ref ob), (.int ix)])) rfl rfl (hb hby d3_2)
  refine own_st st1 ?_
  show OwnGo p e below s _ _ _ T1 (mkF m 5 #[.val (.ref ob), .val (.int ix), .val (.long q), .second, .unset, .unset, .unset, .unset, .unset] [(.int (Int32.ofNat (k0 + 1))), (.int ix)])
  refine own_st (T' := T1) (g' := (mkF m 6 #[.val (.ref ob), .val (.int ix), .val (.long q), .second, .unset, .unset, .unset, .unset, .unset] [(.int (ix * (Int32.ofNat (k0 + 1))))])) (fun uT uK => ?_) ?_
  · show Steps p.tables e below (T1.setTop (mkF m 5 #[.val (.ref ob), .val (.int ix), .val (.long q), .second, .unset, .unset, .unset, .unset, .unset] [(.int (Int32.ofNat (k0 + 1))), (.int ix)])) _
    refine XS.imul X1.here hx rfl (hb hby d3_5) rfl ?_
    exact uK
  rw [hix]
  show OwnGo p e below s _ _ _ T1 (mkF m 6 #[.val (.ref ob), .val (.int ix), .val (.long q), .second, .unset, .unset, .unset, .unset, .unset] [(.int (Int32.ofNat bs))])
  refine own_st (T' := T1) (g' := (mkF m 9 #[.val (.ref ob), .val (.int ix), .val (.long q), .second, .val (.int (Int32.ofNat bs)), .unset, .unset, .unset, .unset] [(.ref ob)])) (fun uT uK => ?_) ?_
  · show Steps p.tables e below (T1.setTop (mkF m 6 #[.val (.ref ob), .val (.int ix), .val (.long q), .second, .unset, .unset, .unset, .unset, .unset] [(.int (Int32.ofNat bs))])) _
    refine XS.istore X1.here hx rfl (hb hby d3_6) rfl (l' := #[.val (.ref ob), .val (.int ix), .val (.long q), .second, .val (.int (Int32.ofNat bs)), .unset, .unset, .unset, .unset]) rfl ?_
    show Steps p.tables e below (T1.setTop (mkF m 8 #[.val (.ref ob), .val (.int ix), .val (.long q), .second, .val (.int (Int32.ofNat bs)), .unset, .unset, .unset, .unset] [])) _
    refine XS.aloadN X1.here hx rfl (hb hby d3_8) rfl rfl ?_
    exact uK
  obtain ⟨T2, X2, e2, st2⟩ := getF X1 hx hZ hown (host := "") (Or.inl (hw _ (List.mem_of_getElem? (i := 9) rfl))) Via.refl e1 (O).2.1 (g := (mkF m 9 #[.val (.ref ob), .val (.int ix), .val (.long q), .second, .val (.int (Int32.ofNat bs)), .unset, .unset, .unset, .unset] [(.ref ob)])) rfl rfl (hb hby d3_9)
  refine own_st st2 ?_
  show OwnGo p e below s _ _ _ T2 (mkF m 12 #[.val (.ref ob), .val (.int ix), .val (.long q), .second, .val (.int (Int32.ofNat bs)), .unset, .unset, .unset, .unset] [(.int (Int32.ofNat (k0 + 1)))])
  refine own_st (T' := T2) (g' := (mkF m 14 #[.val (.ref ob), .val (.int ix), .val (.long q), .second, .val (.int (Int32.ofNat bs)), .unset, .unset, .unset, .unset] [(.int ((Int32.ofNat (k0 + 1)) - (1 : Int32)))])) (fun uT uK => ?_) ?_
  · show Steps p.tables e below (T2.setTop (mkF m 12 #[.val (.ref ob), .val (.int ix), .val (.long q), .second, .val (.int (Int32.ofNat bs)), .unset, .unset, .unset, .unset] [(.int (Int32.ofNat (k0 + 1)))])) _
    refine XS.iconst X2.here hx rfl (hb hby d3_12) ?_
    show Steps p.tables e below (T2.setTop (mkF m 13 #[.val (.ref ob), .val (.int ix), .val (.long q), .second, .val (.int (Int32.ofNat bs)), .unset, .unset, .unset, .unset] [(.int (1 : Int32)), (.int (Int32.ofNat (k0 + 1)))])) _
    refine XS.isub X2.here hx rfl (hb hby d3_13) rfl ?_
    exact uK
  rw [own_pred k0]
  show OwnGo p e below s _ _ _ T2 (mkF m 14 #[.val (.ref ob), .val (.int ix), .val (.long q), .second, .val (.int (Int32.ofNat bs)), .unset, .unset, .unset, .unset] [(.int (Int32.ofNat k0))])
  refine own_st (T' := T2) (g' := (mkF m 22 #[.val (.ref ob), .val (.int ix), .val (.long q), .second, .val (.int (Int32.ofNat bs)), .val (.int (Int32.ofNat k0)), .val (.long q), .second, .val (.int (0 : Int32))] [])) (fun uT uK => ?_) ?_
  · show Steps p.tables e below (T2.setTop (mkF m 14 #[.val (.ref ob), .val (.int ix), .val (.long q), .second, .val (.int (Int32.ofNat bs)), .unset, .unset, .unset, .unset] [(.int (Int32.ofNat k0))])) _
    refine XS.istore X2.here hx rfl (hb hby d3_14) rfl (l' := #[.val (.ref ob), .val (.int ix), .val (.long q), .second, .val (.int (Int32.ofNat bs)), .val (.int (Int32.ofNat k0)), .unset, .unset, .unset]) rfl ?_
    show Steps p.tables e below (T2.setTop (mkF m 16 #[.val (.ref ob), .val (.int ix), .val (.long q), .second, .val (.int (Int32.ofNat bs)), .val (.int (Int32.ofNat k0)), .unset, .unset, .unset] [])) _
    refine XT.lloadN X2.here hx rfl (hb hby d3_16) rfl ?_
    show Steps p.tables e below (T2.setTop (mkF m 17 #[.val (.ref ob), .val (.int ix), .val (.long q), .second, .val (.int (Int32.ofNat bs)), .val (.int (Int32.ofNat k0)), .unset, .unset, .unset] [(.long q)])) _
    refine XT.lstore X2.here hx rfl (hb hby d3_17) rfl (l' := #[.val (.ref ob), .val (.int ix), .val (.long q), .second, .val (.int (Int32.ofNat bs)), .val (.int (Int32.ofNat k0)), .val (.long q), .second, .unset]) rfl ?_
    show Steps p.tables e below (T2.setTop (mkF m 19 #[.val (.ref ob), .val (.int ix), .val (.long q), .second, .val (.int (Int32.ofNat bs)), .val (.int (Int32.ofNat k0)), .val (.long q), .second, .unset] [])) _
    refine XS.iconst X2.here hx rfl (hb hby d3_19) ?_
    show Steps p.tables e below (T2.setTop (mkF m 20 #[.val (.ref ob), .val (.int ix), .val (.long q), .second, .val (.int (Int32.ofNat bs)), .val (.int (Int32.ofNat k0)), .val (.long q), .second, .unset] [(.int (0 : Int32))])) _
    refine XS.istore X2.here hx rfl (hb hby d3_20) rfl (l' := #[.val (.ref ob), .val (.int ix), .val (.long q), .second, .val (.int (Int32.ofNat bs)), .val (.int (Int32.ofNat k0)), .val (.long q), .second, .val (.int (0 : Int32))]) rfl ?_
    exact uK
  exact own_loop3 ob wb kc k0 P Sf F ix bs q hk0 hP g_w K k0 0 [] Xs q T2 h0 [] (by omega) rfl hX X2 e2 N0 (Keep.refl _ _) O hF
def Q4 (Z : State) (ob : Addr) (wb : Addr) (kc : ClassId) (k0 : Nat) (P : List Int64) (Sf : List Int64) (F : List Int64) (ix : Int32) (bs : Nat) (L : List Int64) (x : Int64) (h0 : Heap) (n0 : Nat) (v : Option Value) (h : Heap) (L : List Loc) : Prop := v = none ∧ Fr n0 L ∧ Keep h0 h [wb] ∧ own_w Z h ob wb kc k0 (P ++ F ++ Sf)
set_option maxRecDepth 65536 in
set_option maxHeartbeats 40000000 in
theorem own_loop4 {p : Program} {l : Launch} {e : Env} {s : State} {m : MethodId} {args : Array Value} {below : List Frame} {meth : Method} {c : Code} {Z : State} {a0 : Array Value} {h0 : Heap} {n0 : Nat} (ob wb : Addr) (kc : ClassId) (k0 : Nat) (P Sf F : List Int64) (ix : Int32) (bs : Nat) (L0 : List Int64) (x : Int64) (hP : P.length = bs) (g_w : n0 ≤ wb)
    (K : Ctx4 p s m meth c Z a0) :
    ∀ (L D : List Int64) (cy : Int64) (s6 s7 : Slot) (T : State) (h : Heap) (locs : List Loc), L.length ≤ 3 → own_two s6 s7 → Stand p l e ({ frames := 0, cells := 0, slots := 0, locals := 0 } : Room) s m args below meth c T locs 0 0 → T.heap = h → Fr n0 locs → Keep h0 h [wb] → own_w Z h ob wb kc k0 (P ++ (L.reverse ++ D) ++ Sf) → (own_hv L cy).reverse ++ D = F →
      OwnGo p e below s ({ frames := 0, cells := 0, slots := 0, locals := 0 } : Room).cells ({ frames := 0, cells := 0, slots := 0, locals := 0 } : Room).slots (Q4 Z ob wb kc k0 P Sf F ix bs L0 x h0 n0) T (mkF m 38 #[.val (.ref ob), .val (.int ix), .val (.int (Int32.ofNat bs)), .val (.int (Int32.ofNat L.length)), .val (.long cy), .second, s6, s7] []) := by
  obtain ⟨hx, hZ, hw, hby, hml, hown, hret, hlk, hnm⟩ := id K
  intro L
  induction L with
  | nil =>
    intro D cy s6 s7 T h locs hL h67 X eT N Kp O hF
    rw [List.reverse_nil, List.nil_append] at O
    have hF : D = F := hF
    show OwnGo p e below s _ _ _ T (mkF m 38 #[.val (.ref ob), .val (.int ix), .val (.int (Int32.ofNat bs)), .val (.int (Int32.ofNat ([] : List Int64).length)), .val (.long cy), .second, s6, s7] [])
    refine own_st (T' := T) (g' := (mkF m 82 #[.val (.ref ob), .val (.int ix), .val (.int (Int32.ofNat bs)), .val (.int (Int32.ofNat ([] : List Int64).length)), .val (.long cy), .second, s6, s7] [])) (fun uT uK => ?_) ?_
    · show Steps p.tables e below (T.setTop (mkF m 38 #[.val (.ref ob), .val (.int ix), .val (.int (Int32.ofNat bs)), .val (.int (Int32.ofNat ([] : List Int64).length)), .val (.long cy), .second, s6, s7] [])) _
      refine XS.iloadN X.here hx rfl (hb hby d4_38) rfl ?_
      show Steps p.tables e below (T.setTop (mkF m 39 #[.val (.ref ob), .val (.int ix), .val (.int (Int32.ofNat bs)), .val (.int (Int32.ofNat ([] : List Int64).length)), .val (.long cy), .second, s6, s7] [(.int (Int32.ofNat ([] : List Int64).length))])) _
      refine XS.ifYes X.here hx rfl (pc0 := 39) (pc' := 82) rfl (hb hby d4_39) rfl (XT.i0_le_t (by decide)) (by decide) (by decide) ?_
      exact uK
    exact own_ret (v := none) X hlk (fun _ => rfl) (fun fs hr => X.returnOut hx hret (hb hby d4_82) hr) (by rw [eT]; exact ⟨rfl, N, Kp, (by have q := O; rw [hF] at q; exact q)⟩) (by decide) (by decide)
  | cons y L ih =>
    intro D cy s6 s7 T h locs hL h67 X eT N Kp O hF
    rw [own_rev] at O
    have hL3 : L.length ≤ 3 := by simp at hL; omega
    show OwnGo p e below s _ _ _ T (mkF m 38 #[.val (.ref ob), .val (.int ix), .val (.int (Int32.ofNat bs)), .val (.int (Int32.ofNat (y :: L).length)), .val (.long cy), .second, s6, s7] [])
    refine own_st (T' := T) (g' := (mkF m 45 #[.val (.ref ob), .val (.int ix), .val (.int (Int32.ofNat bs)), .val (.int ((Int32.ofNat (y :: L).length) + (-1 : Int32))), .val (.long cy), .second, s6, s7] [])) (fun uT uK => ?_) ?_
    · show Steps p.tables e below (T.setTop (mkF m 38 #[.val (.ref ob), .val (.int ix), .val (.int (Int32.ofNat bs)), .val (.int (Int32.ofNat (y :: L).length)), .val (.long cy), .second, s6, s7] [])) _
      refine XS.iloadN X.here hx rfl (hb hby d4_38) rfl ?_
      show Steps p.tables e below (T.setTop (mkF m 39 #[.val (.ref ob), .val (.int ix), .val (.int (Int32.ofNat bs)), .val (.int (Int32.ofNat (y :: L).length)), .val (.long cy), .second, s6, s7] [(.int (Int32.ofNat (y :: L).length))])) _
      refine XS.ifNo X.here hx rfl (hb hby d4_39) rfl (XT.i0_le_f (own_pos (by omega))) ?_
      show Steps p.tables e below (T.setTop (mkF m 42 #[.val (.ref ob), .val (.int ix), .val (.int (Int32.ofNat bs)), .val (.int (Int32.ofNat (y :: L).length)), .val (.long cy), .second, s6, s7] [])) _
      refine XS.iinc X.here hx rfl (hb hby d4_42) rfl (l' := #[.val (.ref ob), .val (.int ix), .val (.int (Int32.ofNat bs)), .val (.int ((Int32.ofNat (y :: L).length) + (-1 : Int32))), .val (.long cy), .second, s6, s7]) rfl ?_
      exact uK
    rw [show Int32.ofNat (y :: L).length + (-1 : Int32) = Int32.ofNat L.length from own_dec L.length]
    show OwnGo p e below s _ _ _ T (mkF m 45 #[.val (.ref ob), .val (.int ix), .val (.int (Int32.ofNat bs)), .val (.int (Int32.ofNat L.length)), .val (.long cy), .second, s6, s7] [])
    refine own_st (T' := T) (g' := (mkF m 46 #[.val (.ref ob), .val (.int ix), .val (.int (Int32.ofNat bs)), .val (.int (Int32.ofNat L.length)), .val (.long cy), .second, s6, s7] [(.ref ob)])) (fun uT uK => ?_) ?_
    · show Steps p.tables e below (T.setTop (mkF m 45 #[.val (.ref ob), .val (.int ix), .val (.int (Int32.ofNat bs)), .val (.int (Int32.ofNat L.length)), .val (.long cy), .second, s6, s7] [])) _
      refine XS.aloadN X.here hx rfl (hb hby d4_45) rfl rfl ?_
      exact uK
    obtain ⟨T1, X1, e1, st1⟩ := getF X hx hZ hown (host := "") (Or.inl (hw _ (List.mem_of_getElem? (i := 12) rfl))) Via.refl eT (O).2.2.1 (g := (mkF m 46 #[.val (.ref ob), .val (.int ix), .val (.int (Int32.ofNat bs)), .val (.int (Int32.ofNat L.length)), .val (.long cy), .second, s6, s7] [(.ref ob)])) rfl rfl (hb hby d4_46)
    refine own_st st1 ?_
    show OwnGo p e below s _ _ _ T1 (mkF m 49 #[.val (.ref ob), .val (.int ix), .val (.int (Int32.ofNat bs)), .val (.int (Int32.ofNat L.length)), .val (.long cy), .second, s6, s7] [(.ref wb)])
    refine own_st (T' := T1) (g' := (mkF m 52 #[.val (.ref ob), .val (.int ix), .val (.int (Int32.ofNat bs)), .val (.int (Int32.ofNat L.length)), .val (.long cy), .second, s6, s7] [(.int ((Int32.ofNat bs) + (Int32.ofNat L.length))), (.ref wb)])) (fun uT uK => ?_) ?_
    · show Steps p.tables e below (T1.setTop (mkF m 49 #[.val (.ref ob), .val (.int ix), .val (.int (Int32.ofNat bs)), .val (.int (Int32.ofNat L.length)), .val (.long cy), .second, s6, s7] [(.ref wb)])) _
      refine XS.iloadN X1.here hx rfl (hb hby d4_49) rfl ?_
      show Steps p.tables e below (T1.setTop (mkF m 50 #[.val (.ref ob), .val (.int ix), .val (.int (Int32.ofNat bs)), .val (.int (Int32.ofNat L.length)), .val (.long cy), .second, s6, s7] [(.int (Int32.ofNat bs)), (.ref wb)])) _
      refine XS.iloadN X1.here hx rfl (hb hby d4_50) rfl ?_
      show Steps p.tables e below (T1.setTop (mkF m 51 #[.val (.ref ob), .val (.int ix), .val (.int (Int32.ofNat bs)), .val (.int (Int32.ofNat L.length)), .val (.long cy), .second, s6, s7] [(.int (Int32.ofNat L.length)), (.int (Int32.ofNat bs)), (.ref wb)])) _
      refine XS.iadd X1.here hx rfl (hb hby d4_51) rfl ?_
      exact uK
    rw [own_addN bs L.length]
    show OwnGo p e below s _ _ _ T1 (mkF m 52 #[.val (.ref ob), .val (.int ix), .val (.int (Int32.ofNat bs)), .val (.int (Int32.ofNat L.length)), .val (.long cy), .second, s6, s7] [(.int (Int32.ofNat (bs + L.length))), (.ref wb)])
    refine own_st (T' := T1) (g' := (mkF m 56 #[.val (.ref ob), .val (.int ix), .val (.int (Int32.ofNat bs)), .val (.int (Int32.ofNat L.length)), .val (.long cy), .second, .val (.long y), .second] [(.ref ob)])) (fun uT uK => ?_) ?_
    · show Steps p.tables e below (T1.setTop (mkF m 52 #[.val (.ref ob), .val (.int ix), .val (.int (Int32.ofNat bs)), .val (.int (Int32.ofNat L.length)), .val (.long cy), .second, s6, s7] [(.int (Int32.ofNat (bs + L.length))), (.ref wb)])) _
      refine own_ldJ X1 hx hZ e1 (O) (j := bs + L.length) (by rw [← hP, ← List.length_reverse (as := L)]; exact own_leng P L.reverse D Sf _) (y := y) (by rw [← hP, ← List.length_reverse (as := L)]; exact own_getg P L.reverse D Sf y) (g := (mkF m 52 #[.val (.ref ob), .val (.int ix), .val (.int (Int32.ofNat bs)), .val (.int (Int32.ofNat L.length)), .val (.long cy), .second, s6, s7] [(.int (Int32.ofNat (bs + L.length))), (.ref wb)])) rfl rfl (hb hby d4_52) _ ?_
      show Steps p.tables e below (T1.setTop (mkF m 53 #[.val (.ref ob), .val (.int ix), .val (.int (Int32.ofNat bs)), .val (.int (Int32.ofNat L.length)), .val (.long cy), .second, s6, s7] [(.long y)])) _
      refine XT.lstore X1.here hx rfl (hb hby d4_53) rfl (l' := #[.val (.ref ob), .val (.int ix), .val (.int (Int32.ofNat bs)), .val (.int (Int32.ofNat L.length)), .val (.long cy), .second, .val (.long y), .second]) (own_sto4 h67) ?_
      show Steps p.tables e below (T1.setTop (mkF m 55 #[.val (.ref ob), .val (.int ix), .val (.int (Int32.ofNat bs)), .val (.int (Int32.ofNat L.length)), .val (.long cy), .second, .val (.long y), .second] [])) _
      refine XS.aloadN X1.here hx rfl (hb hby d4_55) rfl rfl ?_
      exact uK
    obtain ⟨T2, X2, e2, st2⟩ := getF X1 hx hZ hown (host := "") (Or.inl (hw _ (List.mem_of_getElem? (i := 12) rfl))) Via.refl e1 (O).2.2.1 (g := (mkF m 56 #[.val (.ref ob), .val (.int ix), .val (.int (Int32.ofNat bs)), .val (.int (Int32.ofNat L.length)), .val (.long cy), .second, .val (.long y), .second] [(.ref ob)])) rfl rfl (hb hby d4_56)
    refine own_st st2 ?_
    show OwnGo p e below s _ _ _ T2 (mkF m 59 #[.val (.ref ob), .val (.int ix), .val (.int (Int32.ofNat bs)), .val (.int (Int32.ofNat L.length)), .val (.long cy), .second, .val (.long y), .second] [(.ref wb)])
    refine own_st (T' := T2) (g' := (mkF m 62 #[.val (.ref ob), .val (.int ix), .val (.int (Int32.ofNat bs)), .val (.int (Int32.ofNat L.length)), .val (.long cy), .second, .val (.long y), .second] [(.int ((Int32.ofNat bs) + (Int32.ofNat L.length))), (.ref wb)])) (fun uT uK => ?_) ?_
    · show Steps p.tables e below (T2.setTop (mkF m 59 #[.val (.ref ob), .val (.int ix), .val (.int (Int32.ofNat bs)), .val (.int (Int32.ofNat L.length)), .val (.long cy), .second, .val (.long y), .second] [(.ref wb)])) _
      refine XS.iloadN X2.here hx rfl (hb hby d4_59) rfl ?_
      show Steps p.tables e below (T2.setTop (mkF m 60 #[.val (.ref ob), .val (.int ix), .val (.int (Int32.ofNat bs)), .val (.int (Int32.ofNat L.length)), .val (.long cy), .second, .val (.long y), .second] [(.int (Int32.ofNat bs)), (.ref wb)])) _
      refine XS.iloadN X2.here hx rfl (hb hby d4_60) rfl ?_
      show Steps p.tables e below (T2.setTop (mkF m 61 #[.val (.ref ob), .val (.int ix), .val (.int (Int32.ofNat bs)), .val (.int (Int32.ofNat L.length)), .val (.long cy), .second, .val (.long y), .second] [(.int (Int32.ofNat L.length)), (.int (Int32.ofNat bs)), (.ref wb)])) _
      refine XS.iadd X2.here hx rfl (hb hby d4_61) rfl ?_
      exact uK
    rw [own_addN bs L.length]
    show OwnGo p e below s _ _ _ T2 (mkF m 62 #[.val (.ref ob), .val (.int ix), .val (.int (Int32.ofNat bs)), .val (.int (Int32.ofNat L.length)), .val (.long cy), .second, .val (.long y), .second] [(.int (Int32.ofNat (bs + L.length))), (.ref wb)])
    refine own_st (T' := T2) (g' := (mkF m 72 #[.val (.ref ob), .val (.int ix), .val (.int (Int32.ofNat bs)), .val (.int (Int32.ofNat L.length)), .val (.long cy), .second, .val (.long y), .second] [(.long ((cy <<< ((61 : Int32).toInt64 &&& 63)) ||| (y >>> ((1 : Int32).toInt64 &&& 63)))), (.int (Int32.ofNat (bs + L.length))), (.ref wb)])) (fun uT uK => ?_) ?_
    · show Steps p.tables e below (T2.setTop (mkF m 62 #[.val (.ref ob), .val (.int ix), .val (.int (Int32.ofNat bs)), .val (.int (Int32.ofNat L.length)), .val (.long cy), .second, .val (.long y), .second] [(.int (Int32.ofNat (bs + L.length))), (.ref wb)])) _
      refine XT.lload X2.here hx rfl (hb hby d4_62) rfl ?_
      show Steps p.tables e below (T2.setTop (mkF m 64 #[.val (.ref ob), .val (.int ix), .val (.int (Int32.ofNat bs)), .val (.int (Int32.ofNat L.length)), .val (.long cy), .second, .val (.long y), .second] [(.long cy), (.int (Int32.ofNat (bs + L.length))), (.ref wb)])) _
      refine XS.bipush X2.here hx rfl (hb hby d4_64) ?_
      show Steps p.tables e below (T2.setTop (mkF m 66 #[.val (.ref ob), .val (.int ix), .val (.int (Int32.ofNat bs)), .val (.int (Int32.ofNat L.length)), .val (.long cy), .second, .val (.long y), .second] [(.int (61 : Int32)), (.long cy), (.int (Int32.ofNat (bs + L.length))), (.ref wb)])) _
      refine XT.lshl X2.here hx rfl (hb hby d4_66) rfl ?_
      show Steps p.tables e below (T2.setTop (mkF m 67 #[.val (.ref ob), .val (.int ix), .val (.int (Int32.ofNat bs)), .val (.int (Int32.ofNat L.length)), .val (.long cy), .second, .val (.long y), .second] [(.long (cy <<< ((61 : Int32).toInt64 &&& 63))), (.int (Int32.ofNat (bs + L.length))), (.ref wb)])) _
      refine XT.lload X2.here hx rfl (hb hby d4_67) rfl ?_
      show Steps p.tables e below (T2.setTop (mkF m 69 #[.val (.ref ob), .val (.int ix), .val (.int (Int32.ofNat bs)), .val (.int (Int32.ofNat L.length)), .val (.long cy), .second, .val (.long y), .second] [(.long y), (.long (cy <<< ((61 : Int32).toInt64 &&& 63))), (.int (Int32.ofNat (bs + L.length))), (.ref wb)])) _
      refine XS.iconst X2.here hx rfl (hb hby d4_69) ?_
      show Steps p.tables e below (T2.setTop (mkF m 70 #[.val (.ref ob), .val (.int ix), .val (.int (Int32.ofNat bs)), .val (.int (Int32.ofNat L.length)), .val (.long cy), .second, .val (.long y), .second] [(.int (1 : Int32)), (.long y), (.long (cy <<< ((61 : Int32).toInt64 &&& 63))), (.int (Int32.ofNat (bs + L.length))), (.ref wb)])) _
      refine XT.lshr X2.here hx rfl (hb hby d4_70) rfl ?_
      show Steps p.tables e below (T2.setTop (mkF m 71 #[.val (.ref ob), .val (.int ix), .val (.int (Int32.ofNat bs)), .val (.int (Int32.ofNat L.length)), .val (.long cy), .second, .val (.long y), .second] [(.long (y >>> ((1 : Int32).toInt64 &&& 63))), (.long (cy <<< ((61 : Int32).toInt64 &&& 63))), (.int (Int32.ofNat (bs + L.length))), (.ref wb)])) _
      refine XT.lor X2.here hx rfl (hb hby d4_71) rfl ?_
      exact uK
    obtain ⟨T3, h3, locs3, X3, e3, O3, N3, Kw3, st3⟩ := own_stJ X2 hx hZ e2 (O) (j := bs + L.length) (by rw [← hP, ← List.length_reverse (as := L)]; exact own_leng P L.reverse D Sf _) (us := P ++ (L.reverse ++ ((cy <<< ((61 : Int32).toInt64 &&& 63)) ||| (y >>> ((1 : Int32).toInt64 &&& 63))) :: D) ++ Sf) (by rw [← hP, ← List.length_reverse (as := L)]; exact own_setg P L.reverse D Sf y _) N g_w (g := (mkF m 72 #[.val (.ref ob), .val (.int ix), .val (.int (Int32.ofNat bs)), .val (.int (Int32.ofNat L.length)), .val (.long cy), .second, .val (.long y), .second] [(.long ((cy <<< ((61 : Int32).toInt64 &&& 63)) ||| (y >>> ((1 : Int32).toInt64 &&& 63)))), (.int (Int32.ofNat (bs + L.length))), (.ref wb)])) rfl rfl (hb hby d4_72)
    have Ka3 : Keep h0 h3 [wb] := (Kp).trans Kw3 (allS (Or.inl (List.mem_of_getElem? (i := 0) rfl)) all0)
    refine own_st st3 ?_
    show OwnGo p e below s _ _ _ T3 (mkF m 73 #[.val (.ref ob), .val (.int ix), .val (.int (Int32.ofNat bs)), .val (.int (Int32.ofNat L.length)), .val (.long cy), .second, .val (.long y), .second] [])
    refine own_st (T' := T3) (g' := (mkF m 38 #[.val (.ref ob), .val (.int ix), .val (.int (Int32.ofNat bs)), .val (.int (Int32.ofNat L.length)), .val (.long (y &&& (1 : Int64))), .second, .val (.long y), .second] [])) (fun uT uK => ?_) ?_
    · show Steps p.tables e below (T3.setTop (mkF m 73 #[.val (.ref ob), .val (.int ix), .val (.int (Int32.ofNat bs)), .val (.int (Int32.ofNat L.length)), .val (.long cy), .second, .val (.long y), .second] [])) _
      refine XT.lload X3.here hx rfl (hb hby d4_73) rfl ?_
      show Steps p.tables e below (T3.setTop (mkF m 75 #[.val (.ref ob), .val (.int ix), .val (.int (Int32.ofNat bs)), .val (.int (Int32.ofNat L.length)), .val (.long cy), .second, .val (.long y), .second] [(.long y)])) _
      refine XT.lconst X3.here hx rfl (hb hby d4_75) ?_
      show Steps p.tables e below (T3.setTop (mkF m 76 #[.val (.ref ob), .val (.int ix), .val (.int (Int32.ofNat bs)), .val (.int (Int32.ofNat L.length)), .val (.long cy), .second, .val (.long y), .second] [(.long (1 : Int64)), (.long y)])) _
      refine XT.land X3.here hx rfl (hb hby d4_76) rfl ?_
      show Steps p.tables e below (T3.setTop (mkF m 77 #[.val (.ref ob), .val (.int ix), .val (.int (Int32.ofNat bs)), .val (.int (Int32.ofNat L.length)), .val (.long cy), .second, .val (.long y), .second] [(.long (y &&& (1 : Int64)))])) _
      refine XT.lstore X3.here hx rfl (hb hby d4_77) rfl (l' := #[.val (.ref ob), .val (.int ix), .val (.int (Int32.ofNat bs)), .val (.int (Int32.ofNat L.length)), .val (.long (y &&& (1 : Int64))), .second, .val (.long y), .second]) rfl ?_
      show Steps p.tables e below (T3.setTop (mkF m 79 #[.val (.ref ob), .val (.int ix), .val (.int (Int32.ofNat bs)), .val (.int (Int32.ofNat L.length)), .val (.long (y &&& (1 : Int64))), .second, .val (.long y), .second] [])) _
      refine XS.goto X3.here hx rfl (pc0 := 79) (pc' := 38) rfl (hb hby d4_79) (by decide) (by decide) ?_
      exact uK
    exact ih (((cy <<< ((61 : Int32).toInt64 &&& 63)) ||| (y >>> ((1 : Int32).toInt64 &&& 63))) :: D) (y &&& (1 : Int64)) _ _ T3 h3 locs3 (by simp at hL; omega) (Or.inr ⟨_, rfl, rfl⟩) X3 e3 N3 Ka3 O3 (by rw [← hF, own_hv, List.reverse_cons, List.append_assoc]; rfl)
theorem own_ef_rm4 (m : MethodId) (x0 : Addr) (x1 : Int32) : entryFrame m #[(.ref x0), (.int x1)] 8 = mkF m 0 #[.val (.ref x0), .val (.int x1), .unset, .unset, .unset, .unset, .unset, .unset] [] := by first | (simp [entryFrame, mkF, argsToLocals, Value.category]; done) | rfl
set_option maxRecDepth 65536 in
set_option maxHeartbeats 40000000 in
theorem rm4 (l : Launch) (Z : State) (a0 : Array Value) (hw : ∀ d ∈ tables_1, d.before a0 Z = true) (ws : List Jvm.Cond) (ob : Addr) (wb : Addr) (kc : ClassId) (k0 : Nat) (P : List Int64) (Sf : List Int64) (F : List Int64) (ix : Int32) (bs : Nat) (L : List Int64) (x : Int64) (h0 : Heap) (n0 : Nat) (Z0 : n0 ≤ h0.size) (hk0 : k0 ≤ 3) (hP : P.length = bs) (hL : L.length = k0) (hix : ix * Int32.ofNat (k0 + 1) = Int32.ofNat bs) (g_w : n0 ≤ wb) (O : own_w Z h0 ob wb kc k0 (P ++ (L.reverse ++ [x]) ++ Sf)) (hF : (own_hv L (x &&& (1 : Int64))).reverse ++ [(x >>> ((1 : Int32).toInt64 &&& 63))] = F) :
    MetFree l (⟨"com/example/matchwright/matchwright/service/matching/WideArray", "halve", "(I)V"⟩ : MethodName) (head1 (Jvm.Cond.code (⟨"com/example/matchwright/matchwright/service/matching/WideArray", "halve", "(I)V"⟩ : MethodName) prog_131_method_12_code 8 none :: ws) ({ frames := 0, cells := 0, slots := 0, locals := 0 } : Room)) (fun aQ UQ => aQ = #[(.ref ob), (.int ix)] ∧ Z.Warmed39 UQ.vm ∧ UQ.heap = h0) (fun _ _ _ _ _ => True) (fun _ UQ oQ UR => ∃ vQ LQ, oQ = .returned vQ ∧ Q4 Z ob wb kc k0 P Sf F ix bs L x h0 n0 vQ UR.heap LQ ∧ FrameEnd UQ oQ UR LQ ({ frames := 0, cells := 0, slots := 0, locals := 0 } : Room).cells ({ frames := 0, cells := 0, slots := 0, locals := 0 } : Room).slots) := by
  refine MetFree.of_bodySF (plainFor_of_name pn_4) hisR ?_
  intro p e s m args below meth c s₁ Bd hml0 hP hK
  obtain ⟨rfl, hZ, hh⟩ := hP
  have hx := Bd.exec
  have hby := Bd.bytes
  have hml : c.maxLocals = 8 := hml0
  have hown : s.vm.findClass "com/example/matchwright/matchwright/service/matching/WideArray" = some m.cls := findClass_of_methodNamed Bd.named
  have hnm := (name_of_methodNamed Bd.named Bd.method).1
  have hret := Bd.returns
  have hlk : meth.locks = false := Bd.notSynchronized
  have X0 : Stand p l e ({ frames := 0, cells := 0, slots := 0, locals := 0 } : Room) s m #[(.ref ob), (.int ix)] below meth c s₁ [] 0 0 := Stand.of_body Bd
  have e0 : s₁.heap = h0 := by rw [← hh, Bd.state]; rfl
  have N0 := Fr.nil n0
  have K : Ctx4 p s m meth c Z a0 := ⟨hx, hZ, hw, hby, hml, hown, hret, hlk, hnm⟩
  show OwnGo p e below s ({ frames := 0, cells := 0, slots := 0, locals := 0 } : Room).cells ({ frames := 0, cells := 0, slots := 0, locals := 0 } : Room).slots (Q4 Z ob wb kc k0 P Sf F ix bs L x h0 n0) s₁ (entryFrame m #[(.ref ob), (.int ix)] 8)
  refine own_cast (own_ef_rm4 m ob ix) ?_
  show OwnGo p e below s _ _ _ s₁ (mkF m 0 #[.val (.ref ob), .val (.int ix), .unset, .unset, .unset, .unset, .unset, .unset] [])
  refine own_st (T' := s₁) (g' := (mkF m 2 #[.val (.ref ob), .val (.int ix), .unset, .unset, .unset, .unset, .unset, .unset] [(.ref ob), (.int ix)])) (fun uT uK => ?_) ?_
  · show Steps p.tables e below (s₁.setTop (mkF m 0 #[.val (.ref ob), .val (.int ix), .unset, .unset, .unset, .unset, .unset, .unset] [])) _
    refine XS.iloadN X0.here hx rfl (hb hby d4_0) rfl ?_
    show Steps p.tables e below (s₁.setTop (mkF m 1 #[.val (.ref ob), .val (.int ix), .unset, .unset, .unset, .unset, .unset, .unset] [(.int ix)])) _
    refine XS.aloadN X0.here hx rfl (hb hby d4_1) rfl rfl ?_
    exact uK
  obtain ⟨T1, X1, e1, st1⟩ := getF X0 hx hZ hown (host := "") (Or.inl (hw _ (List.mem_of_getElem? (i := 9) rfl))) Via.refl e0 (O).2.1 (g := (mkF m 2 #[.val (.ref ob), .val (.int ix), .unset, .unset, .unset, .unset, .unset, .unset] [(.ref ob), (.int ix)])) rfl rfl (hb hby d4_2)
  refine own_st st1 ?_
  show OwnGo p e below s _ _ _ T1 (mkF m 5 #[.val (.ref ob), .val (.int ix), .unset, .unset, .unset, .unset, .unset, .unset] [(.int (Int32.ofNat (k0 + 1))), (.int ix)])
  refine own_st (T' := T1) (g' := (mkF m 6 #[.val (.ref ob), .val (.int ix), .unset, .unset, .unset, .unset, .unset, .unset] [(.int (ix * (Int32.ofNat (k0 + 1))))])) (fun uT uK => ?_) ?_
  · show Steps p.tables e below (T1.setTop (mkF m 5 #[.val (.ref ob), .val (.int ix), .unset, .unset, .unset, .unset, .unset, .unset] [(.int (Int32.ofNat (k0 + 1))), (.int ix)])) _
    refine XS.imul X1.here hx rfl (hb hby d4_5) rfl ?_
    exact uK
  rw [hix]
  show OwnGo p e below s _ _ _ T1 (mkF m 6 #[.val (.ref ob), .val (.int ix), .unset, .unset, .unset, .unset, .unset, .unset] [(.int (Int32.ofNat bs))])
  refine own_st (T' := T1) (g' := (mkF m 8 #[.val (.ref ob), .val (.int ix), .val (.int (Int32.ofNat bs)), .unset, .unset, .unset, .unset, .unset] [(.ref ob)])) (fun uT uK => ?_) ?_
  · show Steps p.tables e below (T1.setTop (mkF m 6 #[.val (.ref ob), .val (.int ix), .unset, .unset, .unset, .unset, .unset, .unset] [(.int (Int32.ofNat bs))])) _
    refine XS.istoreN X1.here hx rfl (hb hby d4_6) rfl (l' := #[.val (.ref ob), .val (.int ix), .val (.int (Int32.ofNat bs)), .unset, .unset, .unset, .unset, .unset]) rfl ?_
    show Steps p.tables e below (T1.setTop (mkF m 7 #[.val (.ref ob), .val (.int ix), .val (.int (Int32.ofNat bs)), .unset, .unset, .unset, .unset, .unset] [])) _
    refine XS.aloadN X1.here hx rfl (hb hby d4_7) rfl rfl ?_
    exact uK
  obtain ⟨T2, X2, e2, st2⟩ := getF X1 hx hZ hown (host := "") (Or.inl (hw _ (List.mem_of_getElem? (i := 9) rfl))) Via.refl e1 (O).2.1 (g := (mkF m 8 #[.val (.ref ob), .val (.int ix), .val (.int (Int32.ofNat bs)), .unset, .unset, .unset, .unset, .unset] [(.ref ob)])) rfl rfl (hb hby d4_8)
  refine own_st st2 ?_
  show OwnGo p e below s _ _ _ T2 (mkF m 11 #[.val (.ref ob), .val (.int ix), .val (.int (Int32.ofNat bs)), .unset, .unset, .unset, .unset, .unset] [(.int (Int32.ofNat (k0 + 1)))])
  refine own_st (T' := T2) (g' := (mkF m 13 #[.val (.ref ob), .val (.int ix), .val (.int (Int32.ofNat bs)), .unset, .unset, .unset, .unset, .unset] [(.int ((Int32.ofNat (k0 + 1)) - (1 : Int32)))])) (fun uT uK => ?_) ?_
  · show Steps p.tables e below (T2.setTop (mkF m 11 #[.val (.ref ob), .val (.int ix), .val (.int (Int32.ofNat bs)), .unset, .unset, .unset, .unset, .unset] [(.int (Int32.ofNat (k0 + 1)))])) _
    refine XS.iconst X2.here hx rfl (hb hby d4_11) ?_
    show Steps p.tables e below (T2.setTop (mkF m 12 #[.val (.ref ob), .val (.int ix), .val (.int (Int32.ofNat bs)), .unset, .unset, .unset, .unset, .unset] [(.int (1 : Int32)), (.int (Int32.ofNat (k0 + 1)))])) _
    refine XS.isub X2.here hx rfl (hb hby d4_12) rfl ?_
    exact uK
  rw [own_pred k0]
  show OwnGo p e below s _ _ _ T2 (mkF m 13 #[.val (.ref ob), .val (.int ix), .val (.int (Int32.ofNat bs)), .unset, .unset, .unset, .unset, .unset] [(.int (Int32.ofNat k0))])
  refine own_st (T' := T2) (g' := (mkF m 15 #[.val (.ref ob), .val (.int ix), .val (.int (Int32.ofNat bs)), .val (.int (Int32.ofNat k0)), .unset, .unset, .unset, .unset] [(.ref ob)])) (fun uT uK => ?_) ?_
  · show Steps p.tables e below (T2.setTop (mkF m 13 #[.val (.ref ob), .val (.int ix), .val (.int (Int32.ofNat bs)), .unset, .unset, .unset, .unset, .unset] [(.int (Int32.ofNat k0))])) _
    refine XS.istoreN X2.here hx rfl (hb hby d4_13) rfl (l' := #[.val (.ref ob), .val (.int ix), .val (.int (Int32.ofNat bs)), .val (.int (Int32.ofNat k0)), .unset, .unset, .unset, .unset]) rfl ?_
    show Steps p.tables e below (T2.setTop (mkF m 14 #[.val (.ref ob), .val (.int ix), .val (.int (Int32.ofNat bs)), .val (.int (Int32.ofNat k0)), .unset, .unset, .unset, .unset] [])) _
    refine XS.aloadN X2.here hx rfl (hb hby d4_14) rfl rfl ?_
    exact uK
  obtain ⟨T3, X3, e3, st3⟩ := getF X2 hx hZ hown (host := "") (Or.inl (hw _ (List.mem_of_getElem? (i := 12) rfl))) Via.refl e2 (O).2.2.1 (g := (mkF m 15 #[.val (.ref ob), .val (.int ix), .val (.int (Int32.ofNat bs)), .val (.int (Int32.ofNat k0)), .unset, .unset, .unset, .unset] [(.ref ob)])) rfl rfl (hb hby d4_15)
  refine own_st st3 ?_
  show OwnGo p e below s _ _ _ T3 (mkF m 18 #[.val (.ref ob), .val (.int ix), .val (.int (Int32.ofNat bs)), .val (.int (Int32.ofNat k0)), .unset, .unset, .unset, .unset] [(.ref wb)])
  refine own_st (T' := T3) (g' := (mkF m 21 #[.val (.ref ob), .val (.int ix), .val (.int (Int32.ofNat bs)), .val (.int (Int32.ofNat k0)), .unset, .unset, .unset, .unset] [(.int ((Int32.ofNat bs) + (Int32.ofNat k0))), (.ref wb)])) (fun uT uK => ?_) ?_
  · show Steps p.tables e below (T3.setTop (mkF m 18 #[.val (.ref ob), .val (.int ix), .val (.int (Int32.ofNat bs)), .val (.int (Int32.ofNat k0)), .unset, .unset, .unset, .unset] [(.ref wb)])) _
    refine XS.iloadN X3.here hx rfl (hb hby d4_18) rfl ?_
    show Steps p.tables e below (T3.setTop (mkF m 19 #[.val (.ref ob), .val (.int ix), .val (.int (Int32.ofNat bs)), .val (.int (Int32.ofNat k0)), .unset, .unset, .unset, .unset] [(.int (Int32.ofNat bs)), (.ref wb)])) _
    refine XS.iloadN X3.here hx rfl (hb hby d4_19) rfl ?_
    show Steps p.tables e below (T3.setTop (mkF m 20 #[.val (.ref ob), .val (.int ix), .val (.int (Int32.ofNat bs)), .val (.int (Int32.ofNat k0)), .unset, .unset, .unset, .unset] [(.int (Int32.ofNat k0)), (.int (Int32.ofNat bs)), (.ref wb)])) _
    refine XS.iadd X3.here hx rfl (hb hby d4_20) rfl ?_
    exact uK
  rw [own_addN bs k0]
  show OwnGo p e below s _ _ _ T3 (mkF m 21 #[.val (.ref ob), .val (.int ix), .val (.int (Int32.ofNat bs)), .val (.int (Int32.ofNat k0)), .unset, .unset, .unset, .unset] [(.int (Int32.ofNat (bs + k0))), (.ref wb)])
  refine own_st (T' := T3) (g' := (mkF m 27 #[.val (.ref ob), .val (.int ix), .val (.int (Int32.ofNat bs)), .val (.int (Int32.ofNat k0)), .val (.long (x &&& (1 : Int64))), .second, .unset, .unset] [(.ref ob)])) (fun uT uK => ?_) ?_
  · show Steps p.tables e below (T3.setTop (mkF m 21 #[.val (.ref ob), .val (.int ix), .val (.int (Int32.ofNat bs)), .val (.int (Int32.ofNat k0)), .unset, .unset, .unset, .unset] [(.int (Int32.ofNat (bs + k0))), (.ref wb)])) _
    refine own_ldJ X3 hx hZ e3 (O) (j := bs + k0) (by rw [← hP, ← hL, ← List.length_reverse (as := L)]; exact own_leng P L.reverse [] Sf x) (y := x) (by rw [← hP, ← hL, ← List.length_reverse (as := L)]; exact own_getg P L.reverse [] Sf x) (g := (mkF m 21 #[.val (.ref ob), .val (.int ix), .val (.int (Int32.ofNat bs)), .val (.int (Int32.ofNat k0)), .unset, .unset, .unset, .unset] [(.int (Int32.ofNat (bs + k0))), (.ref wb)])) rfl rfl (hb hby d4_21) _ ?_
    show Steps p.tables e below (T3.setTop (mkF m 22 #[.val (.ref ob), .val (.int ix), .val (.int (Int32.ofNat bs)), .val (.int (Int32.ofNat k0)), .unset, .unset, .unset, .unset] [(.long x)])) _
    refine XT.lconst X3.here hx rfl (hb hby d4_22) ?_
    show Steps p.tables e below (T3.setTop (mkF m 23 #[.val (.ref ob), .val (.int ix), .val (.int (Int32.ofNat bs)), .val (.int (Int32.ofNat k0)), .unset, .unset, .unset, .unset] [(.long (1 : Int64)), (.long x)])) _
    refine XT.land X3.here hx rfl (hb hby d4_23) rfl ?_
    show Steps p.tables e below (T3.setTop (mkF m 24 #[.val (.ref ob), .val (.int ix), .val (.int (Int32.ofNat bs)), .val (.int (Int32.ofNat k0)), .unset, .unset, .unset, .unset] [(.long (x &&& (1 : Int64)))])) _
    refine XT.lstore X3.here hx rfl (hb hby d4_24) rfl (l' := #[.val (.ref ob), .val (.int ix), .val (.int (Int32.ofNat bs)), .val (.int (Int32.ofNat k0)), .val (.long (x &&& (1 : Int64))), .second, .unset, .unset]) rfl ?_
    show Steps p.tables e below (T3.setTop (mkF m 26 #[.val (.ref ob), .val (.int ix), .val (.int (Int32.ofNat bs)), .val (.int (Int32.ofNat k0)), .val (.long (x &&& (1 : Int64))), .second, .unset, .unset] [])) _
    refine XS.aloadN X3.here hx rfl (hb hby d4_26) rfl rfl ?_
    exact uK
  obtain ⟨T4, X4, e4, st4⟩ := getF X3 hx hZ hown (host := "") (Or.inl (hw _ (List.mem_of_getElem? (i := 12) rfl))) Via.refl e3 (O).2.2.1 (g := (mkF m 27 #[.val (.ref ob), .val (.int ix), .val (.int (Int32.ofNat bs)), .val (.int (Int32.ofNat k0)), .val (.long (x &&& (1 : Int64))), .second, .unset, .unset] [(.ref ob)])) rfl rfl (hb hby d4_27)
  refine own_st st4 ?_
  show OwnGo p e below s _ _ _ T4 (mkF m 30 #[.val (.ref ob), .val (.int ix), .val (.int (Int32.ofNat bs)), .val (.int (Int32.ofNat k0)), .val (.long (x &&& (1 : Int64))), .second, .unset, .unset] [(.ref wb)])
  refine own_st (T' := T4) (g' := (mkF m 33 #[.val (.ref ob), .val (.int ix), .val (.int (Int32.ofNat bs)), .val (.int (Int32.ofNat k0)), .val (.long (x &&& (1 : Int64))), .second, .unset, .unset] [(.int ((Int32.ofNat bs) + (Int32.ofNat k0))), (.ref wb)])) (fun uT uK => ?_) ?_
  · show Steps p.tables e below (T4.setTop (mkF m 30 #[.val (.ref ob), .val (.int ix), .val (.int (Int32.ofNat bs)), .val (.int (Int32.ofNat k0)), .val (.long (x &&& (1 : Int64))), .second, .unset, .unset] [(.ref wb)])) _
    refine XS.iloadN X4.here hx rfl (hb hby d4_30) rfl ?_
    show Steps p.tables e below (T4.setTop (mkF m 31 #[.val (.ref ob), .val (.int ix), .val (.int (Int32.ofNat bs)), .val (.int (Int32.ofNat k0)), .val (.long (x &&& (1 : Int64))), .second, .unset, .unset] [(.int (Int32.ofNat bs)), (.ref wb)])) _
    refine XS.iloadN X4.here hx rfl (hb hby d4_31) rfl ?_
    show Steps p.tables e below (T4.setTop (mkF m 32 #[.val (.ref ob), .val (.int ix), .val (.int (Int32.ofNat bs)), .val (.int (Int32.ofNat k0)), .val (.long (x &&& (1 : Int64))), .second, .unset, .unset] [(.int (Int32.ofNat k0)), (.int (Int32.ofNat bs)), (.ref wb)])) _
    refine XS.iadd X4.here hx rfl (hb hby d4_32) rfl ?_
    exact uK
  rw [own_addN bs k0]
  show OwnGo p e below s _ _ _ T4 (mkF m 33 #[.val (.ref ob), .val (.int ix), .val (.int (Int32.ofNat bs)), .val (.int (Int32.ofNat k0)), .val (.long (x &&& (1 : Int64))), .second, .unset, .unset] [(.int (Int32.ofNat (bs + k0))), (.ref wb)])
  refine own_st (T' := T4) (g' := (mkF m 37 #[.val (.ref ob), .val (.int ix), .val (.int (Int32.ofNat bs)), .val (.int (Int32.ofNat k0)), .val (.long (x &&& (1 : Int64))), .second, .unset, .unset] [(.long (x >>> ((1 : Int32).toInt64 &&& 63))), (.int (Int32.ofNat (bs + k0))), (.ref wb)])) (fun uT uK => ?_) ?_
  · show Steps p.tables e below (T4.setTop (mkF m 33 #[.val (.ref ob), .val (.int ix), .val (.int (Int32.ofNat bs)), .val (.int (Int32.ofNat k0)), .val (.long (x &&& (1 : Int64))), .second, .unset, .unset] [(.int (Int32.ofNat (bs + k0))), (.ref wb)])) _
    refine XT.dup2 X4.here hx rfl (hb hby d4_33) rfl rfl rfl ?_
    show Steps p.tables e below (T4.setTop (mkF m 34 #[.val (.ref ob), .val (.int ix), .val (.int (Int32.ofNat bs)), .val (.int (Int32.ofNat k0)), .val (.long (x &&& (1 : Int64))), .second, .unset, .unset] [(.int (Int32.ofNat (bs + k0))), (.ref wb), (.int (Int32.ofNat (bs + k0))), (.ref wb)])) _
    refine own_ldJ X4 hx hZ e4 (O) (j := bs + k0) (by rw [← hP, ← hL, ← List.length_reverse (as := L)]; exact own_leng P L.reverse [] Sf x) (y := x) (by rw [← hP, ← hL, ← List.length_reverse (as := L)]; exact own_getg P L.reverse [] Sf x) (g := (mkF m 34 #[.val (.ref ob), .val (.int ix), .val (.int (Int32.ofNat bs)), .val (.int (Int32.ofNat k0)), .val (.long (x &&& (1 : Int64))), .second, .unset, .unset] [(.int (Int32.ofNat (bs + k0))), (.ref wb), (.int (Int32.ofNat (bs + k0))), (.ref wb)])) rfl rfl (hb hby d4_34) _ ?_
    show Steps p.tables e below (T4.setTop (mkF m 35 #[.val (.ref ob), .val (.int ix), .val (.int (Int32.ofNat bs)), .val (.int (Int32.ofNat k0)), .val (.long (x &&& (1 : Int64))), .second, .unset, .unset] [(.long x), (.int (Int32.ofNat (bs + k0))), (.ref wb)])) _
    refine XS.iconst X4.here hx rfl (hb hby d4_35) ?_
    show Steps p.tables e below (T4.setTop (mkF m 36 #[.val (.ref ob), .val (.int ix), .val (.int (Int32.ofNat bs)), .val (.int (Int32.ofNat k0)), .val (.long (x &&& (1 : Int64))), .second, .unset, .unset] [(.int (1 : Int32)), (.long x), (.int (Int32.ofNat (bs + k0))), (.ref wb)])) _
    refine XT.lshr X4.here hx rfl (hb hby d4_36) rfl ?_
    exact uK
  obtain ⟨T5, h5, locs5, X5, e5, O5, N5, Kw5, st5⟩ := own_stJ X4 hx hZ e4 (O) (j := bs + k0) (by rw [← hP, ← hL, ← List.length_reverse (as := L)]; exact own_leng P L.reverse [] Sf x) (us := P ++ (L.reverse ++ [(x >>> ((1 : Int32).toInt64 &&& 63))]) ++ Sf) (by rw [← hP, ← hL, ← List.length_reverse (as := L)]; exact own_setg P L.reverse [] Sf x _) N0 g_w (g := (mkF m 37 #[.val (.ref ob), .val (.int ix), .val (.int (Int32.ofNat bs)), .val (.int (Int32.ofNat k0)), .val (.long (x &&& (1 : Int64))), .second, .unset, .unset] [(.long (x >>> ((1 : Int32).toInt64 &&& 63))), (.int (Int32.ofNat (bs + k0))), (.ref wb)])) rfl rfl (hb hby d4_37)
  have Ka5 : Keep h0 h5 [wb] := ((Keep.refl h0 [wb])).trans Kw5 (allS (Or.inl (List.mem_of_getElem? (i := 0) rfl)) all0)
  refine own_st st5 ?_
  show OwnGo p e below s _ _ _ T5 (mkF m 38 #[.val (.ref ob), .val (.int ix), .val (.int (Int32.ofNat bs)), .val (.int (Int32.ofNat k0)), .val (.long (x &&& (1 : Int64))), .second, .unset, .unset] [])
  have hk : Int32.ofNat k0 = Int32.ofNat L.length := by rw [hL]
  rw [hk]
  exact own_loop4 ob wb kc k0 P Sf F ix bs L x hP g_w K L [(x >>> ((1 : Int32).toInt64 &&& 63))] (x &&& (1 : Int64)) .unset .unset T5 h5 locs5 (by omega) (Or.inl ⟨rfl, rfl⟩) X5 e5 N5 Ka5 O5 hF
def Q5 (Z : State) (ob : Addr) (wb : Addr) (kc : ClassId) (rb : Addr) (rwb : Addr) (rk : ClassId) (k0 : Nat) (vs : List Int64) (us : List Int64) (ix : Int32) (ox : Int32) (bs : Nat) (os : Nat) (h0 : Heap) (n0 : Nat) (v : Option Value) (h : Heap) (L : List Loc) : Prop := v = some (.int 0) ∧ Fr n0 L ∧ h = h0
set_option maxRecDepth 65536 in
set_option maxHeartbeats 40000000 in
theorem own_loop5 {p : Program} {l : Launch} {e : Env} {s : State} {m : MethodId} {args : Array Value} {below : List Frame} {meth : Method} {c : Code} {Z : State} {a0 : Array Value} {n0 : Nat} {h : Heap} (ob wb : Addr) (kc : ClassId) (rb rwb : Addr) (rk : ClassId) (k0 : Nat) (vs us : List Int64) (ix ox : Int32) (bs os : Nat) (hk0 : k0 ≤ 3) (Z0 : n0 ≤ h.size) (O : own_w Z h ob wb kc k0 vs) (O' : own_w Z h rb rwb rk k0 us) (hl1 : bs + k0 < vs.length) (hl2 : os + k0 < us.length) (heq : ∀ j, j ≤ k0 → vs.getD (bs + j) 0 = us.getD (os + j) 0)
    (K : Ctx5 p s m meth c Z a0) :
    ∀ (k : Nat), k ≤ k0 → ∀ (T : State) (locs : List Loc), Stand p l e ({ frames := 1, cells := 0, slots := 0, locals := 15 } : Room) s m args below meth c T locs 0 0 → T.heap = h → Fr n0 locs →
      OwnGo p e below s ({ frames := 1, cells := 0, slots := 0, locals := 15 } : Room).cells ({ frames := 1, cells := 0, slots := 0, locals := 15 } : Room).slots (Q5 Z ob wb kc rb rwb rk k0 vs us ix ox bs os h n0) T (mkF m 73 #[.val (.ref ob), .val (.int ix), .val (.ref rb), .val (.int ox), .val (.int (Int32.ofNat bs)), .val (.int (Int32.ofNat os)), .val (.int (Int32.ofNat k)), .val (.int (0 : Int32))] []) := by
  obtain ⟨hx, hZ, hw, hby, hml, hown, hret, hlk, hnm⟩ := id K
  intro k
  induction k with
  | zero =>
    intro hk T locs X eT N
    show OwnGo p e below s _ _ _ T (mkF m 73 #[.val (.ref ob), .val (.int ix), .val (.ref rb), .val (.int ox), .val (.int (Int32.ofNat bs)), .val (.int (Int32.ofNat os)), .val (.int (Int32.ofNat 0)), .val (.int (0 : Int32))] [])
    refine own_st (T' := T) (g' := (mkF m 116 #[.val (.ref ob), .val (.int ix), .val (.ref rb), .val (.int ox), .val (.int (Int32.ofNat bs)), .val (.int (Int32.ofNat os)), .val (.int (Int32.ofNat 0)), .val (.int (0 : Int32))] [(.int (0 : Int32))])) (fun uT uK => ?_) ?_
    · show Steps p.tables e below (T.setTop (mkF m 73 #[.val (.ref ob), .val (.int ix), .val (.ref rb), .val (.int ox), .val (.int (Int32.ofNat bs)), .val (.int (Int32.ofNat os)), .val (.int (Int32.ofNat 0)), .val (.int (0 : Int32))] [])) _
      refine XS.iload X.here hx rfl (hb hby d5_73) rfl ?_
      show Steps p.tables e below (T.setTop (mkF m 75 #[.val (.ref ob), .val (.int ix), .val (.ref rb), .val (.int ox), .val (.int (Int32.ofNat bs)), .val (.int (Int32.ofNat os)), .val (.int (Int32.ofNat 0)), .val (.int (0 : Int32))] [(.int (0 : Int32))])) _
      refine XS.ifNo X.here hx rfl (hb hby d5_75) rfl (XT.i0_ne_f (by decide)) ?_
      show Steps p.tables e below (T.setTop (mkF m 78 #[.val (.ref ob), .val (.int ix), .val (.ref rb), .val (.int ox), .val (.int (Int32.ofNat bs)), .val (.int (Int32.ofNat os)), .val (.int (Int32.ofNat 0)), .val (.int (0 : Int32))] [])) _
      refine XS.iload X.here hx rfl (hb hby d5_78) rfl ?_
      show Steps p.tables e below (T.setTop (mkF m 80 #[.val (.ref ob), .val (.int ix), .val (.ref rb), .val (.int ox), .val (.int (Int32.ofNat bs)), .val (.int (Int32.ofNat os)), .val (.int (Int32.ofNat 0)), .val (.int (0 : Int32))] [(.int (Int32.ofNat 0))])) _
      refine XS.ifYes X.here hx rfl (pc0 := 80) (pc' := 114) rfl (hb hby d5_80) rfl (XT.i0_le_t (by decide)) (by decide) (by decide) ?_
      show Steps p.tables e below (T.setTop (mkF m 114 #[.val (.ref ob), .val (.int ix), .val (.ref rb), .val (.int ox), .val (.int (Int32.ofNat bs)), .val (.int (Int32.ofNat os)), .val (.int (Int32.ofNat 0)), .val (.int (0 : Int32))] [])) _
      refine XS.iload X.here hx rfl (hb hby d5_114) rfl ?_
      exact uK
    exact own_ret (v := some (.int (0 : Int32))) X hlk (fun h => by rw [hret] at h; cases h) (fun fs hr => retOut X hx hret rfl (Or.inl ⟨rfl, by simp, _, rfl⟩) (hb hby d5_116) hr) (by rw [eT]; exact ⟨rfl, N, rfl⟩) (by decide) (by decide)
  | succ k ih =>
    intro hk T locs X eT N
    show OwnGo p e below s _ _ _ T (mkF m 73 #[.val (.ref ob), .val (.int ix), .val (.ref rb), .val (.int ox), .val (.int (Int32.ofNat bs)), .val (.int (Int32.ofNat os)), .val (.int (Int32.ofNat (k + 1))), .val (.int (0 : Int32))] [])
    refine own_st (T' := T) (g' := (mkF m 86 #[.val (.ref ob), .val (.int ix), .val (.ref rb), .val (.int ox), .val (.int (Int32.ofNat bs)), .val (.int (Int32.ofNat os)), .val (.int ((Int32.ofNat (k + 1)) + (-1 : Int32))), .val (.int (0 : Int32))] [])) (fun uT uK => ?_) ?_
    · show Steps p.tables e below (T.setTop (mkF m 73 #[.val (.ref ob), .val (.int ix), .val (.ref rb), .val (.int ox), .val (.int (Int32.ofNat bs)), .val (.int (Int32.ofNat os)), .val (.int (Int32.ofNat (k + 1))), .val (.int (0 : Int32))] [])) _
      refine XS.iload X.here hx rfl (hb hby d5_73) rfl ?_
      show Steps p.tables e below (T.setTop (mkF m 75 #[.val (.ref ob), .val (.int ix), .val (.ref rb), .val (.int ox), .val (.int (Int32.ofNat bs)), .val (.int (Int32.ofNat os)), .val (.int (Int32.ofNat (k + 1))), .val (.int (0 : Int32))] [(.int (0 : Int32))])) _
      refine XS.ifNo X.here hx rfl (hb hby d5_75) rfl (XT.i0_ne_f (by decide)) ?_
      show Steps p.tables e below (T.setTop (mkF m 78 #[.val (.ref ob), .val (.int ix), .val (.ref rb), .val (.int ox), .val (.int (Int32.ofNat bs)), .val (.int (Int32.ofNat os)), .val (.int (Int32.ofNat (k + 1))), .val (.int (0 : Int32))] [])) _
      refine XS.iload X.here hx rfl (hb hby d5_78) rfl ?_
      show Steps p.tables e below (T.setTop (mkF m 80 #[.val (.ref ob), .val (.int ix), .val (.ref rb), .val (.int ox), .val (.int (Int32.ofNat bs)), .val (.int (Int32.ofNat os)), .val (.int (Int32.ofNat (k + 1))), .val (.int (0 : Int32))] [(.int (Int32.ofNat (k + 1)))])) _
      refine XS.ifNo X.here hx rfl (hb hby d5_80) rfl (XT.i0_le_f (own_pos (by omega))) ?_
      show Steps p.tables e below (T.setTop (mkF m 83 #[.val (.ref ob), .val (.int ix), .val (.ref rb), .val (.int ox), .val (.int (Int32.ofNat bs)), .val (.int (Int32.ofNat os)), .val (.int (Int32.ofNat (k + 1))), .val (.int (0 : Int32))] [])) _
      refine XS.iinc X.here hx rfl (hb hby d5_83) rfl (l' := #[.val (.ref ob), .val (.int ix), .val (.ref rb), .val (.int ox), .val (.int (Int32.ofNat bs)), .val (.int (Int32.ofNat os)), .val (.int ((Int32.ofNat (k + 1)) + (-1 : Int32))), .val (.int (0 : Int32))]) rfl ?_
      exact uK
    rw [own_dec k]
    show OwnGo p e below s _ _ _ T (mkF m 86 #[.val (.ref ob), .val (.int ix), .val (.ref rb), .val (.int ox), .val (.int (Int32.ofNat bs)), .val (.int (Int32.ofNat os)), .val (.int (Int32.ofNat k)), .val (.int (0 : Int32))] [])
    refine own_st (T' := T) (g' := (mkF m 87 #[.val (.ref ob), .val (.int ix), .val (.ref rb), .val (.int ox), .val (.int (Int32.ofNat bs)), .val (.int (Int32.ofNat os)), .val (.int (Int32.ofNat k)), .val (.int (0 : Int32))] [(.ref ob)])) (fun uT uK => ?_) ?_
    · show Steps p.tables e below (T.setTop (mkF m 86 #[.val (.ref ob), .val (.int ix), .val (.ref rb), .val (.int ox), .val (.int (Int32.ofNat bs)), .val (.int (Int32.ofNat os)), .val (.int (Int32.ofNat k)), .val (.int (0 : Int32))] [])) _
      refine XS.aloadN X.here hx rfl (hb hby d5_86) rfl rfl ?_
      exact uK
    obtain ⟨T1, X1, e1, st1⟩ := getF X hx hZ hown (host := "") (Or.inl (hw _ (List.mem_of_getElem? (i := 12) rfl))) Via.refl eT (O).2.2.1 (g := (mkF m 87 #[.val (.ref ob), .val (.int ix), .val (.ref rb), .val (.int ox), .val (.int (Int32.ofNat bs)), .val (.int (Int32.ofNat os)), .val (.int (Int32.ofNat k)), .val (.int (0 : Int32))] [(.ref ob)])) rfl rfl (hb hby d5_87)
    refine own_st st1 ?_
    show OwnGo p e below s _ _ _ T1 (mkF m 90 #[.val (.ref ob), .val (.int ix), .val (.ref rb), .val (.int ox), .val (.int (Int32.ofNat bs)), .val (.int (Int32.ofNat os)), .val (.int (Int32.ofNat k)), .val (.int (0 : Int32))] [(.ref wb)])
    refine own_st (T' := T1) (g' := (mkF m 95 #[.val (.ref ob), .val (.int ix), .val (.ref rb), .val (.int ox), .val (.int (Int32.ofNat bs)), .val (.int (Int32.ofNat os)), .val (.int (Int32.ofNat k)), .val (.int (0 : Int32))] [(.int ((Int32.ofNat bs) + (Int32.ofNat k))), (.ref wb)])) (fun uT uK => ?_) ?_
    · show Steps p.tables e below (T1.setTop (mkF m 90 #[.val (.ref ob), .val (.int ix), .val (.ref rb), .val (.int ox), .val (.int (Int32.ofNat bs)), .val (.int (Int32.ofNat os)), .val (.int (Int32.ofNat k)), .val (.int (0 : Int32))] [(.ref wb)])) _
      refine XS.iload X1.here hx rfl (hb hby d5_90) rfl ?_
      show Steps p.tables e below (T1.setTop (mkF m 92 #[.val (.ref ob), .val (.int ix), .val (.ref rb), .val (.int ox), .val (.int (Int32.ofNat bs)), .val (.int (Int32.ofNat os)), .val (.int (Int32.ofNat k)), .val (.int (0 : Int32))] [(.int (Int32.ofNat bs)), (.ref wb)])) _
      refine XS.iload X1.here hx rfl (hb hby d5_92) rfl ?_
      show Steps p.tables e below (T1.setTop (mkF m 94 #[.val (.ref ob), .val (.int ix), .val (.ref rb), .val (.int ox), .val (.int (Int32.ofNat bs)), .val (.int (Int32.ofNat os)), .val (.int (Int32.ofNat k)), .val (.int (0 : Int32))] [(.int (Int32.ofNat k)), (.int (Int32.ofNat bs)), (.ref wb)])) _
      refine XS.iadd X1.here hx rfl (hb hby d5_94) rfl ?_
      exact uK
    rw [own_addN bs k]
    show OwnGo p e below s _ _ _ T1 (mkF m 95 #[.val (.ref ob), .val (.int ix), .val (.ref rb), .val (.int ox), .val (.int (Int32.ofNat bs)), .val (.int (Int32.ofNat os)), .val (.int (Int32.ofNat k)), .val (.int (0 : Int32))] [(.int (Int32.ofNat (bs + k))), (.ref wb)])
    refine own_st (T' := T1) (g' := (mkF m 97 #[.val (.ref ob), .val (.int ix), .val (.ref rb), .val (.int ox), .val (.int (Int32.ofNat bs)), .val (.int (Int32.ofNat os)), .val (.int (Int32.ofNat k)), .val (.int (0 : Int32))] [(.ref rb), (.long (vs.getD (bs + k) 0))])) (fun uT uK => ?_) ?_
    · show Steps p.tables e below (T1.setTop (mkF m 95 #[.val (.ref ob), .val (.int ix), .val (.ref rb), .val (.int ox), .val (.int (Int32.ofNat bs)), .val (.int (Int32.ofNat os)), .val (.int (Int32.ofNat k)), .val (.int (0 : Int32))] [(.int (Int32.ofNat (bs + k))), (.ref wb)])) _
      refine own_ldJ X1 hx hZ e1 (O) (j := bs + k) (by omega) (y := (vs.getD (bs + k) 0)) rfl (g := (mkF m 95 #[.val (.ref ob), .val (.int ix), .val (.ref rb), .val (.int ox), .val (.int (Int32.ofNat bs)), .val (.int (Int32.ofNat os)), .val (.int (Int32.ofNat k)), .val (.int (0 : Int32))] [(.int (Int32.ofNat (bs + k))), (.ref wb)])) rfl rfl (hb hby d5_95) _ ?_
      show Steps p.tables e below (T1.setTop (mkF m 96 #[.val (.ref ob), .val (.int ix), .val (.ref rb), .val (.int ox), .val (.int (Int32.ofNat bs)), .val (.int (Int32.ofNat os)), .val (.int (Int32.ofNat k)), .val (.int (0 : Int32))] [(.long (vs.getD (bs + k) 0))])) _
      refine XS.aloadN X1.here hx rfl (hb hby d5_96) rfl rfl ?_
      exact uK
    obtain ⟨T2, X2, e2, st2⟩ := getF X1 hx hZ hown (host := "") (Or.inl (hw _ (List.mem_of_getElem? (i := 12) rfl))) Via.refl e1 (O').2.2.1 (g := (mkF m 97 #[.val (.ref ob), .val (.int ix), .val (.ref rb), .val (.int ox), .val (.int (Int32.ofNat bs)), .val (.int (Int32.ofNat os)), .val (.int (Int32.ofNat k)), .val (.int (0 : Int32))] [(.ref rb), (.long (vs.getD (bs + k) 0))])) rfl rfl (hb hby d5_97)
    refine own_st st2 ?_
    show OwnGo p e below s _ _ _ T2 (mkF m 100 #[.val (.ref ob), .val (.int ix), .val (.ref rb), .val (.int ox), .val (.int (Int32.ofNat bs)), .val (.int (Int32.ofNat os)), .val (.int (Int32.ofNat k)), .val (.int (0 : Int32))] [(.ref rwb), (.long (vs.getD (bs + k) 0))])
    refine own_st (T' := T2) (g' := (mkF m 105 #[.val (.ref ob), .val (.int ix), .val (.ref rb), .val (.int ox), .val (.int (Int32.ofNat bs)), .val (.int (Int32.ofNat os)), .val (.int (Int32.ofNat k)), .val (.int (0 : Int32))] [(.int ((Int32.ofNat os) + (Int32.ofNat k))), (.ref rwb), (.long (vs.getD (bs + k) 0))])) (fun uT uK => ?_) ?_
    · show Steps p.tables e below (T2.setTop (mkF m 100 #[.val (.ref ob), .val (.int ix), .val (.ref rb), .val (.int ox), .val (.int (Int32.ofNat bs)), .val (.int (Int32.ofNat os)), .val (.int (Int32.ofNat k)), .val (.int (0 : Int32))] [(.ref rwb), (.long (vs.getD (bs + k) 0))])) _
      refine XS.iload X2.here hx rfl (hb hby d5_100) rfl ?_
      show Steps p.tables e below (T2.setTop (mkF m 102 #[.val (.ref ob), .val (.int ix), .val (.ref rb), .val (.int ox), .val (.int (Int32.ofNat bs)), .val (.int (Int32.ofNat os)), .val (.int (Int32.ofNat k)), .val (.int (0 : Int32))] [(.int (Int32.ofNat os)), (.ref rwb), (.long (vs.getD (bs + k) 0))])) _
      refine XS.iload X2.here hx rfl (hb hby d5_102) rfl ?_
      show Steps p.tables e below (T2.setTop (mkF m 104 #[.val (.ref ob), .val (.int ix), .val (.ref rb), .val (.int ox), .val (.int (Int32.ofNat bs)), .val (.int (Int32.ofNat os)), .val (.int (Int32.ofNat k)), .val (.int (0 : Int32))] [(.int (Int32.ofNat k)), (.int (Int32.ofNat os)), (.ref rwb), (.long (vs.getD (bs + k) 0))])) _
      refine XS.iadd X2.here hx rfl (hb hby d5_104) rfl ?_
      exact uK
    rw [own_addN os k]
    show OwnGo p e below s _ _ _ T2 (mkF m 105 #[.val (.ref ob), .val (.int ix), .val (.ref rb), .val (.int ox), .val (.int (Int32.ofNat bs)), .val (.int (Int32.ofNat os)), .val (.int (Int32.ofNat k)), .val (.int (0 : Int32))] [(.int (Int32.ofNat (os + k))), (.ref rwb), (.long (vs.getD (bs + k) 0))])
    refine own_st (T' := T2) (g' := (mkF m 106 #[.val (.ref ob), .val (.int ix), .val (.ref rb), .val (.int ox), .val (.int (Int32.ofNat bs)), .val (.int (Int32.ofNat os)), .val (.int (Int32.ofNat k)), .val (.int (0 : Int32))] [(.long (vs.getD (bs + k) 0)), (.long (vs.getD (bs + k) 0))])) (fun uT uK => ?_) ?_
    · show Steps p.tables e below (T2.setTop (mkF m 105 #[.val (.ref ob), .val (.int ix), .val (.ref rb), .val (.int ox), .val (.int (Int32.ofNat bs)), .val (.int (Int32.ofNat os)), .val (.int (Int32.ofNat k)), .val (.int (0 : Int32))] [(.int (Int32.ofNat (os + k))), (.ref rwb), (.long (vs.getD (bs + k) 0))])) _
      refine own_ldJ X2 hx hZ e2 (O') (j := os + k) (by omega) (y := (vs.getD (bs + k) 0)) (heq k (by omega)).symm (g := (mkF m 105 #[.val (.ref ob), .val (.int ix), .val (.ref rb), .val (.int ox), .val (.int (Int32.ofNat bs)), .val (.int (Int32.ofNat os)), .val (.int (Int32.ofNat k)), .val (.int (0 : Int32))] [(.int (Int32.ofNat (os + k))), (.ref rwb), (.long (vs.getD (bs + k) 0))])) rfl rfl (hb hby d5_105) _ ?_
      exact uK
    obtain ⟨_, _, ⟨T3, L3, k3, n3⟩, -, X3, ⟨Lc3, hQ3, l3, y3, z3⟩, st3⟩ := Jvm.LawKit.callS X2 hx (y := (⟨"java/lang/Long", "compare", "(JJ)I"⟩ : MethodName)) hown (mvT hZ (hw _ (List.mem_of_getElem? (i := 30) rfl))) (mvT hZ (hw _ (List.mem_of_getElem? (i := 31) rfl))) (mvT hZ (hw _ (List.mem_of_getElem? (i := 32) rfl))) (mvT hZ (hw _ (List.mem_of_getElem? (i := 33) rfl))) (by decide) (backOf (W := 0) (rm6 l Z a0 hw [] (vs.getD (bs + k) 0) h n0 Z0) hZ (hw _ (List.mem_of_getElem? (i := 33) rfl)) (hw _ (List.mem_of_getElem? (i := 32) rfl)) (by decide) (by decide)) (g := (mkF m 106 #[.val (.ref ob), .val (.int ix), .val (.ref rb), .val (.int ox), .val (.int (Int32.ofNat bs)), .val (.int (Int32.ofNat os)), .val (.int (Int32.ofNat k)), .val (.int (0 : Int32))] [(.long (vs.getD (bs + k) 0)), (.long (vs.getD (bs + k) 0))])) rfl (by rw [hml]; rfl) (argsL := [(.long (vs.getD (bs + k) 0)), (.long (vs.getD (bs + k) 0))]) (rest := []) (lenOf own_pd0 rfl) rfl (by show 2 * 0 + _ ≤ _; exact Nat.le_of_eq rfl) (hb hby d5_106) (fun _ _ => ⟨rfl, e2, (by decide : 0 + 0 ≤ _), (by decide : 0 + 0 ≤ _)⟩)
    dsimp only [Pt.U, Pt.locs, Pt.cells, Pt.slots] at X3 l3 y3 z3 st3 hQ3
    subst l3 y3 z3
    obtain ⟨rfl, Nq3, e3⟩ := hQ3
    have N3 := Fr.app N Nq3
    refine own_st st3 ?_
    show OwnGo p e below s _ _ _ T3 (mkF m 109 #[.val (.ref ob), .val (.int ix), .val (.ref rb), .val (.int ox), .val (.int (Int32.ofNat bs)), .val (.int (Int32.ofNat os)), .val (.int (Int32.ofNat k)), .val (.int (0 : Int32))] [(.int (0 : Int32))])
    refine own_st (T' := T3) (g' := (mkF m 73 #[.val (.ref ob), .val (.int ix), .val (.ref rb), .val (.int ox), .val (.int (Int32.ofNat bs)), .val (.int (Int32.ofNat os)), .val (.int (Int32.ofNat k)), .val (.int (0 : Int32))] [])) (fun uT uK => ?_) ?_
    · show Steps p.tables e below (T3.setTop (mkF m 109 #[.val (.ref ob), .val (.int ix), .val (.ref rb), .val (.int ox), .val (.int (Int32.ofNat bs)), .val (.int (Int32.ofNat os)), .val (.int (Int32.ofNat k)), .val (.int (0 : Int32))] [(.int (0 : Int32))])) _
      refine XS.istore X3.here hx rfl (hb hby d5_109) rfl (l' := #[.val (.ref ob), .val (.int ix), .val (.ref rb), .val (.int ox), .val (.int (Int32.ofNat bs)), .val (.int (Int32.ofNat os)), .val (.int (Int32.ofNat k)), .val (.int (0 : Int32))]) rfl ?_
      show Steps p.tables e below (T3.setTop (mkF m 111 #[.val (.ref ob), .val (.int ix), .val (.ref rb), .val (.int ox), .val (.int (Int32.ofNat bs)), .val (.int (Int32.ofNat os)), .val (.int (Int32.ofNat k)), .val (.int (0 : Int32))] [])) _
      refine XS.goto X3.here hx rfl (pc0 := 111) (pc' := 73) rfl (hb hby d5_111) (by decide) (by decide) ?_
      exact uK
    exact ih (by omega) T3 _ X3 e3 N3
theorem own_ef_rm5 (m : MethodId) (x0 : Addr) (x1 : Int32) (x2 : Addr) (x3 : Int32) : entryFrame m #[(.ref x0), (.int x1), (.ref x2), (.int x3)] 8 = mkF m 0 #[.val (.ref x0), .val (.int x1), .val (.ref x2), .val (.int x3), .unset, .unset, .unset, .unset] [] := by first | (simp [entryFrame, mkF, argsToLocals, Value.category]; done) | rfl
set_option maxRecDepth 65536 in
set_option maxHeartbeats 40000000 in
theorem rm5 (l : Launch) (Z : State) (a0 : Array Value) (hw : ∀ d ∈ tables_1, d.before a0 Z = true) (ws : List Jvm.Cond) (ob : Addr) (wb : Addr) (kc : ClassId) (rb : Addr) (rwb : Addr) (rk : ClassId) (k0 : Nat) (vs : List Int64) (us : List Int64) (ix : Int32) (ox : Int32) (bs : Nat) (os : Nat) (h0 : Heap) (n0 : Nat) (Z0 : n0 ≤ h0.size) (hk0 : k0 ≤ 3) (O : own_w Z h0 ob wb kc k0 vs) (O' : own_w Z h0 rb rwb rk k0 us) (hix : ix * Int32.ofNat (k0 + 1) = Int32.ofNat bs) (hox : ox * Int32.ofNat (k0 + 1) = Int32.ofNat os) (hi1 : k0 = 0 → ix = Int32.ofNat (bs + 0) ∧ ox = Int32.ofNat (os + 0)) (hl1 : bs + k0 < vs.length) (hl2 : os + k0 < us.length) (heq : ∀ j, j ≤ k0 → vs.getD (bs + j) 0 = us.getD (os + j) 0) :
    MetFree l (⟨"com/example/matchwright/matchwright/service/matching/WideArray", "compare", "(ILcom/example/matchwright/matchwright/service/matching/WideArray;I)I"⟩ : MethodName) (head1 (Jvm.Cond.code (⟨"com/example/matchwright/matchwright/service/matching/WideArray", "compare", "(ILcom/example/matchwright/matchwright/service/matching/WideArray;I)I"⟩ : MethodName) prog_131_method_8_code 8 (some .int) :: ws) ({ frames := 1, cells := 0, slots := 0, locals := 15 } : Room)) (fun aQ UQ => aQ = #[(.ref ob), (.int ix), (.ref rb), (.int ox)] ∧ Z.Warmed39 UQ.vm ∧ UQ.heap = h0) (fun _ _ _ _ _ => True) (fun _ UQ oQ UR => ∃ vQ LQ, oQ = .returned vQ ∧ Q5 Z ob wb kc rb rwb rk k0 vs us ix ox bs os h0 n0 vQ UR.heap LQ ∧ FrameEnd UQ oQ UR LQ ({ frames := 1, cells := 0, slots := 0, locals := 15 } : Room).cells ({ frames := 1, cells := 0, slots := 0, locals := 15 } : Room).slots) := by
  refine MetFree.of_bodySF (plainFor_of_name pn_5) hisR ?_
  intro p e s m args below meth c s₁ Bd hml0 hP hK
  obtain ⟨rfl, hZ, hh⟩ := hP
  have hx := Bd.exec
  have hby := Bd.bytes
  have hml : c.maxLocals = 8 := hml0
  have hown : s.vm.findClass "com/example/matchwright/matchwright/service/matching/WideArray" = some m.cls := findClass_of_methodNamed Bd.named
  have hnm := (name_of_methodNamed Bd.named Bd.method).1
  have hret := Bd.returns
  have hlk : meth.locks = false := Bd.notSynchronized
  have X0 : Stand p l e ({ frames := 1, cells := 0, slots := 0, locals := 15 } : Room) s m #[(.ref ob), (.int ix), (.ref rb), (.int ox)] below meth c s₁ [] 0 0 := Stand.of_body Bd
  have e0 : s₁.heap = h0 := by rw [← hh, Bd.state]; rfl
  have N0 := Fr.nil n0
  have K : Ctx5 p s m meth c Z a0 := ⟨hx, hZ, hw, hby, hml, hown, hret, hlk, hnm⟩
  show OwnGo p e below s ({ frames := 1, cells := 0, slots := 0, locals := 15 } : Room).cells ({ frames := 1, cells := 0, slots := 0, locals := 15 } : Room).slots (Q5 Z ob wb kc rb rwb rk k0 vs us ix ox bs os h0 n0) s₁ (entryFrame m #[(.ref ob), (.int ix), (.ref rb), (.int ox)] 8)
  refine own_cast (own_ef_rm5 m ob ix rb ox) ?_
  show OwnGo p e below s _ _ _ s₁ (mkF m 0 #[.val (.ref ob), .val (.int ix), .val (.ref rb), .val (.int ox), .unset, .unset, .unset, .unset] [])
  refine own_st (T' := s₁) (g' := (mkF m 1 #[.val (.ref ob), .val (.int ix), .val (.ref rb), .val (.int ox), .unset, .unset, .unset, .unset] [(.ref ob)])) (fun uT uK => ?_) ?_
  · show Steps p.tables e below (s₁.setTop (mkF m 0 #[.val (.ref ob), .val (.int ix), .val (.ref rb), .val (.int ox), .unset, .unset, .unset, .unset] [])) _
    refine XS.aloadN X0.here hx rfl (hb hby d5_0) rfl rfl ?_
    exact uK
  obtain ⟨T1, X1, e1, st1⟩ := getF X0 hx hZ hown (host := "") (Or.inl (hw _ (List.mem_of_getElem? (i := 9) rfl))) Via.refl e0 (O).2.1 (g := (mkF m 1 #[.val (.ref ob), .val (.int ix), .val (.ref rb), .val (.int ox), .unset, .unset, .unset, .unset] [(.ref ob)])) rfl rfl (hb hby d5_1)
  refine own_st st1 ?_
  show OwnGo p e below s _ _ _ T1 (mkF m 4 #[.val (.ref ob), .val (.int ix), .val (.ref rb), .val (.int ox), .unset, .unset, .unset, .unset] [(.int (Int32.ofNat (k0 + 1)))])
  refine own_st (T' := T1) (g' := (mkF m 5 #[.val (.ref ob), .val (.int ix), .val (.ref rb), .val (.int ox), .unset, .unset, .unset, .unset] [(.int (1 : Int32)), (.int (Int32.ofNat (k0 + 1)))])) (fun uT uK => ?_) ?_
  · show Steps p.tables e below (T1.setTop (mkF m 4 #[.val (.ref ob), .val (.int ix), .val (.ref rb), .val (.int ox), .unset, .unset, .unset, .unset] [(.int (Int32.ofNat (k0 + 1)))])) _
    refine XS.iconst X1.here hx rfl (hb hby d5_4) ?_
    exact uK
  by_cases hc5 : (Int32.ofNat (k0 + 1)) = (1 : Int32)
  · refine own_st (T' := T1) (g' := (mkF m 8 #[.val (.ref ob), .val (.int ix), .val (.ref rb), .val (.int ox), .unset, .unset, .unset, .unset] [])) (fun uT uK => ?_) ?_
    · show Steps p.tables e below (T1.setTop (mkF m 5 #[.val (.ref ob), .val (.int ix), .val (.ref rb), .val (.int ox), .unset, .unset, .unset, .unset] [(.int (1 : Int32)), (.int (Int32.ofNat (k0 + 1)))])) _
      refine XS.icmpNo X1.here hx rfl (hb hby d5_5) rfl (XT.ii_ne_f hc5) ?_
      exact uK
    obtain ⟨hia, hoa⟩ := hi1 (by have := (own_eqN (i := k0 + 1) (j := 1) (by omega) (by omega)).mp hc5; omega)
    rw [hia, hoa]
    show OwnGo p e below s _ _ _ T1 (mkF m 8 #[.val (.ref ob), .val (.int (Int32.ofNat (bs + 0))), .val (.ref rb), .val (.int (Int32.ofNat (os + 0))), .unset, .unset, .unset, .unset] [])
    refine own_st (T' := T1) (g' := (mkF m 9 #[.val (.ref ob), .val (.int (Int32.ofNat (bs + 0))), .val (.ref rb), .val (.int (Int32.ofNat (os + 0))), .unset, .unset, .unset, .unset] [(.ref ob)])) (fun uT uK => ?_) ?_
    · show Steps p.tables e below (T1.setTop (mkF m 8 #[.val (.ref ob), .val (.int (Int32.ofNat (bs + 0))), .val (.ref rb), .val (.int (Int32.ofNat (os + 0))), .unset, .unset, .unset, .unset] [])) _
      refine XS.aloadN X1.here hx rfl (hb hby d5_8) rfl rfl ?_
      exact uK
    obtain ⟨T2, X2, e2, st2⟩ := getF X1 hx hZ hown (host := "") (Or.inl (hw _ (List.mem_of_getElem? (i := 12) rfl))) Via.refl e1 (O).2.2.1 (g := (mkF m 9 #[.val (.ref ob), .val (.int (Int32.ofNat (bs + 0))), .val (.ref rb), .val (.int (Int32.ofNat (os + 0))), .unset, .unset, .unset, .unset] [(.ref ob)])) rfl rfl (hb hby d5_9)
    refine own_st st2 ?_
    show OwnGo p e below s _ _ _ T2 (mkF m 12 #[.val (.ref ob), .val (.int (Int32.ofNat (bs + 0))), .val (.ref rb), .val (.int (Int32.ofNat (os + 0))), .unset, .unset, .unset, .unset] [(.ref wb)])
    refine own_st (T' := T2) (g' := (mkF m 15 #[.val (.ref ob), .val (.int (Int32.ofNat (bs + 0))), .val (.ref rb), .val (.int (Int32.ofNat (os + 0))), .unset, .unset, .unset, .unset] [(.ref rb), (.long (vs.getD (bs + 0) 0))])) (fun uT uK => ?_) ?_
    · show Steps p.tables e below (T2.setTop (mkF m 12 #[.val (.ref ob), .val (.int (Int32.ofNat (bs + 0))), .val (.ref rb), .val (.int (Int32.ofNat (os + 0))), .unset, .unset, .unset, .unset] [(.ref wb)])) _
      refine XS.iloadN X2.here hx rfl (hb hby d5_12) rfl ?_
      show Steps p.tables e below (T2.setTop (mkF m 13 #[.val (.ref ob), .val (.int (Int32.ofNat (bs + 0))), .val (.ref rb), .val (.int (Int32.ofNat (os + 0))), .unset, .unset, .unset, .unset] [(.int (Int32.ofNat (bs + 0))), (.ref wb)])) _
      refine own_ldJ X2 hx hZ e2 (O) (j := bs + 0) (by omega) (y := (vs.getD (bs + 0) 0)) rfl (g := (mkF m 13 #[.val (.ref ob), .val (.int (Int32.ofNat (bs + 0))), .val (.ref rb), .val (.int (Int32.ofNat (os + 0))), .unset, .unset, .unset, .unset] [(.int (Int32.ofNat (bs + 0))), (.ref wb)])) rfl rfl (hb hby d5_13) _ ?_
      show Steps p.tables e below (T2.setTop (mkF m 14 #[.val (.ref ob), .val (.int (Int32.ofNat (bs + 0))), .val (.ref rb), .val (.int (Int32.ofNat (os + 0))), .unset, .unset, .unset, .unset] [(.long (vs.getD (bs + 0) 0))])) _
      refine XS.aloadN X2.here hx rfl (hb hby d5_14) rfl rfl ?_
      exact uK
    obtain ⟨T3, X3, e3, st3⟩ := getF X2 hx hZ hown (host := "") (Or.inl (hw _ (List.mem_of_getElem? (i := 12) rfl))) Via.refl e2 (O').2.2.1 (g := (mkF m 15 #[.val (.ref ob), .val (.int (Int32.ofNat (bs + 0))), .val (.ref rb), .val (.int (Int32.ofNat (os + 0))), .unset, .unset, .unset, .unset] [(.ref rb), (.long (vs.getD (bs + 0) 0))])) rfl rfl (hb hby d5_15)
    refine own_st st3 ?_
    show OwnGo p e below s _ _ _ T3 (mkF m 18 #[.val (.ref ob), .val (.int (Int32.ofNat (bs + 0))), .val (.ref rb), .val (.int (Int32.ofNat (os + 0))), .unset, .unset, .unset, .unset] [(.ref rwb), (.long (vs.getD (bs + 0) 0))])
    refine own_st (T' := T3) (g' := (mkF m 20 #[.val (.ref ob), .val (.int (Int32.ofNat (bs + 0))), .val (.ref rb), .val (.int (Int32.ofNat (os + 0))), .unset, .unset, .unset, .unset] [(.long (vs.getD (bs + 0) 0)), (.long (vs.getD (bs + 0) 0))])) (fun uT uK => ?_) ?_
    · show Steps p.tables e below (T3.setTop (mkF m 18 #[.val (.ref ob), .val (.int (Int32.ofNat (bs + 0))), .val (.ref rb), .val (.int (Int32.ofNat (os + 0))), .unset, .unset, .unset, .unset] [(.ref rwb), (.long (vs.getD (bs + 0) 0))])) _
      refine XS.iloadN X3.here hx rfl (hb hby d5_18) rfl ?_
      show Steps p.tables e below (T3.setTop (mkF m 19 #[.val (.ref ob), .val (.int (Int32.ofNat (bs + 0))), .val (.ref rb), .val (.int (Int32.ofNat (os + 0))), .unset, .unset, .unset, .unset] [(.int (Int32.ofNat (os + 0))), (.ref rwb), (.long (vs.getD (bs + 0) 0))])) _
      refine own_ldJ X3 hx hZ e3 (O') (j := os + 0) (by omega) (y := (vs.getD (bs + 0) 0)) (heq 0 (by omega)).symm (g := (mkF m 19 #[.val (.ref ob), .val (.int (Int32.ofNat (bs + 0))), .val (.ref rb), .val (.int (Int32.ofNat (os + 0))), .unset, .unset, .unset, .unset] [(.int (Int32.ofNat (os + 0))), (.ref rwb), (.long (vs.getD (bs + 0) 0))])) rfl rfl (hb hby d5_19) _ ?_
      exact uK
    obtain ⟨_, _, ⟨T4, L4, k4, n4⟩, -, X4, ⟨Lc4, hQ4, l4, y4, z4⟩, st4⟩ := Jvm.LawKit.callS X3 hx (y := (⟨"java/lang/Long", "compare", "(JJ)I"⟩ : MethodName)) hown (mvT hZ (hw _ (List.mem_of_getElem? (i := 30) rfl))) (mvT hZ (hw _ (List.mem_of_getElem? (i := 31) rfl))) (mvT hZ (hw _ (List.mem_of_getElem? (i := 32) rfl))) (mvT hZ (hw _ (List.mem_of_getElem? (i := 33) rfl))) (by decide) (backOf (W := 0) (rm6 l Z a0 hw [] (vs.getD (bs + 0) 0) h0 n0 Z0) hZ (hw _ (List.mem_of_getElem? (i := 33) rfl)) (hw _ (List.mem_of_getElem? (i := 32) rfl)) (by decide) (by decide)) (g := (mkF m 20 #[.val (.ref ob), .val (.int (Int32.ofNat (bs + 0))), .val (.ref rb), .val (.int (Int32.ofNat (os + 0))), .unset, .unset, .unset, .unset] [(.long (vs.getD (bs + 0) 0)), (.long (vs.getD (bs + 0) 0))])) rfl (by rw [hml]; rfl) (argsL := [(.long (vs.getD (bs + 0) 0)), (.long (vs.getD (bs + 0) 0))]) (rest := []) (lenOf own_pd0 rfl) rfl (by show 2 * 0 + _ ≤ _; exact Nat.le_of_eq rfl) (hb hby d5_20) (fun _ _ => ⟨rfl, e3, (by decide : 0 + 0 ≤ _), (by decide : 0 + 0 ≤ _)⟩)
    dsimp only [Pt.U, Pt.locs, Pt.cells, Pt.slots] at X4 l4 y4 z4 st4 hQ4
    subst l4 y4 z4
    obtain ⟨rfl, Nq4, e4⟩ := hQ4
    have N4 := Fr.app N0 Nq4
    refine own_st st4 ?_
    show OwnGo p e below s _ _ _ T4 (mkF m 23 #[.val (.ref ob), .val (.int (Int32.ofNat (bs + 0))), .val (.ref rb), .val (.int (Int32.ofNat (os + 0))), .unset, .unset, .unset, .unset] [(.int (0 : Int32))])
    exact own_ret (v := some (.int (0 : Int32))) X4 hlk (fun h => by rw [hret] at h; cases h) (fun fs hr => retOut X4 hx hret rfl (Or.inl ⟨rfl, by simp, _, rfl⟩) (hb hby d5_23) hr) (by rw [e4]; exact ⟨rfl, N4, rfl⟩) (by decide) (by decide)
  · refine own_st (T' := T1) (g' := (mkF m 26 #[.val (.ref ob), .val (.int ix), .val (.ref rb), .val (.int ox), .unset, .unset, .unset, .unset] [(.ref ob), (.int ix)])) (fun uT uK => ?_) ?_
    · show Steps p.tables e below (T1.setTop (mkF m 5 #[.val (.ref ob), .val (.int ix), .val (.ref rb), .val (.int ox), .unset, .unset, .unset, .unset] [(.int (1 : Int32)), (.int (Int32.ofNat (k0 + 1)))])) _
      refine XS.icmpYes X1.here hx rfl (pc0 := 5) (pc' := 24) rfl (hb hby d5_5) rfl (XT.ii_ne_t hc5) (by decide) (by decide) ?_
      show Steps p.tables e below (T1.setTop (mkF m 24 #[.val (.ref ob), .val (.int ix), .val (.ref rb), .val (.int ox), .unset, .unset, .unset, .unset] [])) _
      refine XS.iloadN X1.here hx rfl (hb hby d5_24) rfl ?_
      show Steps p.tables e below (T1.setTop (mkF m 25 #[.val (.ref ob), .val (.int ix), .val (.ref rb), .val (.int ox), .unset, .unset, .unset, .unset] [(.int ix)])) _
      refine XS.aloadN X1.here hx rfl (hb hby d5_25) rfl rfl ?_
      exact uK
    obtain ⟨T5, X5, e5, st5⟩ := getF X1 hx hZ hown (host := "") (Or.inl (hw _ (List.mem_of_getElem? (i := 9) rfl))) Via.refl e1 (O).2.1 (g := (mkF m 26 #[.val (.ref ob), .val (.int ix), .val (.ref rb), .val (.int ox), .unset, .unset, .unset, .unset] [(.ref ob), (.int ix)])) rfl rfl (hb hby d5_26)
    refine own_st st5 ?_
    show OwnGo p e below s _ _ _ T5 (mkF m 29 #[.val (.ref ob), .val (.int ix), .val (.ref rb), .val (.int ox), .unset, .unset, .unset, .unset] [(.int (Int32.ofNat (k0 + 1))), (.int ix)])
    refine own_st (T' := T5) (g' := (mkF m 30 #[.val (.ref ob), .val (.int ix), .val (.ref rb), .val (.int ox), .unset, .unset, .unset, .unset] [(.int (ix * (Int32.ofNat (k0 + 1))))])) (fun uT uK => ?_) ?_
    · show Steps p.tables e below (T5.setTop (mkF m 29 #[.val (.ref ob), .val (.int ix), .val (.ref rb), .val (.int ox), .unset, .unset, .unset, .unset] [(.int (Int32.ofNat (k0 + 1))), (.int ix)])) _
      refine XS.imul X5.here hx rfl (hb hby d5_29) rfl ?_
      exact uK
    rw [hix]
    show OwnGo p e below s _ _ _ T5 (mkF m 30 #[.val (.ref ob), .val (.int ix), .val (.ref rb), .val (.int ox), .unset, .unset, .unset, .unset] [(.int (Int32.ofNat bs))])
    refine own_st (T' := T5) (g' := (mkF m 34 #[.val (.ref ob), .val (.int ix), .val (.ref rb), .val (.int ox), .val (.int (Int32.ofNat bs)), .unset, .unset, .unset] [(.ref ob), (.int ox)])) (fun uT uK => ?_) ?_
    · show Steps p.tables e below (T5.setTop (mkF m 30 #[.val (.ref ob), .val (.int ix), .val (.ref rb), .val (.int ox), .unset, .unset, .unset, .unset] [(.int (Int32.ofNat bs))])) _
      refine XS.istore X5.here hx rfl (hb hby d5_30) rfl (l' := #[.val (.ref ob), .val (.int ix), .val (.ref rb), .val (.int ox), .val (.int (Int32.ofNat bs)), .unset, .unset, .unset]) rfl ?_
      show Steps p.tables e below (T5.setTop (mkF m 32 #[.val (.ref ob), .val (.int ix), .val (.ref rb), .val (.int ox), .val (.int (Int32.ofNat bs)), .unset, .unset, .unset] [])) _
      refine XS.iloadN X5.here hx rfl (hb hby d5_32) rfl ?_
      show Steps p.tables e below (T5.setTop (mkF m 33 #[.val (.ref ob), .val (.int ix), .val (.ref rb), .val (.int ox), .val (.int (Int32.ofNat bs)), .unset, .unset, .unset] [(.int ox)])) _
      refine XS.aloadN X5.here hx rfl (hb hby d5_33) rfl rfl ?_
      exact uK
    obtain ⟨T6, X6, e6, st6⟩ := getF X5 hx hZ hown (host := "") (Or.inl (hw _ (List.mem_of_getElem? (i := 9) rfl))) Via.refl e5 (O).2.1 (g := (mkF m 34 #[.val (.ref ob), .val (.int ix), .val (.ref rb), .val (.int ox), .val (.int (Int32.ofNat bs)), .unset, .unset, .unset] [(.ref ob), (.int ox)])) rfl rfl (hb hby d5_34)
    refine own_st st6 ?_
    show OwnGo p e below s _ _ _ T6 (mkF m 37 #[.val (.ref ob), .val (.int ix), .val (.ref rb), .val (.int ox), .val (.int (Int32.ofNat bs)), .unset, .unset, .unset] [(.int (Int32.ofNat (k0 + 1))), (.int ox)])
    refine own_st (T' := T6) (g' := (mkF m 38 #[.val (.ref ob), .val (.int ix), .val (.ref rb), .val (.int ox), .val (.int (Int32.ofNat bs)), .unset, .unset, .unset] [(.int (ox * (Int32.ofNat (k0 + 1))))])) (fun uT uK => ?_) ?_
    · show Steps p.tables e below (T6.setTop (mkF m 37 #[.val (.ref ob), .val (.int ix), .val (.ref rb), .val (.int ox), .val (.int (Int32.ofNat bs)), .unset, .unset, .unset] [(.int (Int32.ofNat (k0 + 1))), (.int ox)])) _
      refine XS.imul X6.here hx rfl (hb hby d5_37) rfl ?_
      exact uK
    rw [hox]
    show OwnGo p e below s _ _ _ T6 (mkF m 38 #[.val (.ref ob), .val (.int ix), .val (.ref rb), .val (.int ox), .val (.int (Int32.ofNat bs)), .unset, .unset, .unset] [(.int (Int32.ofNat os))])
    refine own_st (T' := T6) (g' := (mkF m 41 #[.val (.ref ob), .val (.int ix), .val (.ref rb), .val (.int ox), .val (.int (Int32.ofNat bs)), .val (.int (Int32.ofNat os)), .unset, .unset] [(.ref ob)])) (fun uT uK => ?_) ?_
    · show Steps p.tables e below (T6.setTop (mkF m 38 #[.val (.ref ob), .val (.int ix), .val (.ref rb), .val (.int ox), .val (.int (Int32.ofNat bs)), .unset, .unset, .unset] [(.int (Int32.ofNat os))])) _
      refine XS.istore X6.here hx rfl (hb hby d5_38) rfl (l' := #[.val (.ref ob), .val (.int ix), .val (.ref rb), .val (.int ox), .val (.int (Int32.ofNat bs)), .val (.int (Int32.ofNat os)), .unset, .unset]) rfl ?_
      show Steps p.tables e below (T6.setTop (mkF m 40 #[.val (.ref ob), .val (.int ix), .val (.ref rb), .val (.int ox), .val (.int (Int32.ofNat bs)), .val (.int (Int32.ofNat os)), .unset, .unset] [])) _
      refine XS.aloadN X6.here hx rfl (hb hby d5_40) rfl rfl ?_
      exact uK
    obtain ⟨T7, X7, e7, st7⟩ := getF X6 hx hZ hown (host := "") (Or.inl (hw _ (List.mem_of_getElem? (i := 9) rfl))) Via.refl e6 (O).2.1 (g := (mkF m 41 #[.val (.ref ob), .val (.int ix), .val (.ref rb), .val (.int ox), .val (.int (Int32.ofNat bs)), .val (.int (Int32.ofNat os)), .unset, .unset] [(.ref ob)])) rfl rfl (hb hby d5_41)
    refine own_st st7 ?_
    show OwnGo p e below s _ _ _ T7 (mkF m 44 #[.val (.ref ob), .val (.int ix), .val (.ref rb), .val (.int ox), .val (.int (Int32.ofNat bs)), .val (.int (Int32.ofNat os)), .unset, .unset] [(.int (Int32.ofNat (k0 + 1)))])
    refine own_st (T' := T7) (g' := (mkF m 46 #[.val (.ref ob), .val (.int ix), .val (.ref rb), .val (.int ox), .val (.int (Int32.ofNat bs)), .val (.int (Int32.ofNat os)), .unset, .unset] [(.int ((Int32.ofNat (k0 + 1)) - (1 : Int32)))])) (fun uT uK => ?_) ?_
    · show Steps p.tables e below (T7.setTop (mkF m 44 #[.val (.ref ob), .val (.int ix), .val (.ref rb), .val (.int ox), .val (.int (Int32.ofNat bs)), .val (.int (Int32.ofNat os)), .unset, .unset] [(.int (Int32.ofNat (k0 + 1)))])) _
      refine XS.iconst X7.here hx rfl (hb hby d5_44) ?_
      show Steps p.tables e below (T7.setTop (mkF m 45 #[.val (.ref ob), .val (.int ix), .val (.ref rb), .val (.int ox), .val (.int (Int32.ofNat bs)), .val (.int (Int32.ofNat os)), .unset, .unset] [(.int (1 : Int32)), (.int (Int32.ofNat (k0 + 1)))])) _
      refine XS.isub X7.here hx rfl (hb hby d5_45) rfl ?_
      exact uK
    rw [own_pred k0]
    show OwnGo p e below s _ _ _ T7 (mkF m 46 #[.val (.ref ob), .val (.int ix), .val (.ref rb), .val (.int ox), .val (.int (Int32.ofNat bs)), .val (.int (Int32.ofNat os)), .unset, .unset] [(.int (Int32.ofNat k0))])
    refine own_st (T' := T7) (g' := (mkF m 49 #[.val (.ref ob), .val (.int ix), .val (.ref rb), .val (.int ox), .val (.int (Int32.ofNat bs)), .val (.int (Int32.ofNat os)), .val (.int (Int32.ofNat k0)), .unset] [(.ref ob)])) (fun uT uK => ?_) ?_
    · show Steps p.tables e below (T7.setTop (mkF m 46 #[.val (.ref ob), .val (.int ix), .val (.ref rb), .val (.int ox), .val (.int (Int32.ofNat bs)), .val (.int (Int32.ofNat os)), .unset, .unset] [(.int (Int32.ofNat k0))])) _
      refine XS.istore X7.here hx rfl (hb hby d5_46) rfl (l' := #[.val (.ref ob), .val (.int ix), .val (.ref rb), .val (.int ox), .val (.int (Int32.ofNat bs)), .val (.int (Int32.ofNat os)), .val (.int (Int32.ofNat k0)), .unset]) rfl ?_
      show Steps p.tables e below (T7.setTop (mkF m 48 #[.val (.ref ob), .val (.int ix), .val (.ref rb), .val (.int ox), .val (.int (Int32.ofNat bs)), .val (.int (Int32.ofNat os)), .val (.int (Int32.ofNat k0)), .unset] [])) _
      refine XS.aloadN X7.here hx rfl (hb hby d5_48) rfl rfl ?_
      exact uK
    obtain ⟨T8, X8, e8, st8⟩ := getF X7 hx hZ hown (host := "") (Or.inl (hw _ (List.mem_of_getElem? (i := 12) rfl))) Via.refl e7 (O).2.2.1 (g := (mkF m 49 #[.val (.ref ob), .val (.int ix), .val (.ref rb), .val (.int ox), .val (.int (Int32.ofNat bs)), .val (.int (Int32.ofNat os)), .val (.int (Int32.ofNat k0)), .unset] [(.ref ob)])) rfl rfl (hb hby d5_49)
    refine own_st st8 ?_
    show OwnGo p e below s _ _ _ T8 (mkF m 52 #[.val (.ref ob), .val (.int ix), .val (.ref rb), .val (.int ox), .val (.int (Int32.ofNat bs)), .val (.int (Int32.ofNat os)), .val (.int (Int32.ofNat k0)), .unset] [(.ref wb)])
    refine own_st (T' := T8) (g' := (mkF m 57 #[.val (.ref ob), .val (.int ix), .val (.ref rb), .val (.int ox), .val (.int (Int32.ofNat bs)), .val (.int (Int32.ofNat os)), .val (.int (Int32.ofNat k0)), .unset] [(.int ((Int32.ofNat bs) + (Int32.ofNat k0))), (.ref wb)])) (fun uT uK => ?_) ?_
    · show Steps p.tables e below (T8.setTop (mkF m 52 #[.val (.ref ob), .val (.int ix), .val (.ref rb), .val (.int ox), .val (.int (Int32.ofNat bs)), .val (.int (Int32.ofNat os)), .val (.int (Int32.ofNat k0)), .unset] [(.ref wb)])) _
      refine XS.iload X8.here hx rfl (hb hby d5_52) rfl ?_
      show Steps p.tables e below (T8.setTop (mkF m 54 #[.val (.ref ob), .val (.int ix), .val (.ref rb), .val (.int ox), .val (.int (Int32.ofNat bs)), .val (.int (Int32.ofNat os)), .val (.int (Int32.ofNat k0)), .unset] [(.int (Int32.ofNat bs)), (.ref wb)])) _
      refine XS.iload X8.here hx rfl (hb hby d5_54) rfl ?_
      show Steps p.tables e below (T8.setTop (mkF m 56 #[.val (.ref ob), .val (.int ix), .val (.ref rb), .val (.int ox), .val (.int (Int32.ofNat bs)), .val (.int (Int32.ofNat os)), .val (.int (Int32.ofNat k0)), .unset] [(.int (Int32.ofNat k0)), (.int (Int32.ofNat bs)), (.ref wb)])) _
      refine XS.iadd X8.here hx rfl (hb hby d5_56) rfl ?_
      exact uK
    rw [own_addN bs k0]
    show OwnGo p e below s _ _ _ T8 (mkF m 57 #[.val (.ref ob), .val (.int ix), .val (.ref rb), .val (.int ox), .val (.int (Int32.ofNat bs)), .val (.int (Int32.ofNat os)), .val (.int (Int32.ofNat k0)), .unset] [(.int (Int32.ofNat (bs + k0))), (.ref wb)])
    refine own_st (T' := T8) (g' := (mkF m 59 #[.val (.ref ob), .val (.int ix), .val (.ref rb), .val (.int ox), .val (.int (Int32.ofNat bs)), .val (.int (Int32.ofNat os)), .val (.int (Int32.ofNat k0)), .unset] [(.ref rb), (.long (vs.getD (bs + k0) 0))])) (fun uT uK => ?_) ?_
    · show Steps p.tables e below (T8.setTop (mkF m 57 #[.val (.ref ob), .val (.int ix), .val (.ref rb), .val (.int ox), .val (.int (Int32.ofNat bs)), .val (.int (Int32.ofNat os)), .val (.int (Int32.ofNat k0)), .unset] [(.int (Int32.ofNat (bs + k0))), (.ref wb)])) _
      refine own_ldJ X8 hx hZ e8 (O) (j := bs + k0) (by omega) (y := (vs.getD (bs + k0) 0)) rfl (g := (mkF m 57 #[.val (.ref ob), .val (.int ix), .val (.ref rb), .val (.int ox), .val (.int (Int32.ofNat bs)), .val (.int (Int32.ofNat os)), .val (.int (Int32.ofNat k0)), .unset] [(.int (Int32.ofNat (bs + k0))), (.ref wb)])) rfl rfl (hb hby d5_57) _ ?_
      show Steps p.tables e below (T8.setTop (mkF m 58 #[.val (.ref ob), .val (.int ix), .val (.ref rb), .val (.int ox), .val (.int (Int32.ofNat bs)), .val (.int (Int32.ofNat os)), .val (.int (Int32.ofNat k0)), .unset] [(.long (vs.getD (bs + k0) 0))])) _
      refine XS.aloadN X8.here hx rfl (hb hby d5_58) rfl rfl ?_
      exact uK
    obtain ⟨T9, X9, e9, st9⟩ := getF X8 hx hZ hown (host := "") (Or.inl (hw _ (List.mem_of_getElem? (i := 12) rfl))) Via.refl e8 (O').2.2.1 (g := (mkF m 59 #[.val (.ref ob), .val (.int ix), .val (.ref rb), .val (.int ox), .val (.int (Int32.ofNat bs)), .val (.int (Int32.ofNat os)), .val (.int (Int32.ofNat k0)), .unset] [(.ref rb), (.long (vs.getD (bs + k0) 0))])) rfl rfl (hb hby d5_59)
    refine own_st st9 ?_
    show OwnGo p e below s _ _ _ T9 (mkF m 62 #[.val (.ref ob), .val (.int ix), .val (.ref rb), .val (.int ox), .val (.int (Int32.ofNat bs)), .val (.int (Int32.ofNat os)), .val (.int (Int32.ofNat k0)), .unset] [(.ref rwb), (.long (vs.getD (bs + k0) 0))])
    refine own_st (T' := T9) (g' := (mkF m 67 #[.val (.ref ob), .val (.int ix), .val (.ref rb), .val (.int ox), .val (.int (Int32.ofNat bs)), .val (.int (Int32.ofNat os)), .val (.int (Int32.ofNat k0)), .unset] [(.int ((Int32.ofNat os) + (Int32.ofNat k0))), (.ref rwb), (.long (vs.getD (bs + k0) 0))])) (fun uT uK => ?_) ?_
    · show Steps p.tables e below (T9.setTop (mkF m 62 #[.val (.ref ob), .val (.int ix), .val (.ref rb), .val (.int ox), .val (.int (Int32.ofNat bs)), .val (.int (Int32.ofNat os)), .val (.int (Int32.ofNat k0)), .unset] [(.ref rwb), (.long (vs.getD (bs + k0) 0))])) _
      refine XS.iload X9.here hx rfl (hb hby d5_62) rfl ?_
      show Steps p.tables e below (T9.setTop (mkF m 64 #[.val (.ref ob), .val (.int ix), .val (.ref rb), .val (.int ox), .val (.int (Int32.ofNat bs)), .val (.int (Int32.ofNat os)), .val (.int (Int32.ofNat k0)), .unset] [(.int (Int32.ofNat os)), (.ref rwb), (.long (vs.getD (bs + k0) 0))])) _
      refine XS.iload X9.here hx rfl (hb hby d5_64) rfl ?_
      show Steps p.tables e below (T9.setTop (mkF m 66 #[.val (.ref ob), .val (.int ix), .val (.ref rb), .val (.int ox), .val (.int (Int32.ofNat bs)), .val (.int (Int32.ofNat os)), .val (.int (Int32.ofNat k0)), .unset] [(.int (Int32.ofNat k0)), (.int (Int32.ofNat os)), (.ref rwb), (.long (vs.getD (bs + k0) 0))])) _
      refine XS.iadd X9.here hx rfl (hb hby d5_66) rfl ?_
      exact uK
    rw [own_addN os k0]
    show OwnGo p e below s _ _ _ T9 (mkF m 67 #[.val (.ref ob), .val (.int ix), .val (.ref rb), .val (.int ox), .val (.int (Int32.ofNat bs)), .val (.int (Int32.ofNat os)), .val (.int (Int32.ofNat k0)), .unset] [(.int (Int32.ofNat (os + k0))), (.ref rwb), (.long (vs.getD (bs + k0) 0))])
    refine own_st (T' := T9) (g' := (mkF m 68 #[.val (.ref ob), .val (.int ix), .val (.ref rb), .val (.int ox), .val (.int (Int32.ofNat bs)), .val (.int (Int32.ofNat os)), .val (.int (Int32.ofNat k0)), .unset] [(.long (vs.getD (bs + k0) 0)), (.long (vs.getD (bs + k0) 0))])) (fun uT uK => ?_) ?_
    · show Steps p.tables e below (T9.setTop (mkF m 67 #[.val (.ref ob), .val (.int ix), .val (.ref rb), .val (.int ox), .val (.int (Int32.ofNat bs)), .val (.int (Int32.ofNat os)), .val (.int (Int32.ofNat k0)), .unset] [(.int (Int32.ofNat (os + k0))), (.ref rwb), (.long (vs.getD (bs + k0) 0))])) _
      refine own_ldJ X9 hx hZ e9 (O') (j := os + k0) (by omega) (y := (vs.getD (bs + k0) 0)) (heq k0 (by omega)).symm (g := (mkF m 67 #[.val (.ref ob), .val (.int ix), .val (.ref rb), .val (.int ox), .val (.int (Int32.ofNat bs)), .val (.int (Int32.ofNat os)), .val (.int (Int32.ofNat k0)), .unset] [(.int (Int32.ofNat (os + k0))), (.ref rwb), (.long (vs.getD (bs + k0) 0))])) rfl rfl (hb hby d5_67) _ ?_
      exact uK
    obtain ⟨_, _, ⟨T10, L10, k10, n10⟩, -, X10, ⟨Lc10, hQ10, l10, y10, z10⟩, st10⟩ := Jvm.LawKit.callS X9 hx (y := (⟨"java/lang/Long", "compare", "(JJ)I"⟩ : MethodName)) hown (mvT hZ (hw _ (List.mem_of_getElem? (i := 30) rfl))) (mvT hZ (hw _ (List.mem_of_getElem? (i := 31) rfl))) (mvT hZ (hw _ (List.mem_of_getElem? (i := 32) rfl))) (mvT hZ (hw _ (List.mem_of_getElem? (i := 33) rfl))) (by decide) (backOf (W := 0) (rm6 l Z a0 hw [] (vs.getD (bs + k0) 0) h0 n0 Z0) hZ (hw _ (List.mem_of_getElem? (i := 33) rfl)) (hw _ (List.mem_of_getElem? (i := 32) rfl)) (by decide) (by decide)) (g := (mkF m 68 #[.val (.ref ob), .val (.int ix), .val (.ref rb), .val (.int ox), .val (.int (Int32.ofNat bs)), .val (.int (Int32.ofNat os)), .val (.int (Int32.ofNat k0)), .unset] [(.long (vs.getD (bs + k0) 0)), (.long (vs.getD (bs + k0) 0))])) rfl (by rw [hml]; rfl) (argsL := [(.long (vs.getD (bs + k0) 0)), (.long (vs.getD (bs + k0) 0))]) (rest := []) (lenOf own_pd0 rfl) rfl (by show 2 * 0 + _ ≤ _; exact Nat.le_of_eq rfl) (hb hby d5_68) (fun _ _ => ⟨rfl, e9, (by decide : 0 + 0 ≤ _), (by decide : 0 + 0 ≤ _)⟩)
    dsimp only [Pt.U, Pt.locs, Pt.cells, Pt.slots] at X10 l10 y10 z10 st10 hQ10
    subst l10 y10 z10
    obtain ⟨rfl, Nq10, e10⟩ := hQ10
    have N10 := Fr.app N0 Nq10
    refine own_st st10 ?_
    show OwnGo p e below s _ _ _ T10 (mkF m 71 #[.val (.ref ob), .val (.int ix), .val (.ref rb), .val (.int ox), .val (.int (Int32.ofNat bs)), .val (.int (Int32.ofNat os)), .val (.int (Int32.ofNat k0)), .unset] [(.int (0 : Int32))])
    refine own_st (T' := T10) (g' := (mkF m 73 #[.val (.ref ob), .val (.int ix), .val (.ref rb), .val (.int ox), .val (.int (Int32.ofNat bs)), .val (.int (Int32.ofNat os)), .val (.int (Int32.ofNat k0)), .val (.int (0 : Int32))] [])) (fun uT uK => ?_) ?_
    · show Steps p.tables e below (T10.setTop (mkF m 71 #[.val (.ref ob), .val (.int ix), .val (.ref rb), .val (.int ox), .val (.int (Int32.ofNat bs)), .val (.int (Int32.ofNat os)), .val (.int (Int32.ofNat k0)), .unset] [(.int (0 : Int32))])) _
      refine XS.istore X10.here hx rfl (hb hby d5_71) rfl (l' := #[.val (.ref ob), .val (.int ix), .val (.ref rb), .val (.int ox), .val (.int (Int32.ofNat bs)), .val (.int (Int32.ofNat os)), .val (.int (Int32.ofNat k0)), .val (.int (0 : Int32))]) rfl ?_
      exact uK
    exact own_loop5 ob wb kc rb rwb rk k0 vs us ix ox bs os hk0 Z0 O O' hl1 hl2 heq K k0 (Nat.le_refl _) T10 _ X10 e10 N10
def Q7 (Z : State) (ob : Addr) (wb : Addr) (kc : ClassId) (k0 : Nat) (P : List Int64) (Sf : List Int64) (F : List Int64) (ix : Int32) (bs : Nat) (x : Int64) (R : List Int64) (h0 : Heap) (n0 : Nat) (v : Option Value) (h : Heap) (L : List Loc) : Prop := v = none ∧ Fr n0 L ∧ Keep h0 h [wb] ∧ own_w Z h ob wb kc k0 (P ++ F ++ Sf)
set_option maxRecDepth 65536 in
set_option maxHeartbeats 40000000 in
theorem own_loop7 {p : Program} {l : Launch} {e : Env} {s : State} {m : MethodId} {args : Array Value} {below : List Frame} {meth : Method} {c : Code} {Z : State} {a0 : Array Value} {h0 : Heap} {n0 : Nat} (ob wb : Addr) (kc : ClassId) (k0 : Nat) (P Sf F : List Int64) (ix : Int32) (bs : Nat) (x0 : Int64) (R0 : List Int64) (hk0 : k0 ≤ 3) (hP : P.length = bs) (g_w : n0 ≤ wb) (Z0 : n0 ≤ h0.size)
    (K : Ctx7 p s m meth c Z a0) :
    ∀ (R : List Int64) (i : Nat) (D : List Int64) (x cy : Int64) (s11 s12 s13 s14 : Slot) (T : State) (h : Heap) (locs : List Loc), i + R.length = k0 → D.length = i → own_two s11 s12 → own_two s13 s14 → Stand p l e ({ frames := 1, cells := 0, slots := 0, locals := 19 } : Room) s m args below meth c T locs 0 0 → T.heap = h → Fr n0 locs → Keep h0 h [wb] → own_w Z h ob wb kc k0 (P ++ (D ++ x :: R) ++ Sf) → own_dbok x R cy → D ++ own_db x R cy = F →
      OwnGo p e below s ({ frames := 1, cells := 0, slots := 0, locals := 19 } : Room).cells ({ frames := 1, cells := 0, slots := 0, locals := 19 } : Room).slots (Q7 Z ob wb kc k0 P Sf F ix bs x0 R0 h0 n0) T (mkF m 30 #[.val (.ref ob), .val (.int ix), .val (.ref ob), .val (.int ix), .val (.int (0 : Int32)), .val (.int (Int32.ofNat bs)), .val (.int (Int32.ofNat bs)), .val (.int (Int32.ofNat k0)), .val (.long cy), .second, .val (.int (Int32.ofNat i)), s11, s12, s13, s14] []) := by
  obtain ⟨hx, hZ, hw, hby, hml, hown, hret, hlk, hnm⟩ := id K
  intro R
  induction R with
  | nil =>
    intro i D x cy s11 s12 s13 s14 T h locs hi hD h11 h13 X eT N Kp O hok hF
    have hok' : XT.fits64 (x.toInt + x.toInt) ∧ XT.fits64 ((x + x).toInt + cy.toInt) := hok
    have hik : i = k0 := by simpa using hi
    have hlt : ¬ Int32.ofNat i < Int32.ofNat k0 := by rw [own_ltN (by omega) (by omega)]; omega
    show OwnGo p e below s _ _ _ T (mkF m 30 #[.val (.ref ob), .val (.int ix), .val (.ref ob), .val (.int ix), .val (.int (0 : Int32)), .val (.int (Int32.ofNat bs)), .val (.int (Int32.ofNat bs)), .val (.int (Int32.ofNat k0)), .val (.long cy), .second, .val (.int (Int32.ofNat i)), s11, s12, s13, s14] [])
    refine own_st (T' := T) (g' := (mkF m 147 #[.val (.ref ob), .val (.int ix), .val (.ref ob), .val (.int ix), .val (.int (0 : Int32)), .val (.int (Int32.ofNat bs)), .val (.int (Int32.ofNat bs)), .val (.int (Int32.ofNat k0)), .val (.long cy), .second, .val (.int (Int32.ofNat i)), s11, s12, s13, s14] [(.ref ob)])) (fun uT uK => ?_) ?_
    · show Steps p.tables e below (T.setTop (mkF m 30 #[.val (.ref ob), .val (.int ix), .val (.ref ob), .val (.int ix), .val (.int (0 : Int32)), .val (.int (Int32.ofNat bs)), .val (.int (Int32.ofNat bs)), .val (.int (Int32.ofNat k0)), .val (.long cy), .second, .val (.int (Int32.ofNat i)), s11, s12, s13, s14] [])) _
      refine XS.iload X.here hx rfl (hb hby d7_30) rfl ?_
      show Steps p.tables e below (T.setTop (mkF m 32 #[.val (.ref ob), .val (.int ix), .val (.ref ob), .val (.int ix), .val (.int (0 : Int32)), .val (.int (Int32.ofNat bs)), .val (.int (Int32.ofNat bs)), .val (.int (Int32.ofNat k0)), .val (.long cy), .second, .val (.int (Int32.ofNat i)), s11, s12, s13, s14] [(.int (Int32.ofNat i))])) _
      refine XS.iload X.here hx rfl (hb hby d7_32) rfl ?_
      show Steps p.tables e below (T.setTop (mkF m 34 #[.val (.ref ob), .val (.int ix), .val (.ref ob), .val (.int ix), .val (.int (0 : Int32)), .val (.int (Int32.ofNat bs)), .val (.int (Int32.ofNat bs)), .val (.int (Int32.ofNat k0)), .val (.long cy), .second, .val (.int (Int32.ofNat i)), s11, s12, s13, s14] [(.int (Int32.ofNat k0)), (.int (Int32.ofNat i))])) _
      refine XS.icmpYes X.here hx rfl (pc0 := 34) (pc' := 115) rfl (hb hby d7_34) rfl (XT.ii_ge_t hlt) (by decide) (by decide) ?_
      show Steps p.tables e below (T.setTop (mkF m 115 #[.val (.ref ob), .val (.int ix), .val (.ref ob), .val (.int ix), .val (.int (0 : Int32)), .val (.int (Int32.ofNat bs)), .val (.int (Int32.ofNat bs)), .val (.int (Int32.ofNat k0)), .val (.long cy), .second, .val (.int (Int32.ofNat i)), s11, s12, s13, s14] [])) _
      refine XS.iload X.here hx rfl (hb hby d7_115) rfl ?_
      show Steps p.tables e below (T.setTop (mkF m 117 #[.val (.ref ob), .val (.int ix), .val (.ref ob), .val (.int ix), .val (.int (0 : Int32)), .val (.int (Int32.ofNat bs)), .val (.int (Int32.ofNat bs)), .val (.int (Int32.ofNat k0)), .val (.long cy), .second, .val (.int (Int32.ofNat i)), s11, s12, s13, s14] [(.int (0 : Int32))])) _
      refine XS.ifYes X.here hx rfl (pc0 := 117) (pc' := 146) rfl (hb hby d7_117) rfl (XT.i0_eq_t (by decide)) (by decide) (by decide) ?_
      show Steps p.tables e below (T.setTop (mkF m 146 #[.val (.ref ob), .val (.int ix), .val (.ref ob), .val (.int ix), .val (.int (0 : Int32)), .val (.int (Int32.ofNat bs)), .val (.int (Int32.ofNat bs)), .val (.int (Int32.ofNat k0)), .val (.long cy), .second, .val (.int (Int32.ofNat i)), s11, s12, s13, s14] [])) _
      refine XS.aloadN X.here hx rfl (hb hby d7_146) rfl rfl ?_
      exact uK
    obtain ⟨T1, X1, e1, st1⟩ := getF X hx hZ hown (host := "") (Or.inl (hw _ (List.mem_of_getElem? (i := 12) rfl))) Via.refl eT (O).2.2.1 (g := (mkF m 147 #[.val (.ref ob), .val (.int ix), .val (.ref ob), .val (.int ix), .val (.int (0 : Int32)), .val (.int (Int32.ofNat bs)), .val (.int (Int32.ofNat bs)), .val (.int (Int32.ofNat k0)), .val (.long cy), .second, .val (.int (Int32.ofNat i)), s11, s12, s13, s14] [(.ref ob)])) rfl rfl (hb hby d7_147)
    refine own_st st1 ?_
    show OwnGo p e below s _ _ _ T1 (mkF m 150 #[.val (.ref ob), .val (.int ix), .val (.ref ob), .val (.int ix), .val (.int (0 : Int32)), .val (.int (Int32.ofNat bs)), .val (.int (Int32.ofNat bs)), .val (.int (Int32.ofNat k0)), .val (.long cy), .second, .val (.int (Int32.ofNat i)), s11, s12, s13, s14] [(.ref wb)])
    refine own_st (T' := T1) (g' := (mkF m 155 #[.val (.ref ob), .val (.int ix), .val (.ref ob), .val (.int ix), .val (.int (0 : Int32)), .val (.int (Int32.ofNat bs)), .val (.int (Int32.ofNat bs)), .val (.int (Int32.ofNat k0)), .val (.long cy), .second, .val (.int (Int32.ofNat i)), s11, s12, s13, s14] [(.int ((Int32.ofNat bs) + (Int32.ofNat k0))), (.ref wb)])) (fun uT uK => ?_) ?_
    · show Steps p.tables e below (T1.setTop (mkF m 150 #[.val (.ref ob), .val (.int ix), .val (.ref ob), .val (.int ix), .val (.int (0 : Int32)), .val (.int (Int32.ofNat bs)), .val (.int (Int32.ofNat bs)), .val (.int (Int32.ofNat k0)), .val (.long cy), .second, .val (.int (Int32.ofNat i)), s11, s12, s13, s14] [(.ref wb)])) _
      refine XS.iload X1.here hx rfl (hb hby d7_150) rfl ?_
      show Steps p.tables e below (T1.setTop (mkF m 152 #[.val (.ref ob), .val (.int ix), .val (.ref ob), .val (.int ix), .val (.int (0 : Int32)), .val (.int (Int32.ofNat bs)), .val (.int (Int32.ofNat bs)), .val (.int (Int32.ofNat k0)), .val (.long cy), .second, .val (.int (Int32.ofNat i)), s11, s12, s13, s14] [(.int (Int32.ofNat bs)), (.ref wb)])) _
      refine XS.iload X1.here hx rfl (hb hby d7_152) rfl ?_
      show Steps p.tables e below (T1.setTop (mkF m 154 #[.val (.ref ob), .val (.int ix), .val (.ref ob), .val (.int ix), .val (.int (0 : Int32)), .val (.int (Int32.ofNat bs)), .val (.int (Int32.ofNat bs)), .val (.int (Int32.ofNat k0)), .val (.long cy), .second, .val (.int (Int32.ofNat i)), s11, s12, s13, s14] [(.int (Int32.ofNat k0)), (.int (Int32.ofNat bs)), (.ref wb)])) _
      refine XS.iadd X1.here hx rfl (hb hby d7_154) rfl ?_
      exact uK
    rw [own_addN bs k0]
    show OwnGo p e below s _ _ _ T1 (mkF m 155 #[.val (.ref ob), .val (.int ix), .val (.ref ob), .val (.int ix), .val (.int (0 : Int32)), .val (.int (Int32.ofNat bs)), .val (.int (Int32.ofNat bs)), .val (.int (Int32.ofNat k0)), .val (.long cy), .second, .val (.int (Int32.ofNat i)), s11, s12, s13, s14] [(.int (Int32.ofNat (bs + k0))), (.ref wb)])
    refine own_st (T' := T1) (g' := (mkF m 157 #[.val (.ref ob), .val (.int ix), .val (.ref ob), .val (.int ix), .val (.int (0 : Int32)), .val (.int (Int32.ofNat bs)), .val (.int (Int32.ofNat bs)), .val (.int (Int32.ofNat k0)), .val (.long cy), .second, .val (.int (Int32.ofNat i)), s11, s12, s13, s14] [(.ref ob), (.long x)])) (fun uT uK => ?_) ?_
    · show Steps p.tables e below (T1.setTop (mkF m 155 #[.val (.ref ob), .val (.int ix), .val (.ref ob), .val (.int ix), .val (.int (0 : Int32)), .val (.int (Int32.ofNat bs)), .val (.int (Int32.ofNat bs)), .val (.int (Int32.ofNat k0)), .val (.long cy), .second, .val (.int (Int32.ofNat i)), s11, s12, s13, s14] [(.int (Int32.ofNat (bs + k0))), (.ref wb)])) _
      refine own_ldJ X1 hx hZ e1 (O) (j := bs + k0) (by rw [← hP, ← hik, ← hD]; exact own_leng P D [] Sf x) (y := x) (by rw [← hP, ← hik, ← hD]; exact own_getg P D [] Sf x) (g := (mkF m 155 #[.val (.ref ob), .val (.int ix), .val (.ref ob), .val (.int ix), .val (.int (0 : Int32)), .val (.int (Int32.ofNat bs)), .val (.int (Int32.ofNat bs)), .val (.int (Int32.ofNat k0)), .val (.long cy), .second, .val (.int (Int32.ofNat i)), s11, s12, s13, s14] [(.int (Int32.ofNat (bs + k0))), (.ref wb)])) rfl rfl (hb hby d7_155) _ ?_
      show Steps p.tables e below (T1.setTop (mkF m 156 #[.val (.ref ob), .val (.int ix), .val (.ref ob), .val (.int ix), .val (.int (0 : Int32)), .val (.int (Int32.ofNat bs)), .val (.int (Int32.ofNat bs)), .val (.int (Int32.ofNat k0)), .val (.long cy), .second, .val (.int (Int32.ofNat i)), s11, s12, s13, s14] [(.long x)])) _
      refine XS.aloadN X1.here hx rfl (hb hby d7_156) rfl rfl ?_
      exact uK
    obtain ⟨T2, X2, e2, st2⟩ := getF X1 hx hZ hown (host := "") (Or.inl (hw _ (List.mem_of_getElem? (i := 12) rfl))) Via.refl e1 (O).2.2.1 (g := (mkF m 157 #[.val (.ref ob), .val (.int ix), .val (.ref ob), .val (.int ix), .val (.int (0 : Int32)), .val (.int (Int32.ofNat bs)), .val (.int (Int32.ofNat bs)), .val (.int (Int32.ofNat k0)), .val (.long cy), .second, .val (.int (Int32.ofNat i)), s11, s12, s13, s14] [(.ref ob), (.long x)])) rfl rfl (hb hby d7_157)
    refine own_st st2 ?_
    show OwnGo p e below s _ _ _ T2 (mkF m 160 #[.val (.ref ob), .val (.int ix), .val (.ref ob), .val (.int ix), .val (.int (0 : Int32)), .val (.int (Int32.ofNat bs)), .val (.int (Int32.ofNat bs)), .val (.int (Int32.ofNat k0)), .val (.long cy), .second, .val (.int (Int32.ofNat i)), s11, s12, s13, s14] [(.ref wb), (.long x)])
    refine own_st (T' := T2) (g' := (mkF m 165 #[.val (.ref ob), .val (.int ix), .val (.ref ob), .val (.int ix), .val (.int (0 : Int32)), .val (.int (Int32.ofNat bs)), .val (.int (Int32.ofNat bs)), .val (.int (Int32.ofNat k0)), .val (.long cy), .second, .val (.int (Int32.ofNat i)), s11, s12, s13, s14] [(.int ((Int32.ofNat bs) + (Int32.ofNat k0))), (.ref wb), (.long x)])) (fun uT uK => ?_) ?_
    · show Steps p.tables e below (T2.setTop (mkF m 160 #[.val (.ref ob), .val (.int ix), .val (.ref ob), .val (.int ix), .val (.int (0 : Int32)), .val (.int (Int32.ofNat bs)), .val (.int (Int32.ofNat bs)), .val (.int (Int32.ofNat k0)), .val (.long cy), .second, .val (.int (Int32.ofNat i)), s11, s12, s13, s14] [(.ref wb), (.long x)])) _
      refine XS.iload X2.here hx rfl (hb hby d7_160) rfl ?_
      show Steps p.tables e below (T2.setTop (mkF m 162 #[.val (.ref ob), .val (.int ix), .val (.ref ob), .val (.int ix), .val (.int (0 : Int32)), .val (.int (Int32.ofNat bs)), .val (.int (Int32.ofNat bs)), .val (.int (Int32.ofNat k0)), .val (.long cy), .second, .val (.int (Int32.ofNat i)), s11, s12, s13, s14] [(.int (Int32.ofNat bs)), (.ref wb), (.long x)])) _
      refine XS.iload X2.here hx rfl (hb hby d7_162) rfl ?_
      show Steps p.tables e below (T2.setTop (mkF m 164 #[.val (.ref ob), .val (.int ix), .val (.ref ob), .val (.int ix), .val (.int (0 : Int32)), .val (.int (Int32.ofNat bs)), .val (.int (Int32.ofNat bs)), .val (.int (Int32.ofNat k0)), .val (.long cy), .second, .val (.int (Int32.ofNat i)), s11, s12, s13, s14] [(.int (Int32.ofNat k0)), (.int (Int32.ofNat bs)), (.ref wb), (.long x)])) _
      refine XS.iadd X2.here hx rfl (hb hby d7_164) rfl ?_
      exact uK
    rw [own_addN bs k0]
    show OwnGo p e below s _ _ _ T2 (mkF m 165 #[.val (.ref ob), .val (.int ix), .val (.ref ob), .val (.int ix), .val (.int (0 : Int32)), .val (.int (Int32.ofNat bs)), .val (.int (Int32.ofNat bs)), .val (.int (Int32.ofNat k0)), .val (.long cy), .second, .val (.int (Int32.ofNat i)), s11, s12, s13, s14] [(.int (Int32.ofNat (bs + k0))), (.ref wb), (.long x)])
    refine own_st (T' := T2) (g' := (mkF m 166 #[.val (.ref ob), .val (.int ix), .val (.ref ob), .val (.int ix), .val (.int (0 : Int32)), .val (.int (Int32.ofNat bs)), .val (.int (Int32.ofNat bs)), .val (.int (Int32.ofNat k0)), .val (.long cy), .second, .val (.int (Int32.ofNat i)), s11, s12, s13, s14] [(.long x), (.long x)])) (fun uT uK => ?_) ?_
    · show Steps p.tables e below (T2.setTop (mkF m 165 #[.val (.ref ob), .val (.int ix), .val (.ref ob), .val (.int ix), .val (.int (0 : Int32)), .val (.int (Int32.ofNat bs)), .val (.int (Int32.ofNat bs)), .val (.int (Int32.ofNat k0)), .val (.long cy), .second, .val (.int (Int32.ofNat i)), s11, s12, s13, s14] [(.int (Int32.ofNat (bs + k0))), (.ref wb), (.long x)])) _
      refine own_ldJ X2 hx hZ e2 (O) (j := bs + k0) (by rw [← hP, ← hik, ← hD]; exact own_leng P D [] Sf x) (y := x) (by rw [← hP, ← hik, ← hD]; exact own_getg P D [] Sf x) (g := (mkF m 165 #[.val (.ref ob), .val (.int ix), .val (.ref ob), .val (.int ix), .val (.int (0 : Int32)), .val (.int (Int32.ofNat bs)), .val (.int (Int32.ofNat bs)), .val (.int (Int32.ofNat k0)), .val (.long cy), .second, .val (.int (Int32.ofNat i)), s11, s12, s13, s14] [(.int (Int32.ofNat (bs + k0))), (.ref wb), (.long x)])) rfl rfl (hb hby d7_165) _ ?_
      exact uK
    obtain ⟨_, _, ⟨T3, L3, k3, n3⟩, -, X3, ⟨Lc3, hQ3, l3, y3, z3⟩, st3⟩ := Jvm.LawKit.callS X2 hx (y := (⟨"java/lang/Math", "addExact", "(JJ)J"⟩ : MethodName)) hown (mvT hZ (hw _ (List.mem_of_getElem? (i := 40) rfl))) (mvT hZ (hw _ (List.mem_of_getElem? (i := 41) rfl))) (mvT hZ (hw _ (List.mem_of_getElem? (i := 42) rfl))) (mvT hZ (hw _ (List.mem_of_getElem? (i := 43) rfl))) (by decide) (backOf (W := 0) (rm8 l Z a0 hw [] x x h n0 (Nat.le_trans Z0 Kp.1) hok'.1) hZ (hw _ (List.mem_of_getElem? (i := 43) rfl)) (hw _ (List.mem_of_getElem? (i := 42) rfl)) (by decide) (by decide)) (g := (mkF m 166 #[.val (.ref ob), .val (.int ix), .val (.ref ob), .val (.int ix), .val (.int (0 : Int32)), .val (.int (Int32.ofNat bs)), .val (.int (Int32.ofNat bs)), .val (.int (Int32.ofNat k0)), .val (.long cy), .second, .val (.int (Int32.ofNat i)), s11, s12, s13, s14] [(.long x), (.long x)])) rfl (by rw [hml]; rfl) (argsL := [(.long x), (.long x)]) (rest := []) (lenOf own_pd1 rfl) rfl (by show 2 * 0 + _ ≤ _; exact Nat.le_of_eq rfl) (hb hby d7_166) (fun _ _ => ⟨rfl, e2, (by decide : 0 + 0 ≤ _), (by decide : 0 + 0 ≤ _)⟩)
    dsimp only [Pt.U, Pt.locs, Pt.cells, Pt.slots] at X3 l3 y3 z3 st3 hQ3
    subst l3 y3 z3
    obtain ⟨rfl, Nq3, e3⟩ := hQ3
    have N3 := Fr.app N Nq3
    refine own_st st3 ?_
    show OwnGo p e below s _ _ _ T3 (mkF m 169 #[.val (.ref ob), .val (.int ix), .val (.ref ob), .val (.int ix), .val (.int (0 : Int32)), .val (.int (Int32.ofNat bs)), .val (.int (Int32.ofNat bs)), .val (.int (Int32.ofNat k0)), .val (.long cy), .second, .val (.int (Int32.ofNat i)), s11, s12, s13, s14] [(.long (x + x))])
    refine own_st (T' := T3) (g' := (mkF m 172 #[.val (.ref ob), .val (.int ix), .val (.ref ob), .val (.int ix), .val (.int (0 : Int32)), .val (.int (Int32.ofNat bs)), .val (.int (Int32.ofNat bs)), .val (.int (Int32.ofNat k0)), .val (.long cy), .second, .val (.long (x + x)), .second, .unset, s13, s14] [(.ref ob)])) (fun uT uK => ?_) ?_
    · show Steps p.tables e below (T3.setTop (mkF m 169 #[.val (.ref ob), .val (.int ix), .val (.ref ob), .val (.int ix), .val (.int (0 : Int32)), .val (.int (Int32.ofNat bs)), .val (.int (Int32.ofNat bs)), .val (.int (Int32.ofNat k0)), .val (.long cy), .second, .val (.int (Int32.ofNat i)), s11, s12, s13, s14] [(.long (x + x))])) _
      refine XT.lstore X3.here hx rfl (hb hby d7_169) rfl (l' := #[.val (.ref ob), .val (.int ix), .val (.ref ob), .val (.int ix), .val (.int (0 : Int32)), .val (.int (Int32.ofNat bs)), .val (.int (Int32.ofNat bs)), .val (.int (Int32.ofNat k0)), .val (.long cy), .second, .val (.long (x + x)), .second, .unset, s13, s14]) (own_sto10 h11) ?_
      show Steps p.tables e below (T3.setTop (mkF m 171 #[.val (.ref ob), .val (.int ix), .val (.ref ob), .val (.int ix), .val (.int (0 : Int32)), .val (.int (Int32.ofNat bs)), .val (.int (Int32.ofNat bs)), .val (.int (Int32.ofNat k0)), .val (.long cy), .second, .val (.long (x + x)), .second, .unset, s13, s14] [])) _
      refine XS.aloadN X3.here hx rfl (hb hby d7_171) rfl rfl ?_
      exact uK
    obtain ⟨T4, X4, e4, st4⟩ := getF X3 hx hZ hown (host := "") (Or.inl (hw _ (List.mem_of_getElem? (i := 12) rfl))) Via.refl e3 (O).2.2.1 (g := (mkF m 172 #[.val (.ref ob), .val (.int ix), .val (.ref ob), .val (.int ix), .val (.int (0 : Int32)), .val (.int (Int32.ofNat bs)), .val (.int (Int32.ofNat bs)), .val (.int (Int32.ofNat k0)), .val (.long cy), .second, .val (.long (x + x)), .second, .unset, s13, s14] [(.ref ob)])) rfl rfl (hb hby d7_172)
    refine own_st st4 ?_
    show OwnGo p e below s _ _ _ T4 (mkF m 175 #[.val (.ref ob), .val (.int ix), .val (.ref ob), .val (.int ix), .val (.int (0 : Int32)), .val (.int (Int32.ofNat bs)), .val (.int (Int32.ofNat bs)), .val (.int (Int32.ofNat k0)), .val (.long cy), .second, .val (.long (x + x)), .second, .unset, s13, s14] [(.ref wb)])
    refine own_st (T' := T4) (g' := (mkF m 180 #[.val (.ref ob), .val (.int ix), .val (.ref ob), .val (.int ix), .val (.int (0 : Int32)), .val (.int (Int32.ofNat bs)), .val (.int (Int32.ofNat bs)), .val (.int (Int32.ofNat k0)), .val (.long cy), .second, .val (.long (x + x)), .second, .unset, s13, s14] [(.int ((Int32.ofNat bs) + (Int32.ofNat k0))), (.ref wb)])) (fun uT uK => ?_) ?_
    · show Steps p.tables e below (T4.setTop (mkF m 175 #[.val (.ref ob), .val (.int ix), .val (.ref ob), .val (.int ix), .val (.int (0 : Int32)), .val (.int (Int32.ofNat bs)), .val (.int (Int32.ofNat bs)), .val (.int (Int32.ofNat k0)), .val (.long cy), .second, .val (.long (x + x)), .second, .unset, s13, s14] [(.ref wb)])) _
      refine XS.iload X4.here hx rfl (hb hby d7_175) rfl ?_
      show Steps p.tables e below (T4.setTop (mkF m 177 #[.val (.ref ob), .val (.int ix), .val (.ref ob), .val (.int ix), .val (.int (0 : Int32)), .val (.int (Int32.ofNat bs)), .val (.int (Int32.ofNat bs)), .val (.int (Int32.ofNat k0)), .val (.long cy), .second, .val (.long (x + x)), .second, .unset, s13, s14] [(.int (Int32.ofNat bs)), (.ref wb)])) _
      refine XS.iload X4.here hx rfl (hb hby d7_177) rfl ?_
      show Steps p.tables e below (T4.setTop (mkF m 179 #[.val (.ref ob), .val (.int ix), .val (.ref ob), .val (.int ix), .val (.int (0 : Int32)), .val (.int (Int32.ofNat bs)), .val (.int (Int32.ofNat bs)), .val (.int (Int32.ofNat k0)), .val (.long cy), .second, .val (.long (x + x)), .second, .unset, s13, s14] [(.int (Int32.ofNat k0)), (.int (Int32.ofNat bs)), (.ref wb)])) _
      refine XS.iadd X4.here hx rfl (hb hby d7_179) rfl ?_
      exact uK
    rw [own_addN bs k0]
    show OwnGo p e below s _ _ _ T4 (mkF m 180 #[.val (.ref ob), .val (.int ix), .val (.ref ob), .val (.int ix), .val (.int (0 : Int32)), .val (.int (Int32.ofNat bs)), .val (.int (Int32.ofNat bs)), .val (.int (Int32.ofNat k0)), .val (.long cy), .second, .val (.long (x + x)), .second, .unset, s13, s14] [(.int (Int32.ofNat (bs + k0))), (.ref wb)])
    refine own_st (T' := T4) (g' := (mkF m 184 #[.val (.ref ob), .val (.int ix), .val (.ref ob), .val (.int ix), .val (.int (0 : Int32)), .val (.int (Int32.ofNat bs)), .val (.int (Int32.ofNat bs)), .val (.int (Int32.ofNat k0)), .val (.long cy), .second, .val (.long (x + x)), .second, .unset, s13, s14] [(.long cy), (.long (x + x)), (.int (Int32.ofNat (bs + k0))), (.ref wb)])) (fun uT uK => ?_) ?_
    · show Steps p.tables e below (T4.setTop (mkF m 180 #[.val (.ref ob), .val (.int ix), .val (.ref ob), .val (.int ix), .val (.int (0 : Int32)), .val (.int (Int32.ofNat bs)), .val (.int (Int32.ofNat bs)), .val (.int (Int32.ofNat k0)), .val (.long cy), .second, .val (.long (x + x)), .second, .unset, s13, s14] [(.int (Int32.ofNat (bs + k0))), (.ref wb)])) _
      refine XT.lload X4.here hx rfl (hb hby d7_180) rfl ?_
      show Steps p.tables e below (T4.setTop (mkF m 182 #[.val (.ref ob), .val (.int ix), .val (.ref ob), .val (.int ix), .val (.int (0 : Int32)), .val (.int (Int32.ofNat bs)), .val (.int (Int32.ofNat bs)), .val (.int (Int32.ofNat k0)), .val (.long cy), .second, .val (.long (x + x)), .second, .unset, s13, s14] [(.long (x + x)), (.int (Int32.ofNat (bs + k0))), (.ref wb)])) _
      refine XT.lload X4.here hx rfl (hb hby d7_182) rfl ?_
      exact uK
    obtain ⟨_, _, ⟨T5, L5, k5, n5⟩, -, X5, ⟨Lc5, hQ5, l5, y5, z5⟩, st5⟩ := Jvm.LawKit.callS X4 hx (y := (⟨"java/lang/Math", "addExact", "(JJ)J"⟩ : MethodName)) hown (mvT hZ (hw _ (List.mem_of_getElem? (i := 40) rfl))) (mvT hZ (hw _ (List.mem_of_getElem? (i := 41) rfl))) (mvT hZ (hw _ (List.mem_of_getElem? (i := 42) rfl))) (mvT hZ (hw _ (List.mem_of_getElem? (i := 43) rfl))) (by decide) (backOf (W := 2) (rm8 l Z a0 hw [] (x + x) cy h n0 (Nat.le_trans Z0 Kp.1) hok'.2) hZ (hw _ (List.mem_of_getElem? (i := 43) rfl)) (hw _ (List.mem_of_getElem? (i := 42) rfl)) (by decide) (by decide)) (g := (mkF m 184 #[.val (.ref ob), .val (.int ix), .val (.ref ob), .val (.int ix), .val (.int (0 : Int32)), .val (.int (Int32.ofNat bs)), .val (.int (Int32.ofNat bs)), .val (.int (Int32.ofNat k0)), .val (.long cy), .second, .val (.long (x + x)), .second, .unset, s13, s14] [(.long cy), (.long (x + x)), (.int (Int32.ofNat (bs + k0))), (.ref wb)])) rfl (by rw [hml]; rfl) (argsL := [(.long (x + x)), (.long cy)]) (rest := [(.int (Int32.ofNat (bs + k0))), (.ref wb)]) (lenOf own_pd1 rfl) rfl (by show 2 * 0 + _ ≤ _; exact Nat.le_of_eq rfl) (hb hby d7_184) (fun _ _ => ⟨rfl, e4, (by decide : 0 + 0 ≤ _), (by decide : 0 + 0 ≤ _)⟩)
    dsimp only [Pt.U, Pt.locs, Pt.cells, Pt.slots] at X5 l5 y5 z5 st5 hQ5
    subst l5 y5 z5
    obtain ⟨rfl, Nq5, e5⟩ := hQ5
    have N5 := Fr.app N3 Nq5
    refine own_st st5 ?_
    show OwnGo p e below s _ _ _ T5 (mkF m 187 #[.val (.ref ob), .val (.int ix), .val (.ref ob), .val (.int ix), .val (.int (0 : Int32)), .val (.int (Int32.ofNat bs)), .val (.int (Int32.ofNat bs)), .val (.int (Int32.ofNat k0)), .val (.long cy), .second, .val (.long (x + x)), .second, .unset, s13, s14] [(.long ((x + x) + cy)), (.int (Int32.ofNat (bs + k0))), (.ref wb)])
    obtain ⟨T6, h6, locs6, X6, e6, O6, N6, Kw6, st6⟩ := own_stJ X5 hx hZ e5 (O) (j := bs + k0) (by rw [← hP, ← hik, ← hD]; exact own_leng P D [] Sf x) (us := P ++ (D ++ [((x + x) + cy)]) ++ Sf) (by rw [← hP, ← hik, ← hD]; exact own_setg P D [] Sf x _) N5 g_w (g := (mkF m 187 #[.val (.ref ob), .val (.int ix), .val (.ref ob), .val (.int ix), .val (.int (0 : Int32)), .val (.int (Int32.ofNat bs)), .val (.int (Int32.ofNat bs)), .val (.int (Int32.ofNat k0)), .val (.long cy), .second, .val (.long (x + x)), .second, .unset, s13, s14] [(.long ((x + x) + cy)), (.int (Int32.ofNat (bs + k0))), (.ref wb)])) rfl rfl (hb hby d7_187)
    have Ka6 : Keep h0 h6 [wb] := (Kp).trans Kw6 (allS (Or.inl (List.mem_of_getElem? (i := 0) rfl)) all0)
    refine own_st st6 ?_
    show OwnGo p e below s _ _ _ T6 (mkF m 188 #[.val (.ref ob), .val (.int ix), .val (.ref ob), .val (.int ix), .val (.int (0 : Int32)), .val (.int (Int32.ofNat bs)), .val (.int (Int32.ofNat bs)), .val (.int (Int32.ofNat k0)), .val (.long cy), .second, .val (.long (x + x)), .second, .unset, s13, s14] [])
    exact own_ret (v := none) X6 hlk (fun _ => rfl) (fun fs hr => X6.returnOut hx hret (hb hby d7_188) hr) (by rw [e6]; exact ⟨rfl, N6, Ka6, (by have q := O6; rw [show D ++ [((x + x) + cy)] = F from hF] at q; exact q)⟩) (by decide) (by decide)
  | cons y R ih =>
    intro i D x cy s11 s12 s13 s14 T h locs hi hD h11 h13 X eT N Kp O hok hF
    have hik : i < k0 := by simp at hi; omega
    have hlt : Int32.ofNat i < Int32.ofNat k0 := by rw [own_ltN (by omega) (by omega)]; omega
    show OwnGo p e below s _ _ _ T (mkF m 30 #[.val (.ref ob), .val (.int ix), .val (.ref ob), .val (.int ix), .val (.int (0 : Int32)), .val (.int (Int32.ofNat bs)), .val (.int (Int32.ofNat bs)), .val (.int (Int32.ofNat k0)), .val (.long cy), .second, .val (.int (Int32.ofNat i)), s11, s12, s13, s14] [])
    refine own_st (T' := T) (g' := (mkF m 57 #[.val (.ref ob), .val (.int ix), .val (.ref ob), .val (.int ix), .val (.int (0 : Int32)), .val (.int (Int32.ofNat bs)), .val (.int (Int32.ofNat bs)), .val (.int (Int32.ofNat k0)), .val (.long cy), .second, .val (.int (Int32.ofNat i)), s11, s12, s13, s14] [(.ref ob)])) (fun uT uK => ?_) ?_
    · show Steps p.tables e below (T.setTop (mkF m 30 #[.val (.ref ob), .val (.int ix), .val (.ref ob), .val (.int ix), .val (.int (0 : Int32)), .val (.int (Int32.ofNat bs)), .val (.int (Int32.ofNat bs)), .val (.int (Int32.ofNat k0)), .val (.long cy), .second, .val (.int (Int32.ofNat i)), s11, s12, s13, s14] [])) _
      refine XS.iload X.here hx rfl (hb hby d7_30) rfl ?_
      show Steps p.tables e below (T.setTop (mkF m 32 #[.val (.ref ob), .val (.int ix), .val (.ref ob), .val (.int ix), .val (.int (0 : Int32)), .val (.int (Int32.ofNat bs)), .val (.int (Int32.ofNat bs)), .val (.int (Int32.ofNat k0)), .val (.long cy), .second, .val (.int (Int32.ofNat i)), s11, s12, s13, s14] [(.int (Int32.ofNat i))])) _
      refine XS.iload X.here hx rfl (hb hby d7_32) rfl ?_
      show Steps p.tables e below (T.setTop (mkF m 34 #[.val (.ref ob), .val (.int ix), .val (.ref ob), .val (.int ix), .val (.int (0 : Int32)), .val (.int (Int32.ofNat bs)), .val (.int (Int32.ofNat bs)), .val (.int (Int32.ofNat k0)), .val (.long cy), .second, .val (.int (Int32.ofNat i)), s11, s12, s13, s14] [(.int (Int32.ofNat k0)), (.int (Int32.ofNat i))])) _
      refine XS.icmpNo X.here hx rfl (hb hby d7_34) rfl (XT.ii_ge_f hlt) ?_
      show Steps p.tables e below (T.setTop (mkF m 37 #[.val (.ref ob), .val (.int ix), .val (.ref ob), .val (.int ix), .val (.int (0 : Int32)), .val (.int (Int32.ofNat bs)), .val (.int (Int32.ofNat bs)), .val (.int (Int32.ofNat k0)), .val (.long cy), .second, .val (.int (Int32.ofNat i)), s11, s12, s13, s14] [])) _
      refine XS.iload X.here hx rfl (hb hby d7_37) rfl ?_
      show Steps p.tables e below (T.setTop (mkF m 39 #[.val (.ref ob), .val (.int ix), .val (.ref ob), .val (.int ix), .val (.int (0 : Int32)), .val (.int (Int32.ofNat bs)), .val (.int (Int32.ofNat bs)), .val (.int (Int32.ofNat k0)), .val (.long cy), .second, .val (.int (Int32.ofNat i)), s11, s12, s13, s14] [(.int (0 : Int32))])) _
      refine XS.ifYes X.here hx rfl (pc0 := 39) (pc' := 56) rfl (hb hby d7_39) rfl (XT.i0_eq_t (by decide)) (by decide) (by decide) ?_
      show Steps p.tables e below (T.setTop (mkF m 56 #[.val (.ref ob), .val (.int ix), .val (.ref ob), .val (.int ix), .val (.int (0 : Int32)), .val (.int (Int32.ofNat bs)), .val (.int (Int32.ofNat bs)), .val (.int (Int32.ofNat k0)), .val (.long cy), .second, .val (.int (Int32.ofNat i)), s11, s12, s13, s14] [])) _
      refine XS.aloadN X.here hx rfl (hb hby d7_56) rfl rfl ?_
      exact uK
    obtain ⟨T1, X1, e1, st1⟩ := getF X hx hZ hown (host := "") (Or.inl (hw _ (List.mem_of_getElem? (i := 12) rfl))) Via.refl eT (O).2.2.1 (g := (mkF m 57 #[.val (.ref ob), .val (.int ix), .val (.ref ob), .val (.int ix), .val (.int (0 : Int32)), .val (.int (Int32.ofNat bs)), .val (.int (Int32.ofNat bs)), .val (.int (Int32.ofNat k0)), .val (.long cy), .second, .val (.int (Int32.ofNat i)), s11, s12, s13, s14] [(.ref ob)])) rfl rfl (hb hby d7_57)
    refine own_st st1 ?_
    show OwnGo p e below s _ _ _ T1 (mkF m 60 #[.val (.ref ob), .val (.int ix), .val (.ref ob), .val (.int ix), .val (.int (0 : Int32)), .val (.int (Int32.ofNat bs)), .val (.int (Int32.ofNat bs)), .val (.int (Int32.ofNat k0)), .val (.long cy), .second, .val (.int (Int32.ofNat i)), s11, s12, s13, s14] [(.ref wb)])
    refine own_st (T' := T1) (g' := (mkF m 65 #[.val (.ref ob), .val (.int ix), .val (.ref ob), .val (.int ix), .val (.int (0 : Int32)), .val (.int (Int32.ofNat bs)), .val (.int (Int32.ofNat bs)), .val (.int (Int32.ofNat k0)), .val (.long cy), .second, .val (.int (Int32.ofNat i)), s11, s12, s13, s14] [(.int ((Int32.ofNat bs) + (Int32.ofNat i))), (.ref wb)])) (fun uT uK => ?_) ?_
    · show Steps p.tables e below (T1.setTop (mkF m 60 #[.val (.ref ob), .val (.int ix), .val (.ref ob), .val (.int ix), .val (.int (0 : Int32)), .val (.int (Int32.ofNat bs)), .val (.int (Int32.ofNat bs)), .val (.int (Int32.ofNat k0)), .val (.long cy), .second, .val (.int (Int32.ofNat i)), s11, s12, s13, s14] [(.ref wb)])) _
      refine XS.iload X1.here hx rfl (hb hby d7_60) rfl ?_
      show Steps p.tables e below (T1.setTop (mkF m 62 #[.val (.ref ob), .val (.int ix), .val (.ref ob), .val (.int ix), .val (.int (0 : Int32)), .val (.int (Int32.ofNat bs)), .val (.int (Int32.ofNat bs)), .val (.int (Int32.ofNat k0)), .val (.long cy), .second, .val (.int (Int32.ofNat i)), s11, s12, s13, s14] [(.int (Int32.ofNat bs)), (.ref wb)])) _
      refine XS.iload X1.here hx rfl (hb hby d7_62) rfl ?_
      show Steps p.tables e below (T1.setTop (mkF m 64 #[.val (.ref ob), .val (.int ix), .val (.ref ob), .val (.int ix), .val (.int (0 : Int32)), .val (.int (Int32.ofNat bs)), .val (.int (Int32.ofNat bs)), .val (.int (Int32.ofNat k0)), .val (.long cy), .second, .val (.int (Int32.ofNat i)), s11, s12, s13, s14] [(.int (Int32.ofNat i)), (.int (Int32.ofNat bs)), (.ref wb)])) _
      refine XS.iadd X1.here hx rfl (hb hby d7_64) rfl ?_
      exact uK
    rw [own_addN bs i]
    show OwnGo p e below s _ _ _ T1 (mkF m 65 #[.val (.ref ob), .val (.int ix), .val (.ref ob), .val (.int ix), .val (.int (0 : Int32)), .val (.int (Int32.ofNat bs)), .val (.int (Int32.ofNat bs)), .val (.int (Int32.ofNat k0)), .val (.long cy), .second, .val (.int (Int32.ofNat i)), s11, s12, s13, s14] [(.int (Int32.ofNat (bs + i))), (.ref wb)])
    refine own_st (T' := T1) (g' := (mkF m 69 #[.val (.ref ob), .val (.int ix), .val (.ref ob), .val (.int ix), .val (.int (0 : Int32)), .val (.int (Int32.ofNat bs)), .val (.int (Int32.ofNat bs)), .val (.int (Int32.ofNat k0)), .val (.long cy), .second, .val (.int (Int32.ofNat i)), .val (.long x), .second, s13, s14] [(.ref ob)])) (fun uT uK => ?_) ?_
    · show Steps p.tables e below (T1.setTop (mkF m 65 #[.val (.ref ob), .val (.int ix), .val (.ref ob), .val (.int ix), .val (.int (0 : Int32)), .val (.int (Int32.ofNat bs)), .val (.int (Int32.ofNat bs)), .val (.int (Int32.ofNat k0)), .val (.long cy), .second, .val (.int (Int32.ofNat i)), s11, s12, s13, s14] [(.int (Int32.ofNat (bs + i))), (.ref wb)])) _
      refine own_ldJ X1 hx hZ e1 (O) (j := bs + i) (by rw [← hP, ← hD]; exact own_leng P D (y :: R) Sf x) (y := x) (by rw [← hP, ← hD]; exact own_getg P D (y :: R) Sf x) (g := (mkF m 65 #[.val (.ref ob), .val (.int ix), .val (.ref ob), .val (.int ix), .val (.int (0 : Int32)), .val (.int (Int32.ofNat bs)), .val (.int (Int32.ofNat bs)), .val (.int (Int32.ofNat k0)), .val (.long cy), .second, .val (.int (Int32.ofNat i)), s11, s12, s13, s14] [(.int (Int32.ofNat (bs + i))), (.ref wb)])) rfl rfl (hb hby d7_65) _ ?_
      show Steps p.tables e below (T1.setTop (mkF m 66 #[.val (.ref ob), .val (.int ix), .val (.ref ob), .val (.int ix), .val (.int (0 : Int32)), .val (.int (Int32.ofNat bs)), .val (.int (Int32.ofNat bs)), .val (.int (Int32.ofNat k0)), .val (.long cy), .second, .val (.int (Int32.ofNat i)), s11, s12, s13, s14] [(.long x)])) _
      refine XT.lstore X1.here hx rfl (hb hby d7_66) rfl (l' := #[.val (.ref ob), .val (.int ix), .val (.ref ob), .val (.int ix), .val (.int (0 : Int32)), .val (.int (Int32.ofNat bs)), .val (.int (Int32.ofNat bs)), .val (.int (Int32.ofNat k0)), .val (.long cy), .second, .val (.int (Int32.ofNat i)), .val (.long x), .second, s13, s14]) (own_sto11 h11) ?_
      show Steps p.tables e below (T1.setTop (mkF m 68 #[.val (.ref ob), .val (.int ix), .val (.ref ob), .val (.int ix), .val (.int (0 : Int32)), .val (.int (Int32.ofNat bs)), .val (.int (Int32.ofNat bs)), .val (.int (Int32.ofNat k0)), .val (.long cy), .second, .val (.int (Int32.ofNat i)), .val (.long x), .second, s13, s14] [])) _
      refine XS.aloadN X1.here hx rfl (hb hby d7_68) rfl rfl ?_
      exact uK
    obtain ⟨T2, X2, e2, st2⟩ := getF X1 hx hZ hown (host := "") (Or.inl (hw _ (List.mem_of_getElem? (i := 12) rfl))) Via.refl e1 (O).2.2.1 (g := (mkF m 69 #[.val (.ref ob), .val (.int ix), .val (.ref ob), .val (.int ix), .val (.int (0 : Int32)), .val (.int (Int32.ofNat bs)), .val (.int (Int32.ofNat bs)), .val (.int (Int32.ofNat k0)), .val (.long cy), .second, .val (.int (Int32.ofNat i)), .val (.long x), .second, s13, s14] [(.ref ob)])) rfl rfl (hb hby d7_69)
    refine own_st st2 ?_
    show OwnGo p e below s _ _ _ T2 (mkF m 72 #[.val (.ref ob), .val (.int ix), .val (.ref ob), .val (.int ix), .val (.int (0 : Int32)), .val (.int (Int32.ofNat bs)), .val (.int (Int32.ofNat bs)), .val (.int (Int32.ofNat k0)), .val (.long cy), .second, .val (.int (Int32.ofNat i)), .val (.long x), .second, s13, s14] [(.ref wb)])
    refine own_st (T' := T2) (g' := (mkF m 77 #[.val (.ref ob), .val (.int ix), .val (.ref ob), .val (.int ix), .val (.int (0 : Int32)), .val (.int (Int32.ofNat bs)), .val (.int (Int32.ofNat bs)), .val (.int (Int32.ofNat k0)), .val (.long cy), .second, .val (.int (Int32.ofNat i)), .val (.long x), .second, s13, s14] [(.int ((Int32.ofNat bs) + (Int32.ofNat i))), (.ref wb)])) (fun uT uK => ?_) ?_
    · show Steps p.tables e below (T2.setTop (mkF m 72 #[.val (.ref ob), .val (.int ix), .val (.ref ob), .val (.int ix), .val (.int (0 : Int32)), .val (.int (Int32.ofNat bs)), .val (.int (Int32.ofNat bs)), .val (.int (Int32.ofNat k0)), .val (.long cy), .second, .val (.int (Int32.ofNat i)), .val (.long x), .second, s13, s14] [(.ref wb)])) _
      refine XS.iload X2.here hx rfl (hb hby d7_72) rfl ?_
      show Steps p.tables e below (T2.setTop (mkF m 74 #[.val (.ref ob), .val (.int ix), .val (.ref ob), .val (.int ix), .val (.int (0 : Int32)), .val (.int (Int32.ofNat bs)), .val (.int (Int32.ofNat bs)), .val (.int (Int32.ofNat k0)), .val (.long cy), .second, .val (.int (Int32.ofNat i)), .val (.long x), .second, s13, s14] [(.int (Int32.ofNat bs)), (.ref wb)])) _
      refine XS.iload X2.here hx rfl (hb hby d7_74) rfl ?_
      show Steps p.tables e below (T2.setTop (mkF m 76 #[.val (.ref ob), .val (.int ix), .val (.ref ob), .val (.int ix), .val (.int (0 : Int32)), .val (.int (Int32.ofNat bs)), .val (.int (Int32.ofNat bs)), .val (.int (Int32.ofNat k0)), .val (.long cy), .second, .val (.int (Int32.ofNat i)), .val (.long x), .second, s13, s14] [(.int (Int32.ofNat i)), (.int (Int32.ofNat bs)), (.ref wb)])) _
      refine XS.iadd X2.here hx rfl (hb hby d7_76) rfl ?_
      exact uK
    rw [own_addN bs i]
    show OwnGo p e below s _ _ _ T2 (mkF m 77 #[.val (.ref ob), .val (.int ix), .val (.ref ob), .val (.int ix), .val (.int (0 : Int32)), .val (.int (Int32.ofNat bs)), .val (.int (Int32.ofNat bs)), .val (.int (Int32.ofNat k0)), .val (.long cy), .second, .val (.int (Int32.ofNat i)), .val (.long x), .second, s13, s14] [(.int (Int32.ofNat (bs + i))), (.ref wb)])
    refine own_st (T' := T2) (g' := (mkF m 94 #[.val (.ref ob), .val (.int ix), .val (.ref ob), .val (.int ix), .val (.int (0 : Int32)), .val (.int (Int32.ofNat bs)), .val (.int (Int32.ofNat bs)), .val (.int (Int32.ofNat k0)), .val (.long (((x + x) + cy) >>> ((62 : Int32).toInt64 &&& 63))), .second, .val (.int (Int32.ofNat i)), .val (.long x), .second, .val (.long ((x + x) + cy)), .second] [(.ref ob)])) (fun uT uK => ?_) ?_
    · show Steps p.tables e below (T2.setTop (mkF m 77 #[.val (.ref ob), .val (.int ix), .val (.ref ob), .val (.int ix), .val (.int (0 : Int32)), .val (.int (Int32.ofNat bs)), .val (.int (Int32.ofNat bs)), .val (.int (Int32.ofNat k0)), .val (.long cy), .second, .val (.int (Int32.ofNat i)), .val (.long x), .second, s13, s14] [(.int (Int32.ofNat (bs + i))), (.ref wb)])) _
      refine own_ldJ X2 hx hZ e2 (O) (j := bs + i) (by rw [← hP, ← hD]; exact own_leng P D (y :: R) Sf x) (y := x) (by rw [← hP, ← hD]; exact own_getg P D (y :: R) Sf x) (g := (mkF m 77 #[.val (.ref ob), .val (.int ix), .val (.ref ob), .val (.int ix), .val (.int (0 : Int32)), .val (.int (Int32.ofNat bs)), .val (.int (Int32.ofNat bs)), .val (.int (Int32.ofNat k0)), .val (.long cy), .second, .val (.int (Int32.ofNat i)), .val (.long x), .second, s13, s14] [(.int (Int32.ofNat (bs + i))), (.ref wb)])) rfl rfl (hb hby d7_77) _ ?_
      show Steps p.tables e below (T2.setTop (mkF m 78 #[.val (.ref ob), .val (.int ix), .val (.ref ob), .val (.int ix), .val (.int (0 : Int32)), .val (.int (Int32.ofNat bs)), .val (.int (Int32.ofNat bs)), .val (.int (Int32.ofNat k0)), .val (.long cy), .second, .val (.int (Int32.ofNat i)), .val (.long x), .second, s13, s14] [(.long x)])) _
      refine XT.lload X2.here hx rfl (hb hby d7_78) rfl ?_
      show Steps p.tables e below (T2.setTop (mkF m 80 #[.val (.ref ob), .val (.int ix), .val (.ref ob), .val (.int ix), .val (.int (0 : Int32)), .val (.int (Int32.ofNat bs)), .val (.int (Int32.ofNat bs)), .val (.int (Int32.ofNat k0)), .val (.long cy), .second, .val (.int (Int32.ofNat i)), .val (.long x), .second, s13, s14] [(.long x), (.long x)])) _
      refine XT.ladd X2.here hx rfl (hb hby d7_80) rfl ?_
      show Steps p.tables e below (T2.setTop (mkF m 81 #[.val (.ref ob), .val (.int ix), .val (.ref ob), .val (.int ix), .val (.int (0 : Int32)), .val (.int (Int32.ofNat bs)), .val (.int (Int32.ofNat bs)), .val (.int (Int32.ofNat k0)), .val (.long cy), .second, .val (.int (Int32.ofNat i)), .val (.long x), .second, s13, s14] [(.long (x + x))])) _
      refine XT.lload X2.here hx rfl (hb hby d7_81) rfl ?_
      show Steps p.tables e below (T2.setTop (mkF m 83 #[.val (.ref ob), .val (.int ix), .val (.ref ob), .val (.int ix), .val (.int (0 : Int32)), .val (.int (Int32.ofNat bs)), .val (.int (Int32.ofNat bs)), .val (.int (Int32.ofNat k0)), .val (.long cy), .second, .val (.int (Int32.ofNat i)), .val (.long x), .second, s13, s14] [(.long cy), (.long (x + x))])) _
      refine XT.ladd X2.here hx rfl (hb hby d7_83) rfl ?_
      show Steps p.tables e below (T2.setTop (mkF m 84 #[.val (.ref ob), .val (.int ix), .val (.ref ob), .val (.int ix), .val (.int (0 : Int32)), .val (.int (Int32.ofNat bs)), .val (.int (Int32.ofNat bs)), .val (.int (Int32.ofNat k0)), .val (.long cy), .second, .val (.int (Int32.ofNat i)), .val (.long x), .second, s13, s14] [(.long ((x + x) + cy))])) _
      refine XT.lstore X2.here hx rfl (hb hby d7_84) rfl (l' := #[.val (.ref ob), .val (.int ix), .val (.ref ob), .val (.int ix), .val (.int (0 : Int32)), .val (.int (Int32.ofNat bs)), .val (.int (Int32.ofNat bs)), .val (.int (Int32.ofNat k0)), .val (.long cy), .second, .val (.int (Int32.ofNat i)), .val (.long x), .second, .val (.long ((x + x) + cy)), .second]) (own_sto13 h13) ?_
      show Steps p.tables e below (T2.setTop (mkF m 86 #[.val (.ref ob), .val (.int ix), .val (.ref ob), .val (.int ix), .val (.int (0 : Int32)), .val (.int (Int32.ofNat bs)), .val (.int (Int32.ofNat bs)), .val (.int (Int32.ofNat k0)), .val (.long cy), .second, .val (.int (Int32.ofNat i)), .val (.long x), .second, .val (.long ((x + x) + cy)), .second] [])) _
      refine XT.lload X2.here hx rfl (hb hby d7_86) rfl ?_
      show Steps p.tables e below (T2.setTop (mkF m 88 #[.val (.ref ob), .val (.int ix), .val (.ref ob), .val (.int ix), .val (.int (0 : Int32)), .val (.int (Int32.ofNat bs)), .val (.int (Int32.ofNat bs)), .val (.int (Int32.ofNat k0)), .val (.long cy), .second, .val (.int (Int32.ofNat i)), .val (.long x), .second, .val (.long ((x + x) + cy)), .second] [(.long ((x + x) + cy))])) _
      refine XS.bipush X2.here hx rfl (hb hby d7_88) ?_
      show Steps p.tables e below (T2.setTop (mkF m 90 #[.val (.ref ob), .val (.int ix), .val (.ref ob), .val (.int ix), .val (.int (0 : Int32)), .val (.int (Int32.ofNat bs)), .val (.int (Int32.ofNat bs)), .val (.int (Int32.ofNat k0)), .val (.long cy), .second, .val (.int (Int32.ofNat i)), .val (.long x), .second, .val (.long ((x + x) + cy)), .second] [(.int (62 : Int32)), (.long ((x + x) + cy))])) _
      refine XT.lshr X2.here hx rfl (hb hby d7_90) rfl ?_
      show Steps p.tables e below (T2.setTop (mkF m 91 #[.val (.ref ob), .val (.int ix), .val (.ref ob), .val (.int ix), .val (.int (0 : Int32)), .val (.int (Int32.ofNat bs)), .val (.int (Int32.ofNat bs)), .val (.int (Int32.ofNat k0)), .val (.long cy), .second, .val (.int (Int32.ofNat i)), .val (.long x), .second, .val (.long ((x + x) + cy)), .second] [(.long (((x + x) + cy) >>> ((62 : Int32).toInt64 &&& 63)))])) _
      refine XT.lstore X2.here hx rfl (hb hby d7_91) rfl (l' := #[.val (.ref ob), .val (.int ix), .val (.ref ob), .val (.int ix), .val (.int (0 : Int32)), .val (.int (Int32.ofNat bs)), .val (.int (Int32.ofNat bs)), .val (.int (Int32.ofNat k0)), .val (.long (((x + x) + cy) >>> ((62 : Int32).toInt64 &&& 63))), .second, .val (.int (Int32.ofNat i)), .val (.long x), .second, .val (.long ((x + x) + cy)), .second]) rfl ?_
      show Steps p.tables e below (T2.setTop (mkF m 93 #[.val (.ref ob), .val (.int ix), .val (.ref ob), .val (.int ix), .val (.int (0 : Int32)), .val (.int (Int32.ofNat bs)), .val (.int (Int32.ofNat bs)), .val (.int (Int32.ofNat k0)), .val (.long (((x + x) + cy) >>> ((62 : Int32).toInt64 &&& 63))), .second, .val (.int (Int32.ofNat i)), .val (.long x), .second, .val (.long ((x + x) + cy)), .second] [])) _
      refine XS.aloadN X2.here hx rfl (hb hby d7_93) rfl rfl ?_
      exact uK
    obtain ⟨T3, X3, e3, st3⟩ := getF X2 hx hZ hown (host := "") (Or.inl (hw _ (List.mem_of_getElem? (i := 12) rfl))) Via.refl e2 (O).2.2.1 (g := (mkF m 94 #[.val (.ref ob), .val (.int ix), .val (.ref ob), .val (.int ix), .val (.int (0 : Int32)), .val (.int (Int32.ofNat bs)), .val (.int (Int32.ofNat bs)), .val (.int (Int32.ofNat k0)), .val (.long (((x + x) + cy) >>> ((62 : Int32).toInt64 &&& 63))), .second, .val (.int (Int32.ofNat i)), .val (.long x), .second, .val (.long ((x + x) + cy)), .second] [(.ref ob)])) rfl rfl (hb hby d7_94)
    refine own_st st3 ?_
    show OwnGo p e below s _ _ _ T3 (mkF m 97 #[.val (.ref ob), .val (.int ix), .val (.ref ob), .val (.int ix), .val (.int (0 : Int32)), .val (.int (Int32.ofNat bs)), .val (.int (Int32.ofNat bs)), .val (.int (Int32.ofNat k0)), .val (.long (((x + x) + cy) >>> ((62 : Int32).toInt64 &&& 63))), .second, .val (.int (Int32.ofNat i)), .val (.long x), .second, .val (.long ((x + x) + cy)), .second] [(.ref wb)])
    refine own_st (T' := T3) (g' := (mkF m 102 #[.val (.ref ob), .val (.int ix), .val (.ref ob), .val (.int ix), .val (.int (0 : Int32)), .val (.int (Int32.ofNat bs)), .val (.int (Int32.ofNat bs)), .val (.int (Int32.ofNat k0)), .val (.long (((x + x) + cy) >>> ((62 : Int32).toInt64 &&& 63))), .second, .val (.int (Int32.ofNat i)), .val (.long x), .second, .val (.long ((x + x) + cy)), .second] [(.int ((Int32.ofNat bs) + (Int32.ofNat i))), (.ref wb)])) (fun uT uK => ?_) ?_
    · show Steps p.tables e below (T3.setTop (mkF m 97 #[.val (.ref ob), .val (.int ix), .val (.ref ob), .val (.int ix), .val (.int (0 : Int32)), .val (.int (Int32.ofNat bs)), .val (.int (Int32.ofNat bs)), .val (.int (Int32.ofNat k0)), .val (.long (((x + x) + cy) >>> ((62 : Int32).toInt64 &&& 63))), .second, .val (.int (Int32.ofNat i)), .val (.long x), .second, .val (.long ((x + x) + cy)), .second] [(.ref wb)])) _
      refine XS.iload X3.here hx rfl (hb hby d7_97) rfl ?_
      show Steps p.tables e below (T3.setTop (mkF m 99 #[.val (.ref ob), .val (.int ix), .val (.ref ob), .val (.int ix), .val (.int (0 : Int32)), .val (.int (Int32.ofNat bs)), .val (.int (Int32.ofNat bs)), .val (.int (Int32.ofNat k0)), .val (.long (((x + x) + cy) >>> ((62 : Int32).toInt64 &&& 63))), .second, .val (.int (Int32.ofNat i)), .val (.long x), .second, .val (.long ((x + x) + cy)), .second] [(.int (Int32.ofNat bs)), (.ref wb)])) _
      refine XS.iload X3.here hx rfl (hb hby d7_99) rfl ?_
      show Steps p.tables e below (T3.setTop (mkF m 101 #[.val (.ref ob), .val (.int ix), .val (.ref ob), .val (.int ix), .val (.int (0 : Int32)), .val (.int (Int32.ofNat bs)), .val (.int (Int32.ofNat bs)), .val (.int (Int32.ofNat k0)), .val (.long (((x + x) + cy) >>> ((62 : Int32).toInt64 &&& 63))), .second, .val (.int (Int32.ofNat i)), .val (.long x), .second, .val (.long ((x + x) + cy)), .second] [(.int (Int32.ofNat i)), (.int (Int32.ofNat bs)), (.ref wb)])) _
      refine XS.iadd X3.here hx rfl (hb hby d7_101) rfl ?_
      exact uK
    rw [own_addN bs i]
    show OwnGo p e below s _ _ _ T3 (mkF m 102 #[.val (.ref ob), .val (.int ix), .val (.ref ob), .val (.int ix), .val (.int (0 : Int32)), .val (.int (Int32.ofNat bs)), .val (.int (Int32.ofNat bs)), .val (.int (Int32.ofNat k0)), .val (.long (((x + x) + cy) >>> ((62 : Int32).toInt64 &&& 63))), .second, .val (.int (Int32.ofNat i)), .val (.long x), .second, .val (.long ((x + x) + cy)), .second] [(.int (Int32.ofNat (bs + i))), (.ref wb)])
    refine own_st (T' := T3) (g' := (mkF m 108 #[.val (.ref ob), .val (.int ix), .val (.ref ob), .val (.int ix), .val (.int (0 : Int32)), .val (.int (Int32.ofNat bs)), .val (.int (Int32.ofNat bs)), .val (.int (Int32.ofNat k0)), .val (.long (((x + x) + cy) >>> ((62 : Int32).toInt64 &&& 63))), .second, .val (.int (Int32.ofNat i)), .val (.long x), .second, .val (.long ((x + x) + cy)), .second] [(.long (((x + x) + cy) &&& (4611686018427387903 : Int64))), (.int (Int32.ofNat (bs + i))), (.ref wb)])) (fun uT uK => ?_) ?_
    · show Steps p.tables e below (T3.setTop (mkF m 102 #[.val (.ref ob), .val (.int ix), .val (.ref ob), .val (.int ix), .val (.int (0 : Int32)), .val (.int (Int32.ofNat bs)), .val (.int (Int32.ofNat bs)), .val (.int (Int32.ofNat k0)), .val (.long (((x + x) + cy) >>> ((62 : Int32).toInt64 &&& 63))), .second, .val (.int (Int32.ofNat i)), .val (.long x), .second, .val (.long ((x + x) + cy)), .second] [(.int (Int32.ofNat (bs + i))), (.ref wb)])) _
      refine XT.lload X3.here hx rfl (hb hby d7_102) rfl ?_
      show Steps p.tables e below (T3.setTop (mkF m 104 #[.val (.ref ob), .val (.int ix), .val (.ref ob), .val (.int ix), .val (.int (0 : Int32)), .val (.int (Int32.ofNat bs)), .val (.int (Int32.ofNat bs)), .val (.int (Int32.ofNat k0)), .val (.long (((x + x) + cy) >>> ((62 : Int32).toInt64 &&& 63))), .second, .val (.int (Int32.ofNat i)), .val (.long x), .second, .val (.long ((x + x) + cy)), .second] [(.long ((x + x) + cy)), (.int (Int32.ofNat (bs + i))), (.ref wb)])) _
      refine X3.ldc2Long hx hown (mvT hZ (hw _ (List.mem_of_getElem? (i := 34) rfl))) (g := (mkF m 104 #[.val (.ref ob), .val (.int ix), .val (.ref ob), .val (.int ix), .val (.int (0 : Int32)), .val (.int (Int32.ofNat bs)), .val (.int (Int32.ofNat bs)), .val (.int (Int32.ofNat k0)), .val (.long (((x + x) + cy) >>> ((62 : Int32).toInt64 &&& 63))), .second, .val (.int (Int32.ofNat i)), .val (.long x), .second, .val (.long ((x + x) + cy)), .second] [(.long ((x + x) + cy)), (.int (Int32.ofNat (bs + i))), (.ref wb)])) rfl (hb hby d7_104) _ ?_
      show Steps p.tables e below (T3.setTop (mkF m 107 #[.val (.ref ob), .val (.int ix), .val (.ref ob), .val (.int ix), .val (.int (0 : Int32)), .val (.int (Int32.ofNat bs)), .val (.int (Int32.ofNat bs)), .val (.int (Int32.ofNat k0)), .val (.long (((x + x) + cy) >>> ((62 : Int32).toInt64 &&& 63))), .second, .val (.int (Int32.ofNat i)), .val (.long x), .second, .val (.long ((x + x) + cy)), .second] [(.long (4611686018427387903 : Int64)), (.long ((x + x) + cy)), (.int (Int32.ofNat (bs + i))), (.ref wb)])) _
      refine XT.land X3.here hx rfl (hb hby d7_107) rfl ?_
      exact uK
    obtain ⟨T4, h4, locs4, X4, e4, O4, N4, Kw4, st4⟩ := own_stJ X3 hx hZ e3 (O) (j := bs + i) (by rw [← hP, ← hD]; exact own_leng P D (y :: R) Sf x) (us := P ++ (D ++ (((x + x) + cy) &&& (4611686018427387903 : Int64)) :: y :: R) ++ Sf) (by rw [← hP, ← hD]; exact own_setg P D (y :: R) Sf x _) N g_w (g := (mkF m 108 #[.val (.ref ob), .val (.int ix), .val (.ref ob), .val (.int ix), .val (.int (0 : Int32)), .val (.int (Int32.ofNat bs)), .val (.int (Int32.ofNat bs)), .val (.int (Int32.ofNat k0)), .val (.long (((x + x) + cy) >>> ((62 : Int32).toInt64 &&& 63))), .second, .val (.int (Int32.ofNat i)), .val (.long x), .second, .val (.long ((x + x) + cy)), .second] [(.long (((x + x) + cy) &&& (4611686018427387903 : Int64))), (.int (Int32.ofNat (bs + i))), (.ref wb)])) rfl rfl (hb hby d7_108)
    have Ka4 : Keep h0 h4 [wb] := (Kp).trans Kw4 (allS (Or.inl (List.mem_of_getElem? (i := 0) rfl)) all0)
    refine own_st st4 ?_
    show OwnGo p e below s _ _ _ T4 (mkF m 109 #[.val (.ref ob), .val (.int ix), .val (.ref ob), .val (.int ix), .val (.int (0 : Int32)), .val (.int (Int32.ofNat bs)), .val (.int (Int32.ofNat bs)), .val (.int (Int32.ofNat k0)), .val (.long (((x + x) + cy) >>> ((62 : Int32).toInt64 &&& 63))), .second, .val (.int (Int32.ofNat i)), .val (.long x), .second, .val (.long ((x + x) + cy)), .second] [])
    refine own_st (T' := T4) (g' := (mkF m 30 #[.val (.ref ob), .val (.int ix), .val (.ref ob), .val (.int ix), .val (.int (0 : Int32)), .val (.int (Int32.ofNat bs)), .val (.int (Int32.ofNat bs)), .val (.int (Int32.ofNat k0)), .val (.long (((x + x) + cy) >>> ((62 : Int32).toInt64 &&& 63))), .second, .val (.int ((Int32.ofNat i) + (1 : Int32))), .val (.long x), .second, .val (.long ((x + x) + cy)), .second] [])) (fun uT uK => ?_) ?_
    · show Steps p.tables e below (T4.setTop (mkF m 109 #[.val (.ref ob), .val (.int ix), .val (.ref ob), .val (.int ix), .val (.int (0 : Int32)), .val (.int (Int32.ofNat bs)), .val (.int (Int32.ofNat bs)), .val (.int (Int32.ofNat k0)), .val (.long (((x + x) + cy) >>> ((62 : Int32).toInt64 &&& 63))), .second, .val (.int (Int32.ofNat i)), .val (.long x), .second, .val (.long ((x + x) + cy)), .second] [])) _
      refine XS.iinc X4.here hx rfl (hb hby d7_109) rfl (l' := #[.val (.ref ob), .val (.int ix), .val (.ref ob), .val (.int ix), .val (.int (0 : Int32)), .val (.int (Int32.ofNat bs)), .val (.int (Int32.ofNat bs)), .val (.int (Int32.ofNat k0)), .val (.long (((x + x) + cy) >>> ((62 : Int32).toInt64 &&& 63))), .second, .val (.int ((Int32.ofNat i) + (1 : Int32))), .val (.long x), .second, .val (.long ((x + x) + cy)), .second]) rfl ?_
      show Steps p.tables e below (T4.setTop (mkF m 112 #[.val (.ref ob), .val (.int ix), .val (.ref ob), .val (.int ix), .val (.int (0 : Int32)), .val (.int (Int32.ofNat bs)), .val (.int (Int32.ofNat bs)), .val (.int (Int32.ofNat k0)), .val (.long (((x + x) + cy) >>> ((62 : Int32).toInt64 &&& 63))), .second, .val (.int ((Int32.ofNat i) + (1 : Int32))), .val (.long x), .second, .val (.long ((x + x) + cy)), .second] [])) _
      refine XS.goto X4.here hx rfl (pc0 := 112) (pc' := 30) rfl (hb hby d7_112) (by decide) (by decide) ?_
      exact uK
    rw [own_i1 i]
    exact ih (i + 1) (D ++ [(((x + x) + cy) &&& (4611686018427387903 : Int64))]) y (((x + x) + cy) >>> ((62 : Int32).toInt64 &&& 63)) _ _ _ _ T4 h4 locs4 (by simp at hi; omega) (by rw [List.length_append, hD]; rfl) (Or.inr ⟨_, rfl, rfl⟩) (Or.inr ⟨_, rfl, rfl⟩) X4 e4 N4 Ka4 (by have q := O4; rw [List.append_cons] at q; exact q) hok (by rw [← hF, List.append_assoc]; rfl)
theorem own_ef_rm7 (m : MethodId) (x0 : Addr) (x1 : Int32) (x2 : Addr) (x3 : Int32) (x4 : Int32) : entryFrame m #[(.ref x0), (.int x1), (.ref x2), (.int x3), (.int x4)] 15 = mkF m 0 #[.val (.ref x0), .val (.int x1), .val (.ref x2), .val (.int x3), .val (.int x4), .unset, .unset, .unset, .unset, .unset, .unset, .unset, .unset, .unset, .unset] [] := by first | (simp [entryFrame, mkF, argsToLocals, Value.category]; done) | rfl
set_option maxRecDepth 65536 in
set_option maxHeartbeats 40000000 in
theorem rm7 (l : Launch) (Z : State) (a0 : Array Value) (hw : ∀ d ∈ tables_1, d.before a0 Z = true) (ws : List Jvm.Cond) (ob : Addr) (wb : Addr) (kc : ClassId) (k0 : Nat) (P : List Int64) (Sf : List Int64) (F : List Int64) (ix : Int32) (bs : Nat) (x : Int64) (R : List Int64) (h0 : Heap) (n0 : Nat) (Z0 : n0 ≤ h0.size) (hk0 : k0 ≤ 3) (hP : P.length = bs) (hR : R.length = k0) (hix : ix * Int32.ofNat (k0 + 1) = Int32.ofNat bs) (g_w : n0 ≤ wb) (O : own_w Z h0 ob wb kc k0 (P ++ (x :: R) ++ Sf)) (hok : own_dbok x R 0) (hF : own_db x R 0 = F) :
    MetFree l (⟨"com/example/matchwright/matchwright/service/matching/WideArray", "add", "(ILcom/example/matchwright/matchwright/service/matching/WideArray;IZ)V"⟩ : MethodName) (head1 (Jvm.Cond.code (⟨"com/example/matchwright/matchwright/service/matching/WideArray", "add", "(ILcom/example/matchwright/matchwright/service/matching/WideArray;IZ)V"⟩ : MethodName) prog_131_method_11_code 15 none :: ws) ({ frames := 1, cells := 0, slots := 0, locals := 19 } : Room)) (fun aQ UQ => aQ = #[(.ref ob), (.int ix), (.ref ob), (.int ix), (.int (0 : Int32))] ∧ Z.Warmed39 UQ.vm ∧ UQ.heap = h0) (fun _ _ _ _ _ => True) (fun _ UQ oQ UR => ∃ vQ LQ, oQ = .returned vQ ∧ Q7 Z ob wb kc k0 P Sf F ix bs x R h0 n0 vQ UR.heap LQ ∧ FrameEnd UQ oQ UR LQ ({ frames := 1, cells := 0, slots := 0, locals := 19 } : Room).cells ({ frames := 1, cells := 0, slots := 0, locals := 19 } : Room).slots) := by
  refine MetFree.of_bodySF (plainFor_of_name pn_7) hisR ?_
  intro p e s m args below meth c s₁ Bd hml0 hP hK
  obtain ⟨rfl, hZ, hh⟩ := hP
  have hx := Bd.exec
  have hby := Bd.bytes
  have hml : c.maxLocals = 15 := hml0
  have hown : s.vm.findClass "com/example/matchwright/matchwright/service/matching/WideArray" = some m.cls := findClass_of_methodNamed Bd.named
  have hnm := (name_of_methodNamed Bd.named Bd.method).1
  have hret := Bd.returns
  have hlk : meth.locks = false := Bd.notSynchronized
  have X0 : Stand p l e ({ frames := 1, cells := 0, slots := 0, locals := 19 } : Room) s m #[(.ref ob), (.int ix), (.ref ob), (.int ix), (.int (0 : Int32))] below meth c s₁ [] 0 0 := Stand.of_body Bd
  have e0 : s₁.heap = h0 := by rw [← hh, Bd.state]; rfl
  have N0 := Fr.nil n0
  have K : Ctx7 p s m meth c Z a0 := ⟨hx, hZ, hw, hby, hml, hown, hret, hlk, hnm⟩
  show OwnGo p e below s ({ frames := 1, cells := 0, slots := 0, locals := 19 } : Room).cells ({ frames := 1, cells := 0, slots := 0, locals := 19 } : Room).slots (Q7 Z ob wb kc k0 P Sf F ix bs x R h0 n0) s₁ (entryFrame m #[(.ref ob), (.int ix), (.ref ob), (.int ix), (.int (0 : Int32))] 15)
  refine own_cast (own_ef_rm7 m ob ix ob ix (0 : Int32)) ?_
  show OwnGo p e below s _ _ _ s₁ (mkF m 0 #[.val (.ref ob), .val (.int ix), .val (.ref ob), .val (.int ix), .val (.int (0 : Int32)), .unset, .unset, .unset, .unset, .unset, .unset, .unset, .unset, .unset, .unset] [])
  refine own_st (T' := s₁) (g' := (mkF m 2 #[.val (.ref ob), .val (.int ix), .val (.ref ob), .val (.int ix), .val (.int (0 : Int32)), .unset, .unset, .unset, .unset, .unset, .unset, .unset, .unset, .unset, .unset] [(.ref ob), (.int ix)])) (fun uT uK => ?_) ?_
  · show Steps p.tables e below (s₁.setTop (mkF m 0 #[.val (.ref ob), .val (.int ix), .val (.ref ob), .val (.int ix), .val (.int (0 : Int32)), .unset, .unset, .unset, .unset, .unset, .unset, .unset, .unset, .unset, .unset] [])) _
    refine XS.iloadN X0.here hx rfl (hb hby d7_0) rfl ?_
    show Steps p.tables e below (s₁.setTop (mkF m 1 #[.val (.ref ob), .val (.int ix), .val (.ref ob), .val (.int ix), .val (.int (0 : Int32)), .unset, .unset, .unset, .unset, .unset, .unset, .unset, .unset, .unset, .unset] [(.int ix)])) _
    refine XS.aloadN X0.here hx rfl (hb hby d7_1) rfl rfl ?_
    exact uK
  obtain ⟨T1, X1, e1, st1⟩ := getF X0 hx hZ hown (host := "") (Or.inl (hw _ (List.mem_of_getElem? (i := 9) rfl))) Via.refl e0 (O).2.1 (g := (mkF m 2 #[.val (.ref ob), .val (.int ix), .val (.ref ob), .val (.int ix), .val (.int (0 : Int32)), .unset, .unset, .unset, .unset, .unset, .unset, .unset, .unset, .unset, .unset] [(.ref ob), (.int ix)])) rfl rfl (hb hby d7_2)
  refine own_st st1 ?_
  show OwnGo p e below s _ _ _ T1 (mkF m 5 #[.val (.ref ob), .val (.int ix), .val (.ref ob), .val (.int ix), .val (.int (0 : Int32)), .unset, .unset, .unset, .unset, .unset, .unset, .unset, .unset, .unset, .unset] [(.int (Int32.ofNat (k0 + 1))), (.int ix)])
  refine own_st (T' := T1) (g' := (mkF m 6 #[.val (.ref ob), .val (.int ix), .val (.ref ob), .val (.int ix), .val (.int (0 : Int32)), .unset, .unset, .unset, .unset, .unset, .unset, .unset, .unset, .unset, .unset] [(.int (ix * (Int32.ofNat (k0 + 1))))])) (fun uT uK => ?_) ?_
  · show Steps p.tables e below (T1.setTop (mkF m 5 #[.val (.ref ob), .val (.int ix), .val (.ref ob), .val (.int ix), .val (.int (0 : Int32)), .unset, .unset, .unset, .unset, .unset, .unset, .unset, .unset, .unset, .unset] [(.int (Int32.ofNat (k0 + 1))), (.int ix)])) _
    refine XS.imul X1.here hx rfl (hb hby d7_5) rfl ?_
    exact uK
  rw [hix]
  show OwnGo p e below s _ _ _ T1 (mkF m 6 #[.val (.ref ob), .val (.int ix), .val (.ref ob), .val (.int ix), .val (.int (0 : Int32)), .unset, .unset, .unset, .unset, .unset, .unset, .unset, .unset, .unset, .unset] [(.int (Int32.ofNat bs))])
  refine own_st (T' := T1) (g' := (mkF m 10 #[.val (.ref ob), .val (.int ix), .val (.ref ob), .val (.int ix), .val (.int (0 : Int32)), .val (.int (Int32.ofNat bs)), .unset, .unset, .unset, .unset, .unset, .unset, .unset, .unset, .unset] [(.ref ob), (.int ix)])) (fun uT uK => ?_) ?_
  · show Steps p.tables e below (T1.setTop (mkF m 6 #[.val (.ref ob), .val (.int ix), .val (.ref ob), .val (.int ix), .val (.int (0 : Int32)), .unset, .unset, .unset, .unset, .unset, .unset, .unset, .unset, .unset, .unset] [(.int (Int32.ofNat bs))])) _
    refine XS.istore X1.here hx rfl (hb hby d7_6) rfl (l' := #[.val (.ref ob), .val (.int ix), .val (.ref ob), .val (.int ix), .val (.int (0 : Int32)), .val (.int (Int32.ofNat bs)), .unset, .unset, .unset, .unset, .unset, .unset, .unset, .unset, .unset]) rfl ?_
    show Steps p.tables e below (T1.setTop (mkF m 8 #[.val (.ref ob), .val (.int ix), .val (.ref ob), .val (.int ix), .val (.int (0 : Int32)), .val (.int (Int32.ofNat bs)), .unset, .unset, .unset, .unset, .unset, .unset, .unset, .unset, .unset] [])) _
    refine XS.iloadN X1.here hx rfl (hb hby d7_8) rfl ?_
    show Steps p.tables e below (T1.setTop (mkF m 9 #[.val (.ref ob), .val (.int ix), .val (.ref ob), .val (.int ix), .val (.int (0 : Int32)), .val (.int (Int32.ofNat bs)), .unset, .unset, .unset, .unset, .unset, .unset, .unset, .unset, .unset] [(.int ix)])) _
    refine XS.aloadN X1.here hx rfl (hb hby d7_9) rfl rfl ?_
    exact uK
  obtain ⟨T2, X2, e2, st2⟩ := getF X1 hx hZ hown (host := "") (Or.inl (hw _ (List.mem_of_getElem? (i := 9) rfl))) Via.refl e1 (O).2.1 (g := (mkF m 10 #[.val (.ref ob), .val (.int ix), .val (.ref ob), .val (.int ix), .val (.int (0 : Int32)), .val (.int (Int32.ofNat bs)), .unset, .unset, .unset, .unset, .unset, .unset, .unset, .unset, .unset] [(.ref ob), (.int ix)])) rfl rfl (hb hby d7_10)
  refine own_st st2 ?_
  show OwnGo p e below s _ _ _ T2 (mkF m 13 #[.val (.ref ob), .val (.int ix), .val (.ref ob), .val (.int ix), .val (.int (0 : Int32)), .val (.int (Int32.ofNat bs)), .unset, .unset, .unset, .unset, .unset, .unset, .unset, .unset, .unset] [(.int (Int32.ofNat (k0 + 1))), (.int ix)])
  refine own_st (T' := T2) (g' := (mkF m 14 #[.val (.ref ob), .val (.int ix), .val (.ref ob), .val (.int ix), .val (.int (0 : Int32)), .val (.int (Int32.ofNat bs)), .unset, .unset, .unset, .unset, .unset, .unset, .unset, .unset, .unset] [(.int (ix * (Int32.ofNat (k0 + 1))))])) (fun uT uK => ?_) ?_
  · show Steps p.tables e below (T2.setTop (mkF m 13 #[.val (.ref ob), .val (.int ix), .val (.ref ob), .val (.int ix), .val (.int (0 : Int32)), .val (.int (Int32.ofNat bs)), .unset, .unset, .unset, .unset, .unset, .unset, .unset, .unset, .unset] [(.int (Int32.ofNat (k0 + 1))), (.int ix)])) _
    refine XS.imul X2.here hx rfl (hb hby d7_13) rfl ?_
    exact uK
  rw [hix]
  show OwnGo p e below s _ _ _ T2 (mkF m 14 #[.val (.ref ob), .val (.int ix), .val (.ref ob), .val (.int ix), .val (.int (0 : Int32)), .val (.int (Int32.ofNat bs)), .unset, .unset, .unset, .unset, .unset, .unset, .unset, .unset, .unset] [(.int (Int32.ofNat bs))])
  refine own_st (T' := T2) (g' := (mkF m 17 #[.val (.ref ob), .val (.int ix), .val (.ref ob), .val (.int ix), .val (.int (0 : Int32)), .val (.int (Int32.ofNat bs)), .val (.int (Int32.ofNat bs)), .unset, .unset, .unset, .unset, .unset, .unset, .unset, .unset] [(.ref ob)])) (fun uT uK => ?_) ?_
  · show Steps p.tables e below (T2.setTop (mkF m 14 #[.val (.ref ob), .val (.int ix), .val (.ref ob), .val (.int ix), .val (.int (0 : Int32)), .val (.int (Int32.ofNat bs)), .unset, .unset, .unset, .unset, .unset, .unset, .unset, .unset, .unset] [(.int (Int32.ofNat bs))])) _
    refine XS.istore X2.here hx rfl (hb hby d7_14) rfl (l' := #[.val (.ref ob), .val (.int ix), .val (.ref ob), .val (.int ix), .val (.int (0 : Int32)), .val (.int (Int32.ofNat bs)), .val (.int (Int32.ofNat bs)), .unset, .unset, .unset, .unset, .unset, .unset, .unset, .unset]) rfl ?_
    show Steps p.tables e below (T2.setTop (mkF m 16 #[.val (.ref ob), .val (.int ix), .val (.ref ob), .val (.int ix), .val (.int (0 : Int32)), .val (.int (Int32.ofNat bs)), .val (.int (Int32.ofNat bs)), .unset, .unset, .unset, .unset, .unset, .unset, .unset, .unset] [])) _
    refine XS.aloadN X2.here hx rfl (hb hby d7_16) rfl rfl ?_
    exact uK
  obtain ⟨T3, X3, e3, st3⟩ := getF X2 hx hZ hown (host := "") (Or.inl (hw _ (List.mem_of_getElem? (i := 9) rfl))) Via.refl e2 (O).2.1 (g := (mkF m 17 #[.val (.ref ob), .val (.int ix), .val (.ref ob), .val (.int ix), .val (.int (0 : Int32)), .val (.int (Int32.ofNat bs)), .val (.int (Int32.ofNat bs)), .unset, .unset, .unset, .unset, .unset, .unset, .unset, .unset] [(.ref ob)])) rfl rfl (hb hby d7_17)
  refine own_st st3 ?_
  show OwnGo p e below s _ _ _ T3 (mkF m 20 #[.val (.ref ob), .val (.int ix), .val (.ref ob), .val (.int ix), .val (.int (0 : Int32)), .val (.int (Int32.ofNat bs)), .val (.int (Int32.ofNat bs)), .unset, .unset, .unset, .unset, .unset, .unset, .unset, .unset] [(.int (Int32.ofNat (k0 + 1)))])
  refine own_st (T' := T3) (g' := (mkF m 22 #[.val (.ref ob), .val (.int ix), .val (.ref ob), .val (.int ix), .val (.int (0 : Int32)), .val (.int (Int32.ofNat bs)), .val (.int (Int32.ofNat bs)), .unset, .unset, .unset, .unset, .unset, .unset, .unset, .unset] [(.int ((Int32.ofNat (k0 + 1)) - (1 : Int32)))])) (fun uT uK => ?_) ?_
  · show Steps p.tables e below (T3.setTop (mkF m 20 #[.val (.ref ob), .val (.int ix), .val (.ref ob), .val (.int ix), .val (.int (0 : Int32)), .val (.int (Int32.ofNat bs)), .val (.int (Int32.ofNat bs)), .unset, .unset, .unset, .unset, .unset, .unset, .unset, .unset] [(.int (Int32.ofNat (k0 + 1)))])) _
    refine XS.iconst X3.here hx rfl (hb hby d7_20) ?_
    show Steps p.tables e below (T3.setTop (mkF m 21 #[.val (.ref ob), .val (.int ix), .val (.ref ob), .val (.int ix), .val (.int (0 : Int32)), .val (.int (Int32.ofNat bs)), .val (.int (Int32.ofNat bs)), .unset, .unset, .unset, .unset, .unset, .unset, .unset, .unset] [(.int (1 : Int32)), (.int (Int32.ofNat (k0 + 1)))])) _
    refine XS.isub X3.here hx rfl (hb hby d7_21) rfl ?_
    exact uK
  rw [own_pred k0]
  show OwnGo p e below s _ _ _ T3 (mkF m 22 #[.val (.ref ob), .val (.int ix), .val (.ref ob), .val (.int ix), .val (.int (0 : Int32)), .val (.int (Int32.ofNat bs)), .val (.int (Int32.ofNat bs)), .unset, .unset, .unset, .unset, .unset, .unset, .unset, .unset] [(.int (Int32.ofNat k0))])
  refine own_st (T' := T3) (g' := (mkF m 30 #[.val (.ref ob), .val (.int ix), .val (.ref ob), .val (.int ix), .val (.int (0 : Int32)), .val (.int (Int32.ofNat bs)), .val (.int (Int32.ofNat bs)), .val (.int (Int32.ofNat k0)), .val (.long (0 : Int64)), .second, .val (.int (0 : Int32)), .unset, .unset, .unset, .unset] [])) (fun uT uK => ?_) ?_
  · show Steps p.tables e below (T3.setTop (mkF m 22 #[.val (.ref ob), .val (.int ix), .val (.ref ob), .val (.int ix), .val (.int (0 : Int32)), .val (.int (Int32.ofNat bs)), .val (.int (Int32.ofNat bs)), .unset, .unset, .unset, .unset, .unset, .unset, .unset, .unset] [(.int (Int32.ofNat k0))])) _
    refine XS.istore X3.here hx rfl (hb hby d7_22) rfl (l' := #[.val (.ref ob), .val (.int ix), .val (.ref ob), .val (.int ix), .val (.int (0 : Int32)), .val (.int (Int32.ofNat bs)), .val (.int (Int32.ofNat bs)), .val (.int (Int32.ofNat k0)), .unset, .unset, .unset, .unset, .unset, .unset, .unset]) rfl ?_
    show Steps p.tables e below (T3.setTop (mkF m 24 #[.val (.ref ob), .val (.int ix), .val (.ref ob), .val (.int ix), .val (.int (0 : Int32)), .val (.int (Int32.ofNat bs)), .val (.int (Int32.ofNat bs)), .val (.int (Int32.ofNat k0)), .unset, .unset, .unset, .unset, .unset, .unset, .unset] [])) _
    refine XT.lconst X3.here hx rfl (hb hby d7_24) ?_
    show Steps p.tables e below (T3.setTop (mkF m 25 #[.val (.ref ob), .val (.int ix), .val (.ref ob), .val (.int ix), .val (.int (0 : Int32)), .val (.int (Int32.ofNat bs)), .val (.int (Int32.ofNat bs)), .val (.int (Int32.ofNat k0)), .unset, .unset, .unset, .unset, .unset, .unset, .unset] [(.long (0 : Int64))])) _
    refine XT.lstore X3.here hx rfl (hb hby d7_25) rfl (l' := #[.val (.ref ob), .val (.int ix), .val (.ref ob), .val (.int ix), .val (.int (0 : Int32)), .val (.int (Int32.ofNat bs)), .val (.int (Int32.ofNat bs)), .val (.int (Int32.ofNat k0)), .val (.long (0 : Int64)), .second, .unset, .unset, .unset, .unset, .unset]) rfl ?_
    show Steps p.tables e below (T3.setTop (mkF m 27 #[.val (.ref ob), .val (.int ix), .val (.ref ob), .val (.int ix), .val (.int (0 : Int32)), .val (.int (Int32.ofNat bs)), .val (.int (Int32.ofNat bs)), .val (.int (Int32.ofNat k0)), .val (.long (0 : Int64)), .second, .unset, .unset, .unset, .unset, .unset] [])) _
    refine XS.iconst X3.here hx rfl (hb hby d7_27) ?_
    show Steps p.tables e below (T3.setTop (mkF m 28 #[.val (.ref ob), .val (.int ix), .val (.ref ob), .val (.int ix), .val (.int (0 : Int32)), .val (.int (Int32.ofNat bs)), .val (.int (Int32.ofNat bs)), .val (.int (Int32.ofNat k0)), .val (.long (0 : Int64)), .second, .unset, .unset, .unset, .unset, .unset] [(.int (0 : Int32))])) _
    refine XS.istore X3.here hx rfl (hb hby d7_28) rfl (l' := #[.val (.ref ob), .val (.int ix), .val (.ref ob), .val (.int ix), .val (.int (0 : Int32)), .val (.int (Int32.ofNat bs)), .val (.int (Int32.ofNat bs)), .val (.int (Int32.ofNat k0)), .val (.long (0 : Int64)), .second, .val (.int (0 : Int32)), .unset, .unset, .unset, .unset]) rfl ?_
    exact uK
  exact own_loop7 ob wb kc k0 P Sf F ix bs x R hk0 hP g_w Z0 K R 0 [] x (0 : Int64) .unset .unset .unset .unset T3 h0 [] (by omega) rfl (Or.inl ⟨rfl, rfl⟩) (Or.inl ⟨rfl, rfl⟩) X3 e3 N0 (Keep.refl _ _) O hok hF
def Q0 (Z : State) (q1 : Int64) (q2 : Int64) (p3 : Int32) (h0 : Heap) (n0 : Nat) (v : Option Value) (h : Heap) (L : List Loc) : Prop := v = some (.int 1) ∧ Fr n0 L
set_option maxRecDepth 65536 in
set_option maxHeartbeats 40000000 in
theorem own_t103 {p : Program} {l : Launch} {e : Env} {s : State} {m : MethodId} {args : Array Value} {below : List Frame} {meth : Method} {c : Code} {T : State} {locs : List Loc} {Z : State} {a0 : Array Value} {h : Heap} {n0 : Nat} (q1 q2 : Int64) (p3 : Int32) (k0 : Nat) (dr : Int32) (hf : Int64) (L : List Int64) (x : Int64) (h0 : Heap) (hk0 : k0 ≤ 3) (hL : L.length = k0) (hF : (own_hv L (x &&& (1 : Int64))).reverse ++ [(x >>> ((1 : Int32).toInt64 &&& 63))] = own_limbs k0 hf) (ow ww : Addr) (kw : ClassId) (orr rwb : Addr) (kr : ClassId)
    (K : Ctx0 p s m meth c Z a0) (X : Stand p l e room_1 s m args below meth c T locs 4 20) (eT : T.heap = h) (N : Fr n0 locs) (Z0 : n0 ≤ h.size) (g_ww : n0 ≤ ww) (g_rw : n0 ≤ rwb) (ne1 : ow ≠ rwb) (ne2 : ww ≠ rwb) (ne3 : ww ≠ orr) (O_w : own_w Z h ow ww kw k0 ((own_limbs k0 q2) ++ (L.reverse ++ [x]) ++ [])) (O_r : own_w Z h orr rwb kr k0 ((own_zs k0) ++ (own_zs k0))) :
    OwnGo p e below s room_1.cells room_1.slots (Q0 Z q1 q2 p3 h0 n0) T (mkF m 103 #[.val (.long q1), .second, .val (.long q2), .second, .val (.int p3), .val (.int (Int32.ofNat (k0 + 1))), .val (.int dr), .val (.ref ow), .val (.ref orr), .val (.long hf), .second] []) := by
  obtain ⟨hx, hZ, hw, hby, hml, hown, hret, hlk, hnm⟩ := id K
  refine own_st (T' := T) (g' := (mkF m 106 #[.val (.long q1), .second, .val (.long q2), .second, .val (.int p3), .val (.int (Int32.ofNat (k0 + 1))), .val (.int dr), .val (.ref ow), .val (.ref orr), .val (.long hf), .second] [(.int (1 : Int32)), (.ref ow)])) (fun uT uK => ?_) ?_
  · show Steps p.tables e below (T.setTop (mkF m 103 #[.val (.long q1), .second, .val (.long q2), .second, .val (.int p3), .val (.int (Int32.ofNat (k0 + 1))), .val (.int dr), .val (.ref ow), .val (.ref orr), .val (.long hf), .second] [])) _
    refine XS.aload X.here hx rfl (hb hby at_103) rfl rfl ?_
    show Steps p.tables e below (T.setTop (mkF m 105 #[.val (.long q1), .second, .val (.long q2), .second, .val (.int p3), .val (.int (Int32.ofNat (k0 + 1))), .val (.int dr), .val (.ref ow), .val (.ref orr), .val (.long hf), .second] [(.ref ow)])) _
    refine XS.iconst X.here hx rfl (hb hby at_105) ?_
    exact uK
  obtain ⟨cq1, kq1, qa1, qb1, qc1⟩ := isOf hZ eT ((O_w).1)
  obtain ⟨_, _, ⟨T1, L1, k1, n1⟩, -, X1, ⟨Lc1, hQ1, l1, y1, z1⟩, st1⟩ := X.virtualBack hx (y := (⟨"com/example/matchwright/matchwright/service/matching/WideArray", "halve", "(I)V"⟩ : MethodName)) (z := (⟨"com/example/matchwright/matchwright/service/matching/WideArray", "halve", "(I)V"⟩ : MethodName)) hown (mvT hZ (hw _ (List.mem_of_getElem? (i := 20) rfl))) (mvT hZ (hw _ (List.mem_of_getElem? (i := 21) rfl))) (notFace_of_selects (args := #[]) (mvT hZ (hw _ (List.mem_of_getElem? (i := 23) rfl)))) (mvT hZ (hw _ (List.mem_of_getElem? (i := 23) rfl))) (mvT hZ (hw _ (List.mem_of_getElem? (i := 22) rfl))) (by decide) (backOf (W := 0) (rm4 l Z a0 hw [] ow ww kw k0 (own_limbs k0 q2) [] (own_limbs k0 hf) (1 : Int32) (k0 + 1) L x h n0 Z0 hk0 (own_limbs_len k0 _) hL (own_oneM (k0 + 1)) g_ww O_w hF) hZ (hw _ (List.mem_of_getElem? (i := 24) rfl)) (hw _ (List.mem_of_getElem? (i := 2) rfl)) (by decide) (by decide)) qa1 qc1 (g := (mkF m 106 #[.val (.long q1), .second, .val (.long q2), .second, .val (.int p3), .val (.int (Int32.ofNat (k0 + 1))), .val (.int dr), .val (.ref ow), .val (.ref orr), .val (.long hf), .second] [(.int (1 : Int32)), (.ref ow)])) rfl (by rw [hml]; rfl) (Steps.refl _) (argsL := [(.int (1 : Int32))]) (rest := []) (lenOf own_pd2 rfl) rfl (by show 2 * 0 + _ ≤ _; exact Nat.le_of_eq rfl) (hb hby at_106) (fun _ _ => ⟨rfl, eT, (by decide : 4 + 0 ≤ _), (by decide : 20 + 0 ≤ _)⟩)
  dsimp only [Pt.U, Pt.locs, Pt.cells, Pt.slots] at X1 l1 y1 z1 st1 hQ1
  subst l1 y1 z1
  obtain ⟨rfl, Nq1, Kc1, Oc1⟩ := hQ1
  have N1 := Fr.app N Nq1
  refine own_tr st1 ?_
  show OwnGo p e below s _ _ _ T1 (mkF m 109 #[.val (.long q1), .second, .val (.long q2), .second, .val (.int p3), .val (.int (Int32.ofNat (k0 + 1))), .val (.int dr), .val (.ref ow), .val (.ref orr), .val (.long hf), .second] [])
  have Oc1_orr := own_w_keep (O_r) Kc1 (ninS (Ne.symm ne3) nin0) (ninS (Ne.symm ne2) nin0)
  have Z1 : n0 ≤ T1.heap.size := Nat.le_trans Z0 Kc1.1
  refine own_st (T' := T1) (g' := (mkF m 114 #[.val (.long q1), .second, .val (.long q2), .second, .val (.int p3), .val (.int (Int32.ofNat (k0 + 1))), .val (.int dr), .val (.ref ow), .val (.ref orr), .val (.long hf), .second] [(.long hf), (.int (0 : Int32)), (.ref orr)])) (fun uT uK => ?_) ?_
  · show Steps p.tables e below (T1.setTop (mkF m 109 #[.val (.long q1), .second, .val (.long q2), .second, .val (.int p3), .val (.int (Int32.ofNat (k0 + 1))), .val (.int dr), .val (.ref ow), .val (.ref orr), .val (.long hf), .second] [])) _
    refine XS.aload X1.here hx rfl (hb hby at_109) rfl rfl ?_
    show Steps p.tables e below (T1.setTop (mkF m 111 #[.val (.long q1), .second, .val (.long q2), .second, .val (.int p3), .val (.int (Int32.ofNat (k0 + 1))), .val (.int dr), .val (.ref ow), .val (.ref orr), .val (.long hf), .second] [(.ref orr)])) _
    refine XS.iconst X1.here hx rfl (hb hby at_111) ?_
    show Steps p.tables e below (T1.setTop (mkF m 112 #[.val (.long q1), .second, .val (.long q2), .second, .val (.int p3), .val (.int (Int32.ofNat (k0 + 1))), .val (.int dr), .val (.ref ow), .val (.ref orr), .val (.long hf), .second] [(.int (0 : Int32)), (.ref orr)])) _
    refine XT.lload X1.here hx rfl (hb hby at_112) rfl ?_
    exact uK
  obtain ⟨cq2, kq2, qa2, qb2, qc2⟩ := isOf hZ rfl ((Oc1_orr).1)
  obtain ⟨_, _, ⟨T2, L2, k2, n2⟩, -, X2, ⟨Lc2, hQ2, l2, y2, z2⟩, st2⟩ := X1.virtualBack hx (y := (⟨"com/example/matchwright/matchwright/service/matching/WideArray", "set", "(IJ)V"⟩ : MethodName)) (z := (⟨"com/example/matchwright/matchwright/service/matching/WideArray", "set", "(IJ)V"⟩ : MethodName)) hown (mvT hZ (hw _ (List.mem_of_getElem? (i := 14) rfl))) (mvT hZ (hw _ (List.mem_of_getElem? (i := 15) rfl))) (notFace_of_selects (args := #[]) (mvT hZ (hw _ (List.mem_of_getElem? (i := 17) rfl)))) (mvT hZ (hw _ (List.mem_of_getElem? (i := 17) rfl))) (mvT hZ (hw _ (List.mem_of_getElem? (i := 16) rfl))) (by decide) (backOf (W := 0) (rm3 l Z a0 hw [] orr rwb kr k0 [] (own_zs k0) (own_limbs k0 hf) (0 : Int32) (0) hf T1.heap n0 Z1 (own_zs k0) hk0 rfl (by simp [own_zs]) (own_zeroM (k0 + 1)) g_rw Oc1_orr rfl) hZ (hw _ (List.mem_of_getElem? (i := 18) rfl)) (hw _ (List.mem_of_getElem? (i := 2) rfl)) (by decide) (by decide)) qa2 qc2 (g := (mkF m 114 #[.val (.long q1), .second, .val (.long q2), .second, .val (.int p3), .val (.int (Int32.ofNat (k0 + 1))), .val (.int dr), .val (.ref ow), .val (.ref orr), .val (.long hf), .second] [(.long hf), (.int (0 : Int32)), (.ref orr)])) rfl (by rw [hml]; rfl) (Steps.refl _) (argsL := [(.int (0 : Int32)), (.long hf)]) (rest := []) (lenOf own_pd3 rfl) rfl (by show 2 * 0 + _ ≤ _; exact Nat.le_of_eq rfl) (hb hby at_114) (fun _ _ => ⟨rfl, rfl, (by decide : 4 + 0 ≤ _), (by decide : 20 + 0 ≤ _)⟩)
  dsimp only [Pt.U, Pt.locs, Pt.cells, Pt.slots] at X2 l2 y2 z2 st2 hQ2
  subst l2 y2 z2
  obtain ⟨rfl, Nq2, Kc2, Oc2⟩ := hQ2
  have N2 := Fr.app N1 Nq2
  refine own_tr st2 ?_
  show OwnGo p e below s _ _ _ T2 (mkF m 117 #[.val (.long q1), .second, .val (.long q2), .second, .val (.int p3), .val (.int (Int32.ofNat (k0 + 1))), .val (.int dr), .val (.ref ow), .val (.ref orr), .val (.long hf), .second] [])
  have Oc2_ow := own_w_keep (Oc1) Kc2 (ninS ne1 nin0) (ninS ne2 nin0)
  have Z2 : n0 ≤ T2.heap.size := Nat.le_trans Z1 Kc2.1
  refine own_st (T' := T2) (g' := (mkF m 121 #[.val (.long q1), .second, .val (.long q2), .second, .val (.int p3), .val (.int (Int32.ofNat (k0 + 1))), .val (.int dr), .val (.ref ow), .val (.ref orr), .val (.long hf), .second] [(.long q2), (.int (1 : Int32)), (.ref orr)])) (fun uT uK => ?_) ?_
  · show Steps p.tables e below (T2.setTop (mkF m 117 #[.val (.long q1), .second, .val (.long q2), .second, .val (.int p3), .val (.int (Int32.ofNat (k0 + 1))), .val (.int dr), .val (.ref ow), .val (.ref orr), .val (.long hf), .second] [])) _
    refine XS.aload X2.here hx rfl (hb hby at_117) rfl rfl ?_
    show Steps p.tables e below (T2.setTop (mkF m 119 #[.val (.long q1), .second, .val (.long q2), .second, .val (.int p3), .val (.int (Int32.ofNat (k0 + 1))), .val (.int dr), .val (.ref ow), .val (.ref orr), .val (.long hf), .second] [(.ref orr)])) _
    refine XS.iconst X2.here hx rfl (hb hby at_119) ?_
    show Steps p.tables e below (T2.setTop (mkF m 120 #[.val (.long q1), .second, .val (.long q2), .second, .val (.int p3), .val (.int (Int32.ofNat (k0 + 1))), .val (.int dr), .val (.ref ow), .val (.ref orr), .val (.long hf), .second] [(.int (1 : Int32)), (.ref orr)])) _
    refine XT.lloadN X2.here hx rfl (hb hby at_120) rfl ?_
    exact uK
  obtain ⟨cq3, kq3, qa3, qb3, qc3⟩ := isOf hZ rfl ((Oc2).1)
  obtain ⟨_, _, ⟨T3, L3, k3, n3⟩, -, X3, ⟨Lc3, hQ3, l3, y3, z3⟩, st3⟩ := X2.virtualBack hx (y := (⟨"com/example/matchwright/matchwright/service/matching/WideArray", "set", "(IJ)V"⟩ : MethodName)) (z := (⟨"com/example/matchwright/matchwright/service/matching/WideArray", "set", "(IJ)V"⟩ : MethodName)) hown (mvT hZ (hw _ (List.mem_of_getElem? (i := 14) rfl))) (mvT hZ (hw _ (List.mem_of_getElem? (i := 15) rfl))) (notFace_of_selects (args := #[]) (mvT hZ (hw _ (List.mem_of_getElem? (i := 17) rfl)))) (mvT hZ (hw _ (List.mem_of_getElem? (i := 17) rfl))) (mvT hZ (hw _ (List.mem_of_getElem? (i := 16) rfl))) (by decide) (backOf (W := 0) (rm3 l Z a0 hw [] orr rwb kr k0 (own_limbs k0 hf) [] (own_limbs k0 q2) (1 : Int32) (k0 + 1) q2 T2.heap n0 Z2 (own_zs k0) hk0 (own_limbs_len k0 _) (by simp [own_zs]) (own_oneM (k0 + 1)) g_rw (by rw [List.append_nil]; exact Oc2) rfl) hZ (hw _ (List.mem_of_getElem? (i := 18) rfl)) (hw _ (List.mem_of_getElem? (i := 2) rfl)) (by decide) (by decide)) qa3 qc3 (g := (mkF m 121 #[.val (.long q1), .second, .val (.long q2), .second, .val (.int p3), .val (.int (Int32.ofNat (k0 + 1))), .val (.int dr), .val (.ref ow), .val (.ref orr), .val (.long hf), .second] [(.long q2), (.int (1 : Int32)), (.ref orr)])) rfl (by rw [hml]; rfl) (Steps.refl _) (argsL := [(.int (1 : Int32)), (.long q2)]) (rest := []) (lenOf own_pd3 rfl) rfl (by show 2 * 0 + _ ≤ _; exact Nat.le_of_eq rfl) (hb hby at_121) (fun _ _ => ⟨rfl, rfl, (by decide : 4 + 0 ≤ _), (by decide : 20 + 0 ≤ _)⟩)
  dsimp only [Pt.U, Pt.locs, Pt.cells, Pt.slots] at X3 l3 y3 z3 st3 hQ3
  subst l3 y3 z3
  obtain ⟨rfl, Nq3, Kc3, Oc3⟩ := hQ3
  have N3 := Fr.app N2 Nq3
  refine own_tr st3 ?_
  show OwnGo p e below s _ _ _ T3 (mkF m 124 #[.val (.long q1), .second, .val (.long q2), .second, .val (.int p3), .val (.int (Int32.ofNat (k0 + 1))), .val (.int dr), .val (.ref ow), .val (.ref orr), .val (.long hf), .second] [])
  have Oc3_ow := own_w_keep (Oc2_ow) Kc3 (ninS ne1 nin0) (ninS ne2 nin0)
  have Z3 : n0 ≤ T3.heap.size := Nat.le_trans Z2 Kc3.1
  refine own_st (T' := T3) (g' := (mkF m 130 #[.val (.long q1), .second, .val (.long q2), .second, .val (.int p3), .val (.int (Int32.ofNat (k0 + 1))), .val (.int dr), .val (.ref ow), .val (.ref orr), .val (.long hf), .second] [(.int (0 : Int32)), (.ref orr), (.int (1 : Int32)), (.ref ow)])) (fun uT uK => ?_) ?_
  · show Steps p.tables e below (T3.setTop (mkF m 124 #[.val (.long q1), .second, .val (.long q2), .second, .val (.int p3), .val (.int (Int32.ofNat (k0 + 1))), .val (.int dr), .val (.ref ow), .val (.ref orr), .val (.long hf), .second] [])) _
    refine XS.aload X3.here hx rfl (hb hby at_124) rfl rfl ?_
    show Steps p.tables e below (T3.setTop (mkF m 126 #[.val (.long q1), .second, .val (.long q2), .second, .val (.int p3), .val (.int (Int32.ofNat (k0 + 1))), .val (.int dr), .val (.ref ow), .val (.ref orr), .val (.long hf), .second] [(.ref ow)])) _
    refine XS.iconst X3.here hx rfl (hb hby at_126) ?_
    show Steps p.tables e below (T3.setTop (mkF m 127 #[.val (.long q1), .second, .val (.long q2), .second, .val (.int p3), .val (.int (Int32.ofNat (k0 + 1))), .val (.int dr), .val (.ref ow), .val (.ref orr), .val (.long hf), .second] [(.int (1 : Int32)), (.ref ow)])) _
    refine XS.aload X3.here hx rfl (hb hby at_127) rfl rfl ?_
    show Steps p.tables e below (T3.setTop (mkF m 129 #[.val (.long q1), .second, .val (.long q2), .second, .val (.int p3), .val (.int (Int32.ofNat (k0 + 1))), .val (.int dr), .val (.ref ow), .val (.ref orr), .val (.long hf), .second] [(.ref orr), (.int (1 : Int32)), (.ref ow)])) _
    refine XS.iconst X3.here hx rfl (hb hby at_129) ?_
    exact uK
  obtain ⟨cq4, kq4, qa4, qb4, qc4⟩ := isOf hZ rfl ((Oc3_ow).1)
  obtain ⟨_, _, ⟨T4, L4, k4, n4⟩, -, X4, ⟨Lc4, hQ4, l4, y4, z4⟩, st4⟩ := X3.virtualBack hx (y := (⟨"com/example/matchwright/matchwright/service/matching/WideArray", "compare", "(ILcom/example/matchwright/matchwright/service/matching/WideArray;I)I"⟩ : MethodName)) (z := (⟨"com/example/matchwright/matchwright/service/matching/WideArray", "compare", "(ILcom/example/matchwright/matchwright/service/matching/WideArray;I)I"⟩ : MethodName)) hown (mvT hZ (hw _ (List.mem_of_getElem? (i := 25) rfl))) (mvT hZ (hw _ (List.mem_of_getElem? (i := 26) rfl))) (notFace_of_selects (args := #[]) (mvT hZ (hw _ (List.mem_of_getElem? (i := 28) rfl)))) (mvT hZ (hw _ (List.mem_of_getElem? (i := 28) rfl))) (mvT hZ (hw _ (List.mem_of_getElem? (i := 27) rfl))) (by decide) (backOf (W := 0) (rm5 l Z a0 hw [] ow ww kw orr rwb kr k0 ((own_limbs k0 q2) ++ (own_limbs k0 hf) ++ []) ((own_limbs k0 hf) ++ (own_limbs k0 q2) ++ []) (1 : Int32) (0 : Int32) (k0 + 1) 0 T3.heap n0 Z3 hk0 (Oc3_ow) (Oc3) (own_oneM (k0 + 1)) (own_zeroM (k0 + 1)) (by rintro rfl; exact ⟨rfl, rfl⟩) (by simp only [List.length_append, List.length_nil, own_limbs_len]; omega) (by simp only [List.length_append, List.length_nil, own_limbs_len]; omega) (fun j hj => (own_gA _ _ (own_limbs_len k0 q2) j).trans (own_gB _ _ j (by rw [own_limbs_len]; omega)).symm)) hZ (hw _ (List.mem_of_getElem? (i := 29) rfl)) (hw _ (List.mem_of_getElem? (i := 2) rfl)) (by decide) (by decide)) qa4 qc4 (g := (mkF m 130 #[.val (.long q1), .second, .val (.long q2), .second, .val (.int p3), .val (.int (Int32.ofNat (k0 + 1))), .val (.int dr), .val (.ref ow), .val (.ref orr), .val (.long hf), .second] [(.int (0 : Int32)), (.ref orr), (.int (1 : Int32)), (.ref ow)])) rfl (by rw [hml]; rfl) (Steps.refl _) (argsL := [(.int (1 : Int32)), (.ref orr), (.int (0 : Int32))]) (rest := []) (lenOf own_pd4 rfl) rfl (by show 2 * 0 + _ ≤ _; exact Nat.le_of_eq rfl) (hb hby at_130) (fun _ _ => ⟨rfl, rfl, (by decide : 4 + 0 ≤ _), (by decide : 20 + 0 ≤ _)⟩)
  dsimp only [Pt.U, Pt.locs, Pt.cells, Pt.slots] at X4 l4 y4 z4 st4 hQ4
  subst l4 y4 z4
  obtain ⟨rfl, Nq4, e4⟩ := hQ4
  have N4 := Fr.app N3 Nq4
  refine own_tr st4 ?_
  show OwnGo p e below s _ _ _ T4 (mkF m 133 #[.val (.long q1), .second, .val (.long q2), .second, .val (.int p3), .val (.int (Int32.ofNat (k0 + 1))), .val (.int dr), .val (.ref ow), .val (.ref orr), .val (.long hf), .second] [(.int (0 : Int32))])
  refine own_st (T' := T4) (g' := (mkF m 142 #[.val (.long q1), .second, .val (.long q2), .second, .val (.int p3), .val (.int (Int32.ofNat (k0 + 1))), .val (.int dr), .val (.ref ow), .val (.ref orr), .val (.long hf), .second] [(.int (1 : Int32)), (.ref orr), (.int (0 : Int32)), (.ref ow)])) (fun uT uK => ?_) ?_
  · show Steps p.tables e below (T4.setTop (mkF m 133 #[.val (.long q1), .second, .val (.long q2), .second, .val (.int p3), .val (.int (Int32.ofNat (k0 + 1))), .val (.int dr), .val (.ref ow), .val (.ref orr), .val (.long hf), .second] [(.int (0 : Int32))])) _
    refine XS.ifNo X4.here hx rfl (hb hby at_133) rfl (XT.i0_ne_f (by decide)) ?_
    show Steps p.tables e below (T4.setTop (mkF m 136 #[.val (.long q1), .second, .val (.long q2), .second, .val (.int p3), .val (.int (Int32.ofNat (k0 + 1))), .val (.int dr), .val (.ref ow), .val (.ref orr), .val (.long hf), .second] [])) _
    refine XS.aload X4.here hx rfl (hb hby at_136) rfl rfl ?_
    show Steps p.tables e below (T4.setTop (mkF m 138 #[.val (.long q1), .second, .val (.long q2), .second, .val (.int p3), .val (.int (Int32.ofNat (k0 + 1))), .val (.int dr), .val (.ref ow), .val (.ref orr), .val (.long hf), .second] [(.ref ow)])) _
    refine XS.iconst X4.here hx rfl (hb hby at_138) ?_
    show Steps p.tables e below (T4.setTop (mkF m 139 #[.val (.long q1), .second, .val (.long q2), .second, .val (.int p3), .val (.int (Int32.ofNat (k0 + 1))), .val (.int dr), .val (.ref ow), .val (.ref orr), .val (.long hf), .second] [(.int (0 : Int32)), (.ref ow)])) _
    refine XS.aload X4.here hx rfl (hb hby at_139) rfl rfl ?_
    show Steps p.tables e below (T4.setTop (mkF m 141 #[.val (.long q1), .second, .val (.long q2), .second, .val (.int p3), .val (.int (Int32.ofNat (k0 + 1))), .val (.int dr), .val (.ref ow), .val (.ref orr), .val (.long hf), .second] [(.ref orr), (.int (0 : Int32)), (.ref ow)])) _
    refine XS.iconst X4.here hx rfl (hb hby at_141) ?_
    exact uK
  obtain ⟨cq5, kq5, qa5, qb5, qc5⟩ := isOf hZ e4 ((Oc3_ow).1)
  obtain ⟨_, _, ⟨T5, L5, k5, n5⟩, -, X5, ⟨Lc5, hQ5, l5, y5, z5⟩, st5⟩ := X4.virtualBack hx (y := (⟨"com/example/matchwright/matchwright/service/matching/WideArray", "compare", "(ILcom/example/matchwright/matchwright/service/matching/WideArray;I)I"⟩ : MethodName)) (z := (⟨"com/example/matchwright/matchwright/service/matching/WideArray", "compare", "(ILcom/example/matchwright/matchwright/service/matching/WideArray;I)I"⟩ : MethodName)) hown (mvT hZ (hw _ (List.mem_of_getElem? (i := 25) rfl))) (mvT hZ (hw _ (List.mem_of_getElem? (i := 26) rfl))) (notFace_of_selects (args := #[]) (mvT hZ (hw _ (List.mem_of_getElem? (i := 28) rfl)))) (mvT hZ (hw _ (List.mem_of_getElem? (i := 28) rfl))) (mvT hZ (hw _ (List.mem_of_getElem? (i := 27) rfl))) (by decide) (backOf (W := 0) (rm5 l Z a0 hw [] ow ww kw orr rwb kr k0 ((own_limbs k0 q2) ++ (own_limbs k0 hf) ++ []) ((own_limbs k0 hf) ++ (own_limbs k0 q2) ++ []) (0 : Int32) (1 : Int32) 0 (k0 + 1) T3.heap n0 Z3 hk0 (Oc3_ow) (Oc3) (own_zeroM (k0 + 1)) (own_oneM (k0 + 1)) (by rintro rfl; exact ⟨rfl, rfl⟩) (by simp only [List.length_append, List.length_nil, own_limbs_len]; omega) (by simp only [List.length_append, List.length_nil, own_limbs_len]; omega) (fun j hj => (own_gB _ _ j (by rw [own_limbs_len]; omega)).trans (own_gA _ _ (own_limbs_len k0 hf) j).symm)) hZ (hw _ (List.mem_of_getElem? (i := 29) rfl)) (hw _ (List.mem_of_getElem? (i := 2) rfl)) (by decide) (by decide)) qa5 qc5 (g := (mkF m 142 #[.val (.long q1), .second, .val (.long q2), .second, .val (.int p3), .val (.int (Int32.ofNat (k0 + 1))), .val (.int dr), .val (.ref ow), .val (.ref orr), .val (.long hf), .second] [(.int (1 : Int32)), (.ref orr), (.int (0 : Int32)), (.ref ow)])) rfl (by rw [hml]; rfl) (Steps.refl _) (argsL := [(.int (0 : Int32)), (.ref orr), (.int (1 : Int32))]) (rest := []) (lenOf own_pd4 rfl) rfl (by show 2 * 0 + _ ≤ _; exact Nat.le_of_eq rfl) (hb hby at_142) (fun _ _ => ⟨rfl, e4, (by decide : 4 + 0 ≤ _), (by decide : 20 + 0 ≤ _)⟩)
  dsimp only [Pt.U, Pt.locs, Pt.cells, Pt.slots] at X5 l5 y5 z5 st5 hQ5
  subst l5 y5 z5
  obtain ⟨rfl, Nq5, e5⟩ := hQ5
  have N5 := Fr.app N4 Nq5
  refine own_tr st5 ?_
  show OwnGo p e below s _ _ _ T5 (mkF m 145 #[.val (.long q1), .second, .val (.long q2), .second, .val (.int p3), .val (.int (Int32.ofNat (k0 + 1))), .val (.int dr), .val (.ref ow), .val (.ref orr), .val (.long hf), .second] [(.int (0 : Int32))])
  refine own_st (T' := T5) (g' := (mkF m 153 #[.val (.long q1), .second, .val (.long q2), .second, .val (.int p3), .val (.int (Int32.ofNat (k0 + 1))), .val (.int dr), .val (.ref ow), .val (.ref orr), .val (.long hf), .second] [(.int (1 : Int32))])) (fun uT uK => ?_) ?_
  · show Steps p.tables e below (T5.setTop (mkF m 145 #[.val (.long q1), .second, .val (.long q2), .second, .val (.int p3), .val (.int (Int32.ofNat (k0 + 1))), .val (.int dr), .val (.ref ow), .val (.ref orr), .val (.long hf), .second] [(.int (0 : Int32))])) _
    refine XS.ifNo X5.here hx rfl (hb hby at_145) rfl (XT.i0_ne_f (by decide)) ?_
    show Steps p.tables e below (T5.setTop (mkF m 148 #[.val (.long q1), .second, .val (.long q2), .second, .val (.int p3), .val (.int (Int32.ofNat (k0 + 1))), .val (.int dr), .val (.ref ow), .val (.ref orr), .val (.long hf), .second] [])) _
    refine XS.iconst X5.here hx rfl (hb hby at_148) ?_
    show Steps p.tables e below (T5.setTop (mkF m 149 #[.val (.long q1), .second, .val (.long q2), .second, .val (.int p3), .val (.int (Int32.ofNat (k0 + 1))), .val (.int dr), .val (.ref ow), .val (.ref orr), .val (.long hf), .second] [(.int (1 : Int32))])) _
    refine XS.goto X5.here hx rfl (pc0 := 149) (pc' := 153) rfl (hb hby at_149) (by decide) (by decide) ?_
    exact uK
  exact own_ret (v := some (.int (1 : Int32))) X5 hlk (fun h => by rw [hret] at h; cases h) (fun fs hr => retOut X5 hx hret rfl (Or.inl ⟨rfl, by simp, _, rfl⟩) (hb hby at_153) hr) ⟨rfl, N5⟩ (by decide) (by decide)
set_option maxRecDepth 65536 in
set_option maxHeartbeats 40000000 in
theorem own_t26 {p : Program} {l : Launch} {e : Env} {s : State} {m : MethodId} {args : Array Value} {below : List Frame} {meth : Method} {c : Code} {T : State} {locs : List Loc} {Z : State} {a0 : Array Value} {h : Heap} {n0 : Nat} (q1 q2 : Int64) (p3 : Int32) (k0 : Nat) (dr : Int32) (h0 : Heap) (hk0 : k0 ≤ 3) (hdr : dr = 1 ∨ (dr = 0 ∧ 1 ≤ k0))
    (K : Ctx0 p s m meth c Z a0) (X : Stand p l e room_1 s m args below meth c T locs 0 0) (eT : T.heap = h) (N : Fr n0 locs) (Z0 : n0 ≤ h.size) :
    OwnGo p e below s room_1.cells room_1.slots (Q0 Z q1 q2 p3 h0 n0) T (mkF m 26 #[.val (.long q1), .second, .val (.long q2), .second, .val (.int p3), .val (.int (Int32.ofNat (k0 + 1))), .unset, .unset, .unset, .unset, .unset] [(.int dr)]) := by
  obtain ⟨hx, hZ, hw, hby, hml, hown, hret, hlk, hnm⟩ := id K
  refine own_st (T' := T) (g' := (mkF m 28 #[.val (.long q1), .second, .val (.long q2), .second, .val (.int p3), .val (.int (Int32.ofNat (k0 + 1))), .val (.int dr), .unset, .unset, .unset, .unset] [])) (fun uT uK => ?_) ?_
  · show Steps p.tables e below (T.setTop (mkF m 26 #[.val (.long q1), .second, .val (.long q2), .second, .val (.int p3), .val (.int (Int32.ofNat (k0 + 1))), .unset, .unset, .unset, .unset, .unset] [(.int dr)])) _
    refine XS.istore X.here hx rfl (hb hby at_26) rfl (l' := #[.val (.long q1), .second, .val (.long q2), .second, .val (.int p3), .val (.int (Int32.ofNat (k0 + 1))), .val (.int dr), .unset, .unset, .unset, .unset]) rfl ?_
    exact uK
  obtain ⟨T1, h1, X1, e1, E1, A1, D1, -, st1⟩ := newO X hx hZ hown (hw _ (List.mem_of_getElem? (i := 0) rfl)) (hw _ (List.mem_of_getElem? (i := 1) rfl)) (hw _ (List.mem_of_getElem? (i := 2) rfl)) eT (g := (mkF m 28 #[.val (.long q1), .second, .val (.long q2), .second, .val (.int p3), .val (.int (Int32.ofNat (k0 + 1))), .val (.int dr), .unset, .unset, .unset, .unset] [])) rfl (hb hby at_28) (by decide) (by decide)
  obtain ⟨ow, g1⟩ : ∃ z, z = h.size := ⟨_, rfl⟩
  rw [← g1] at A1 D1 st1
  have g_ow : n0 ≤ ow := Nat.le_trans Z0 (Nat.le_of_eq g1.symm)
  have Z1 : n0 ≤ h1.size := Nat.le_trans Z0 E1.1
  have F1_limbs : Fld Z h1 ow "com/example/matchwright/matchwright/service/matching/WideArray" "limbs" "I" (.int (0 : Int32)) := D1 (Or.inr (hw _ (List.mem_of_getElem? (i := 10) rfl))) (ty := .int) (by decide)
  have F1_words : Fld Z h1 ow "com/example/matchwright/matchwright/service/matching/WideArray" "words" "[J" .null := D1 (Or.inr (hw _ (List.mem_of_getElem? (i := 13) rfl))) (ty := (.array .long)) (by decide)
  refine own_st st1 ?_
  show OwnGo p e below s _ _ _ T1 (mkF m 31 #[.val (.long q1), .second, .val (.long q2), .second, .val (.int p3), .val (.int (Int32.ofNat (k0 + 1))), .val (.int dr), .unset, .unset, .unset, .unset] [(.ref ow)])
  refine own_st (T' := T1) (g' := (mkF m 35 #[.val (.long q1), .second, .val (.long q2), .second, .val (.int p3), .val (.int (Int32.ofNat (k0 + 1))), .val (.int dr), .unset, .unset, .unset, .unset] [(.int (Int32.ofNat (k0 + 1))), (.int (2 : Int32)), (.ref ow), (.ref ow)])) (fun uT uK => ?_) ?_
  · show Steps p.tables e below (T1.setTop (mkF m 31 #[.val (.long q1), .second, .val (.long q2), .second, .val (.int p3), .val (.int (Int32.ofNat (k0 + 1))), .val (.int dr), .unset, .unset, .unset, .unset] [(.ref ow)])) _
    refine XS.dup X1.here hx rfl (hb hby at_31) rfl rfl ?_
    show Steps p.tables e below (T1.setTop (mkF m 32 #[.val (.long q1), .second, .val (.long q2), .second, .val (.int p3), .val (.int (Int32.ofNat (k0 + 1))), .val (.int dr), .unset, .unset, .unset, .unset] [(.ref ow), (.ref ow)])) _
    refine XS.iconst X1.here hx rfl (hb hby at_32) ?_
    show Steps p.tables e below (T1.setTop (mkF m 33 #[.val (.long q1), .second, .val (.long q2), .second, .val (.int p3), .val (.int (Int32.ofNat (k0 + 1))), .val (.int dr), .unset, .unset, .unset, .unset] [(.int (2 : Int32)), (.ref ow), (.ref ow)])) _
    refine XS.iload X1.here hx rfl (hb hby at_33) rfl ?_
    exact uK
  obtain ⟨_, _, ⟨T2, L2, k2, n2⟩, -, X2, ⟨Lc2, hQ2, l2, y2, z2⟩, st2⟩ := X1.specialBack hx (y := (⟨"com/example/matchwright/matchwright/service/matching/WideArray", "<init>", "(II)V"⟩ : MethodName)) rfl hown (mvT hZ (hw _ (List.mem_of_getElem? (i := 3) rfl))) (mvT hZ (hw _ (List.mem_of_getElem? (i := 4) rfl))) (mvT hZ (hw _ (List.mem_of_getElem? (i := 5) rfl))) (by decide) (backOf (W := 1) (rm1 l Z a0 hw [] ow k0 h1 n0 Z1 hk0 A1 F1_limbs F1_words g_ow) hZ (hw _ (List.mem_of_getElem? (i := 5) rfl)) (hw _ (List.mem_of_getElem? (i := 2) rfl)) (by decide) (by decide)) (g := (mkF m 35 #[.val (.long q1), .second, .val (.long q2), .second, .val (.int p3), .val (.int (Int32.ofNat (k0 + 1))), .val (.int dr), .unset, .unset, .unset, .unset] [(.int (Int32.ofNat (k0 + 1))), (.int (2 : Int32)), (.ref ow), (.ref ow)])) rfl (by rw [hml]; rfl) (Steps.refl _) (a := ow) (argsL := [(.int (2 : Int32)), (.int (Int32.ofNat (k0 + 1)))]) (rest := [(.ref ow)]) (lenOf own_pd5 rfl) rfl (by show 2 * 0 + _ ≤ _; exact Nat.le_of_eq rfl) (hb hby at_35) (fun _ _ => ⟨rfl, e1, (by decide : 1 + 1 ≤ _), (by decide : 2 + 8 ≤ _)⟩)
  dsimp only [Pt.U, Pt.locs, Pt.cells, Pt.slots] at X2 l2 y2 z2 st2 hQ2
  subst l2 y2 z2
  obtain ⟨rfl, Nq2, Kc2, Ex2⟩ := hQ2
  have N2 := Fr.app N Nq2
  refine own_tr st2 ?_
  show OwnGo p e below s _ _ _ T2 (mkF m 38 #[.val (.long q1), .second, .val (.long q2), .second, .val (.int p3), .val (.int (Int32.ofNat (k0 + 1))), .val (.int dr), .unset, .unset, .unset, .unset] [(.ref ow)])
  obtain ⟨ww, kw, g_ww, sz_ww, O_ow⟩ := Ex2
  have Z2 : n0 ≤ T2.heap.size := Nat.le_trans Z1 Kc2.1
  refine own_st (T' := T2) (g' := (mkF m 40 #[.val (.long q1), .second, .val (.long q2), .second, .val (.int p3), .val (.int (Int32.ofNat (k0 + 1))), .val (.int dr), .val (.ref ow), .unset, .unset, .unset] [])) (fun uT uK => ?_) ?_
  · show Steps p.tables e below (T2.setTop (mkF m 38 #[.val (.long q1), .second, .val (.long q2), .second, .val (.int p3), .val (.int (Int32.ofNat (k0 + 1))), .val (.int dr), .unset, .unset, .unset, .unset] [(.ref ow)])) _
    refine XS.astore X2.here hx rfl (hb hby at_38) rfl rfl (l' := #[.val (.long q1), .second, .val (.long q2), .second, .val (.int p3), .val (.int (Int32.ofNat (k0 + 1))), .val (.int dr), .val (.ref ow), .unset, .unset, .unset]) rfl ?_
    exact uK
  obtain ⟨T3, h3, X3, e3, E3, A3, D3, -, st3⟩ := newO X2 hx hZ hown (hw _ (List.mem_of_getElem? (i := 0) rfl)) (hw _ (List.mem_of_getElem? (i := 1) rfl)) (hw _ (List.mem_of_getElem? (i := 2) rfl)) rfl (g := (mkF m 40 #[.val (.long q1), .second, .val (.long q2), .second, .val (.int p3), .val (.int (Int32.ofNat (k0 + 1))), .val (.int dr), .val (.ref ow), .unset, .unset, .unset] [])) rfl (hb hby at_40) (by decide) (by decide)
  obtain ⟨orr, g3⟩ : ∃ z, z = T2.heap.size := ⟨_, rfl⟩
  rw [← g3] at A3 D3 st3
  have g_orr : n0 ≤ orr := Nat.le_trans Z2 (Nat.le_of_eq g3.symm)
  have ne_ow_orr : ow ≠ orr := Nat.ne_of_lt (Nat.lt_of_lt_of_le ((O_ow).1).lt (Nat.le_of_eq g3.symm))
  have Ex3_ow := ((O_ow).1).ext E3
  have Z3 : n0 ≤ h3.size := Nat.le_trans Z2 E3.1
  have F3_limbs : Fld Z h3 orr "com/example/matchwright/matchwright/service/matching/WideArray" "limbs" "I" (.int (0 : Int32)) := D3 (Or.inr (hw _ (List.mem_of_getElem? (i := 10) rfl))) (ty := .int) (by decide)
  have F3_words : Fld Z h3 orr "com/example/matchwright/matchwright/service/matching/WideArray" "words" "[J" .null := D3 (Or.inr (hw _ (List.mem_of_getElem? (i := 13) rfl))) (ty := (.array .long)) (by decide)
  refine own_st st3 ?_
  show OwnGo p e below s _ _ _ T3 (mkF m 43 #[.val (.long q1), .second, .val (.long q2), .second, .val (.int p3), .val (.int (Int32.ofNat (k0 + 1))), .val (.int dr), .val (.ref ow), .unset, .unset, .unset] [(.ref orr)])
  have Oe_ow := own_w_ext (O_ow) E3
  have ne_ww_orr : ww ≠ orr := Nat.ne_of_lt (Nat.lt_of_lt_of_le (O_ow).2.2.2.1.lt (Nat.le_of_eq g3.symm))
  refine own_st (T' := T3) (g' := (mkF m 47 #[.val (.long q1), .second, .val (.long q2), .second, .val (.int p3), .val (.int (Int32.ofNat (k0 + 1))), .val (.int dr), .val (.ref ow), .unset, .unset, .unset] [(.int (Int32.ofNat (k0 + 1))), (.int (2 : Int32)), (.ref orr), (.ref orr)])) (fun uT uK => ?_) ?_
  · show Steps p.tables e below (T3.setTop (mkF m 43 #[.val (.long q1), .second, .val (.long q2), .second, .val (.int p3), .val (.int (Int32.ofNat (k0 + 1))), .val (.int dr), .val (.ref ow), .unset, .unset, .unset] [(.ref orr)])) _
    refine XS.dup X3.here hx rfl (hb hby at_43) rfl rfl ?_
    show Steps p.tables e below (T3.setTop (mkF m 44 #[.val (.long q1), .second, .val (.long q2), .second, .val (.int p3), .val (.int (Int32.ofNat (k0 + 1))), .val (.int dr), .val (.ref ow), .unset, .unset, .unset] [(.ref orr), (.ref orr)])) _
    refine XS.iconst X3.here hx rfl (hb hby at_44) ?_
    show Steps p.tables e below (T3.setTop (mkF m 45 #[.val (.long q1), .second, .val (.long q2), .second, .val (.int p3), .val (.int (Int32.ofNat (k0 + 1))), .val (.int dr), .val (.ref ow), .unset, .unset, .unset] [(.int (2 : Int32)), (.ref orr), (.ref orr)])) _
    refine XS.iload X3.here hx rfl (hb hby at_45) rfl ?_
    exact uK
  obtain ⟨_, _, ⟨T4, L4, k4, n4⟩, -, X4, ⟨Lc4, hQ4, l4, y4, z4⟩, st4⟩ := X3.specialBack hx (y := (⟨"com/example/matchwright/matchwright/service/matching/WideArray", "<init>", "(II)V"⟩ : MethodName)) rfl hown (mvT hZ (hw _ (List.mem_of_getElem? (i := 3) rfl))) (mvT hZ (hw _ (List.mem_of_getElem? (i := 4) rfl))) (mvT hZ (hw _ (List.mem_of_getElem? (i := 5) rfl))) (by decide) (backOf (W := 1) (rm1 l Z a0 hw [] orr k0 h3 n0 Z3 hk0 A3 F3_limbs F3_words g_orr) hZ (hw _ (List.mem_of_getElem? (i := 5) rfl)) (hw _ (List.mem_of_getElem? (i := 2) rfl)) (by decide) (by decide)) (g := (mkF m 47 #[.val (.long q1), .second, .val (.long q2), .second, .val (.int p3), .val (.int (Int32.ofNat (k0 + 1))), .val (.int dr), .val (.ref ow), .unset, .unset, .unset] [(.int (Int32.ofNat (k0 + 1))), (.int (2 : Int32)), (.ref orr), (.ref orr)])) rfl (by rw [hml]; rfl) (Steps.refl _) (a := orr) (argsL := [(.int (2 : Int32)), (.int (Int32.ofNat (k0 + 1)))]) (rest := [(.ref orr)]) (lenOf own_pd5 rfl) rfl (by show 2 * 0 + _ ≤ _; exact Nat.le_of_eq rfl) (hb hby at_47) (fun _ _ => ⟨rfl, e3, (by decide : 3 + 1 ≤ _), (by decide : 12 + 8 ≤ _)⟩)
  dsimp only [Pt.U, Pt.locs, Pt.cells, Pt.slots] at X4 l4 y4 z4 st4 hQ4
  subst l4 y4 z4
  obtain ⟨rfl, Nq4, Kc4, Ex4⟩ := hQ4
  have N4 := Fr.app N2 Nq4
  refine own_tr st4 ?_
  show OwnGo p e below s _ _ _ T4 (mkF m 50 #[.val (.long q1), .second, .val (.long q2), .second, .val (.int p3), .val (.int (Int32.ofNat (k0 + 1))), .val (.int dr), .val (.ref ow), .unset, .unset, .unset] [(.ref orr)])
  obtain ⟨rwb, kr, g_rw, sz_rwb, O_orr⟩ := Ex4
  have ne_ow_rwb : ow ≠ rwb := Nat.ne_of_lt (Nat.lt_of_lt_of_le (Oe_ow).1.lt sz_rwb)
  have ne_ww_rwb : ww ≠ rwb := Nat.ne_of_lt (Nat.lt_of_lt_of_le (Oe_ow).2.2.2.1.lt sz_rwb)
  have Oi_ow := own_w_keep (Oe_ow) Kc4 (ninS ne_ow_orr nin0) (ninS ne_ww_orr nin0)
  have Z4 : n0 ≤ T4.heap.size := Nat.le_trans Z3 Kc4.1
  refine own_st (T' := T4) (g' := (mkF m 56 #[.val (.long q1), .second, .val (.long q2), .second, .val (.int p3), .val (.int (Int32.ofNat (k0 + 1))), .val (.int dr), .val (.ref ow), .val (.ref orr), .unset, .unset] [(.long q2), (.int (0 : Int32)), (.ref ow)])) (fun uT uK => ?_) ?_
  · show Steps p.tables e below (T4.setTop (mkF m 50 #[.val (.long q1), .second, .val (.long q2), .second, .val (.int p3), .val (.int (Int32.ofNat (k0 + 1))), .val (.int dr), .val (.ref ow), .unset, .unset, .unset] [(.ref orr)])) _
    refine XS.astore X4.here hx rfl (hb hby at_50) rfl rfl (l' := #[.val (.long q1), .second, .val (.long q2), .second, .val (.int p3), .val (.int (Int32.ofNat (k0 + 1))), .val (.int dr), .val (.ref ow), .val (.ref orr), .unset, .unset]) rfl ?_
    show Steps p.tables e below (T4.setTop (mkF m 52 #[.val (.long q1), .second, .val (.long q2), .second, .val (.int p3), .val (.int (Int32.ofNat (k0 + 1))), .val (.int dr), .val (.ref ow), .val (.ref orr), .unset, .unset] [])) _
    refine XS.aload X4.here hx rfl (hb hby at_52) rfl rfl ?_
    show Steps p.tables e below (T4.setTop (mkF m 54 #[.val (.long q1), .second, .val (.long q2), .second, .val (.int p3), .val (.int (Int32.ofNat (k0 + 1))), .val (.int dr), .val (.ref ow), .val (.ref orr), .unset, .unset] [(.ref ow)])) _
    refine XS.iconst X4.here hx rfl (hb hby at_54) ?_
    show Steps p.tables e below (T4.setTop (mkF m 55 #[.val (.long q1), .second, .val (.long q2), .second, .val (.int p3), .val (.int (Int32.ofNat (k0 + 1))), .val (.int dr), .val (.ref ow), .val (.ref orr), .unset, .unset] [(.int (0 : Int32)), (.ref ow)])) _
    refine XT.lloadN X4.here hx rfl (hb hby at_55) rfl ?_
    exact uK
  obtain ⟨cq5, kq5, qa5, qb5, qc5⟩ := isOf hZ rfl ((Oi_ow).1)
  obtain ⟨_, _, ⟨T5, L5, k5, n5⟩, -, X5, ⟨Lc5, hQ5, l5, y5, z5⟩, st5⟩ := X4.virtualBack hx (y := (⟨"com/example/matchwright/matchwright/service/matching/WideArray", "set", "(IJ)V"⟩ : MethodName)) (z := (⟨"com/example/matchwright/matchwright/service/matching/WideArray", "set", "(IJ)V"⟩ : MethodName)) hown (mvT hZ (hw _ (List.mem_of_getElem? (i := 14) rfl))) (mvT hZ (hw _ (List.mem_of_getElem? (i := 15) rfl))) (notFace_of_selects (args := #[]) (mvT hZ (hw _ (List.mem_of_getElem? (i := 17) rfl)))) (mvT hZ (hw _ (List.mem_of_getElem? (i := 17) rfl))) (mvT hZ (hw _ (List.mem_of_getElem? (i := 16) rfl))) (by decide) (backOf (W := 0) (rm3 l Z a0 hw [] ow ww kw k0 [] (own_zs k0) (own_limbs k0 q2) (0 : Int32) (0) q2 T4.heap n0 Z4 (own_zs k0) hk0 rfl (by simp [own_zs]) (own_zeroM (k0 + 1)) g_ww Oi_ow rfl) hZ (hw _ (List.mem_of_getElem? (i := 18) rfl)) (hw _ (List.mem_of_getElem? (i := 2) rfl)) (by decide) (by decide)) qa5 qc5 (g := (mkF m 56 #[.val (.long q1), .second, .val (.long q2), .second, .val (.int p3), .val (.int (Int32.ofNat (k0 + 1))), .val (.int dr), .val (.ref ow), .val (.ref orr), .unset, .unset] [(.long q2), (.int (0 : Int32)), (.ref ow)])) rfl (by rw [hml]; rfl) (Steps.refl _) (argsL := [(.int (0 : Int32)), (.long q2)]) (rest := []) (lenOf own_pd3 rfl) rfl (by show 2 * 0 + _ ≤ _; exact Nat.le_of_eq rfl) (hb hby at_56) (fun _ _ => ⟨rfl, rfl, (by decide : 4 + 0 ≤ _), (by decide : 20 + 0 ≤ _)⟩)
  dsimp only [Pt.U, Pt.locs, Pt.cells, Pt.slots] at X5 l5 y5 z5 st5 hQ5
  subst l5 y5 z5
  obtain ⟨rfl, Nq5, Kc5, Oc5⟩ := hQ5
  have N5 := Fr.app N4 Nq5
  refine own_tr st5 ?_
  show OwnGo p e below s _ _ _ T5 (mkF m 59 #[.val (.long q1), .second, .val (.long q2), .second, .val (.int p3), .val (.int (Int32.ofNat (k0 + 1))), .val (.int dr), .val (.ref ow), .val (.ref orr), .unset, .unset] [])
  have Oc5_orr := own_w_keep (O_orr) Kc5 (ninS (Ne.symm ne_ww_orr) nin0) (ninS (Ne.symm ne_ww_rwb) nin0)
  have Z5 : n0 ≤ T5.heap.size := Nat.le_trans Z4 Kc5.1
  rcases hdr with rfl | ⟨rfl, hk1⟩
  · show OwnGo p e below s _ _ _ T5 (mkF m 59 #[.val (.long q1), .second, .val (.long q2), .second, .val (.int p3), .val (.int (Int32.ofNat (k0 + 1))), .val (.int (1 : Int32)), .val (.ref ow), .val (.ref orr), .unset, .unset] [])
    refine own_st (T' := T5) (g' := (mkF m 72 #[.val (.long q1), .second, .val (.long q2), .second, .val (.int p3), .val (.int (Int32.ofNat (k0 + 1))), .val (.int (1 : Int32)), .val (.ref ow), .val (.ref orr), .unset, .unset] [(.long (q1 &&& (-2 : Int64))), (.int (1 : Int32)), (.ref ow)])) (fun uT uK => ?_) ?_
    · show Steps p.tables e below (T5.setTop (mkF m 59 #[.val (.long q1), .second, .val (.long q2), .second, .val (.int p3), .val (.int (Int32.ofNat (k0 + 1))), .val (.int (1 : Int32)), .val (.ref ow), .val (.ref orr), .unset, .unset] [])) _
      refine XS.iload X5.here hx rfl (hb hby at_59) rfl ?_
      show Steps p.tables e below (T5.setTop (mkF m 61 #[.val (.long q1), .second, .val (.long q2), .second, .val (.int p3), .val (.int (Int32.ofNat (k0 + 1))), .val (.int (1 : Int32)), .val (.ref ow), .val (.ref orr), .unset, .unset] [(.int (1 : Int32))])) _
      refine XS.ifNo X5.here hx rfl (hb hby at_61) rfl (XT.i0_eq_f (by decide)) ?_
      show Steps p.tables e below (T5.setTop (mkF m 64 #[.val (.long q1), .second, .val (.long q2), .second, .val (.int p3), .val (.int (Int32.ofNat (k0 + 1))), .val (.int (1 : Int32)), .val (.ref ow), .val (.ref orr), .unset, .unset] [])) _
      refine XS.aload X5.here hx rfl (hb hby at_64) rfl rfl ?_
      show Steps p.tables e below (T5.setTop (mkF m 66 #[.val (.long q1), .second, .val (.long q2), .second, .val (.int p3), .val (.int (Int32.ofNat (k0 + 1))), .val (.int (1 : Int32)), .val (.ref ow), .val (.ref orr), .unset, .unset] [(.ref ow)])) _
      refine XS.iconst X5.here hx rfl (hb hby at_66) ?_
      show Steps p.tables e below (T5.setTop (mkF m 67 #[.val (.long q1), .second, .val (.long q2), .second, .val (.int p3), .val (.int (Int32.ofNat (k0 + 1))), .val (.int (1 : Int32)), .val (.ref ow), .val (.ref orr), .unset, .unset] [(.int (1 : Int32)), (.ref ow)])) _
      refine XT.lloadN X5.here hx rfl (hb hby at_67) rfl ?_
      show Steps p.tables e below (T5.setTop (mkF m 68 #[.val (.long q1), .second, .val (.long q2), .second, .val (.int p3), .val (.int (Int32.ofNat (k0 + 1))), .val (.int (1 : Int32)), .val (.ref ow), .val (.ref orr), .unset, .unset] [(.long q1), (.int (1 : Int32)), (.ref ow)])) _
      refine X5.ldc2Long hx hown (mvT hZ (hw _ (List.mem_of_getElem? (i := 19) rfl))) (g := (mkF m 68 #[.val (.long q1), .second, .val (.long q2), .second, .val (.int p3), .val (.int (Int32.ofNat (k0 + 1))), .val (.int (1 : Int32)), .val (.ref ow), .val (.ref orr), .unset, .unset] [(.long q1), (.int (1 : Int32)), (.ref ow)])) rfl (hb hby at_68) _ ?_
      show Steps p.tables e below (T5.setTop (mkF m 71 #[.val (.long q1), .second, .val (.long q2), .second, .val (.int p3), .val (.int (Int32.ofNat (k0 + 1))), .val (.int (1 : Int32)), .val (.ref ow), .val (.ref orr), .unset, .unset] [(.long (-2 : Int64)), (.long q1), (.int (1 : Int32)), (.ref ow)])) _
      refine XT.land X5.here hx rfl (hb hby at_71) rfl ?_
      exact uK
    obtain ⟨cq6, kq6, qa6, qb6, qc6⟩ := isOf hZ rfl ((Oc5).1)
    obtain ⟨_, _, ⟨T6, L6, k6, n6⟩, -, X6, ⟨Lc6, hQ6, l6, y6, z6⟩, st6⟩ := X5.virtualBack hx (y := (⟨"com/example/matchwright/matchwright/service/matching/WideArray", "set", "(IJ)V"⟩ : MethodName)) (z := (⟨"com/example/matchwright/matchwright/service/matching/WideArray", "set", "(IJ)V"⟩ : MethodName)) hown (mvT hZ (hw _ (List.mem_of_getElem? (i := 14) rfl))) (mvT hZ (hw _ (List.mem_of_getElem? (i := 15) rfl))) (notFace_of_selects (args := #[]) (mvT hZ (hw _ (List.mem_of_getElem? (i := 17) rfl)))) (mvT hZ (hw _ (List.mem_of_getElem? (i := 17) rfl))) (mvT hZ (hw _ (List.mem_of_getElem? (i := 16) rfl))) (by decide) (backOf (W := 0) (rm3 l Z a0 hw [] ow ww kw k0 (own_limbs k0 q2) [] (own_limbs k0 (q1 &&& (-2 : Int64))) (1 : Int32) (k0 + 1) (q1 &&& (-2 : Int64)) T5.heap n0 Z5 (own_zs k0) hk0 (own_limbs_len k0 _) (by simp [own_zs]) (own_oneM (k0 + 1)) g_ww (by rw [List.append_nil]; exact Oc5) rfl) hZ (hw _ (List.mem_of_getElem? (i := 18) rfl)) (hw _ (List.mem_of_getElem? (i := 2) rfl)) (by decide) (by decide)) qa6 qc6 (g := (mkF m 72 #[.val (.long q1), .second, .val (.long q2), .second, .val (.int p3), .val (.int (Int32.ofNat (k0 + 1))), .val (.int (1 : Int32)), .val (.ref ow), .val (.ref orr), .unset, .unset] [(.long (q1 &&& (-2 : Int64))), (.int (1 : Int32)), (.ref ow)])) rfl (by rw [hml]; rfl) (Steps.refl _) (argsL := [(.int (1 : Int32)), (.long (q1 &&& (-2 : Int64)))]) (rest := []) (lenOf own_pd3 rfl) rfl (by show 2 * 0 + _ ≤ _; exact Nat.le_of_eq rfl) (hb hby at_72) (fun _ _ => ⟨rfl, rfl, (by decide : 4 + 0 ≤ _), (by decide : 20 + 0 ≤ _)⟩)
    dsimp only [Pt.U, Pt.locs, Pt.cells, Pt.slots] at X6 l6 y6 z6 st6 hQ6
    subst l6 y6 z6
    obtain ⟨rfl, Nq6, Kc6, Oc6⟩ := hQ6
    have N6 := Fr.app N5 Nq6
    refine own_tr st6 ?_
    show OwnGo p e below s _ _ _ T6 (mkF m 75 #[.val (.long q1), .second, .val (.long q2), .second, .val (.int p3), .val (.int (Int32.ofNat (k0 + 1))), .val (.int (1 : Int32)), .val (.ref ow), .val (.ref orr), .unset, .unset] [])
    have Oc6_orr := own_w_keep (Oc5_orr) Kc6 (ninS (Ne.symm ne_ww_orr) nin0) (ninS (Ne.symm ne_ww_rwb) nin0)
    have Z6 : n0 ≤ T6.heap.size := Nat.le_trans Z5 Kc6.1
    refine own_st (T' := T6) (g' := (mkF m 103 #[.val (.long q1), .second, .val (.long q2), .second, .val (.int p3), .val (.int (Int32.ofNat (k0 + 1))), .val (.int (1 : Int32)), .val (.ref ow), .val (.ref orr), .val (.long (q1 >>> ((1 : Int32).toInt64 &&& 63))), .second] [])) (fun uT uK => ?_) ?_
    · show Steps p.tables e below (T6.setTop (mkF m 75 #[.val (.long q1), .second, .val (.long q2), .second, .val (.int p3), .val (.int (Int32.ofNat (k0 + 1))), .val (.int (1 : Int32)), .val (.ref ow), .val (.ref orr), .unset, .unset] [])) _
      refine XT.lloadN X6.here hx rfl (hb hby at_75) rfl ?_
      show Steps p.tables e below (T6.setTop (mkF m 76 #[.val (.long q1), .second, .val (.long q2), .second, .val (.int p3), .val (.int (Int32.ofNat (k0 + 1))), .val (.int (1 : Int32)), .val (.ref ow), .val (.ref orr), .unset, .unset] [(.long q1)])) _
      refine XS.iconst X6.here hx rfl (hb hby at_76) ?_
      show Steps p.tables e below (T6.setTop (mkF m 77 #[.val (.long q1), .second, .val (.long q2), .second, .val (.int p3), .val (.int (Int32.ofNat (k0 + 1))), .val (.int (1 : Int32)), .val (.ref ow), .val (.ref orr), .unset, .unset] [(.int (1 : Int32)), (.long q1)])) _
      refine XT.lshr X6.here hx rfl (hb hby at_77) rfl ?_
      show Steps p.tables e below (T6.setTop (mkF m 78 #[.val (.long q1), .second, .val (.long q2), .second, .val (.int p3), .val (.int (Int32.ofNat (k0 + 1))), .val (.int (1 : Int32)), .val (.ref ow), .val (.ref orr), .unset, .unset] [(.long (q1 >>> ((1 : Int32).toInt64 &&& 63)))])) _
      refine XT.lstore X6.here hx rfl (hb hby at_78) rfl (l' := #[.val (.long q1), .second, .val (.long q2), .second, .val (.int p3), .val (.int (Int32.ofNat (k0 + 1))), .val (.int (1 : Int32)), .val (.ref ow), .val (.ref orr), .val (.long (q1 >>> ((1 : Int32).toInt64 &&& 63))), .second]) rfl ?_
      show Steps p.tables e below (T6.setTop (mkF m 80 #[.val (.long q1), .second, .val (.long q2), .second, .val (.int p3), .val (.int (Int32.ofNat (k0 + 1))), .val (.int (1 : Int32)), .val (.ref ow), .val (.ref orr), .val (.long (q1 >>> ((1 : Int32).toInt64 &&& 63))), .second] [])) _
      refine XS.goto X6.here hx rfl (pc0 := 80) (pc' := 103) rfl (hb hby at_80) (by decide) (by decide) ?_
      exact uK
    obtain ⟨L, x, hL1, hL2, -, hL4⟩ := own_H k0 (q1 &&& (-2 : Int64))
    exact own_t103 q1 q2 p3 k0 1 (q1 >>> ((1 : Int32).toInt64 &&& 63)) L x h0 hk0 hL2 (by rw [hL4, own_sh]) ow ww kw orr rwb kr K X6 rfl N6 Z6 g_ww g_rw ne_ow_rwb ne_ww_rwb ne_ww_orr (by rw [← hL1]; exact Oc6) (Oc6_orr)
  · show OwnGo p e below s _ _ _ T5 (mkF m 59 #[.val (.long q1), .second, .val (.long q2), .second, .val (.int p3), .val (.int (Int32.ofNat (k0 + 1))), .val (.int (0 : Int32)), .val (.ref ow), .val (.ref orr), .unset, .unset] [])
    refine own_st (T' := T5) (g' := (mkF m 87 #[.val (.long q1), .second, .val (.long q2), .second, .val (.int p3), .val (.int (Int32.ofNat (k0 + 1))), .val (.int (0 : Int32)), .val (.ref ow), .val (.ref orr), .unset, .unset] [(.long q1), (.int (1 : Int32)), (.ref ow)])) (fun uT uK => ?_) ?_
    · show Steps p.tables e below (T5.setTop (mkF m 59 #[.val (.long q1), .second, .val (.long q2), .second, .val (.int p3), .val (.int (Int32.ofNat (k0 + 1))), .val (.int (0 : Int32)), .val (.ref ow), .val (.ref orr), .unset, .unset] [])) _
      refine XS.iload X5.here hx rfl (hb hby at_59) rfl ?_
      show Steps p.tables e below (T5.setTop (mkF m 61 #[.val (.long q1), .second, .val (.long q2), .second, .val (.int p3), .val (.int (Int32.ofNat (k0 + 1))), .val (.int (0 : Int32)), .val (.ref ow), .val (.ref orr), .unset, .unset] [(.int (0 : Int32))])) _
      refine XS.ifYes X5.here hx rfl (pc0 := 61) (pc' := 83) rfl (hb hby at_61) rfl (XT.i0_eq_t (by decide)) (by decide) (by decide) ?_
      show Steps p.tables e below (T5.setTop (mkF m 83 #[.val (.long q1), .second, .val (.long q2), .second, .val (.int p3), .val (.int (Int32.ofNat (k0 + 1))), .val (.int (0 : Int32)), .val (.ref ow), .val (.ref orr), .unset, .unset] [])) _
      refine XS.aload X5.here hx rfl (hb hby at_83) rfl rfl ?_
      show Steps p.tables e below (T5.setTop (mkF m 85 #[.val (.long q1), .second, .val (.long q2), .second, .val (.int p3), .val (.int (Int32.ofNat (k0 + 1))), .val (.int (0 : Int32)), .val (.ref ow), .val (.ref orr), .unset, .unset] [(.ref ow)])) _
      refine XS.iconst X5.here hx rfl (hb hby at_85) ?_
      show Steps p.tables e below (T5.setTop (mkF m 86 #[.val (.long q1), .second, .val (.long q2), .second, .val (.int p3), .val (.int (Int32.ofNat (k0 + 1))), .val (.int (0 : Int32)), .val (.ref ow), .val (.ref orr), .unset, .unset] [(.int (1 : Int32)), (.ref ow)])) _
      refine XT.lloadN X5.here hx rfl (hb hby at_86) rfl ?_
      exact uK
    obtain ⟨cq7, kq7, qa7, qb7, qc7⟩ := isOf hZ rfl ((Oc5).1)
    obtain ⟨_, _, ⟨T7, L7, k7, n7⟩, -, X7, ⟨Lc7, hQ7, l7, y7, z7⟩, st7⟩ := X5.virtualBack hx (y := (⟨"com/example/matchwright/matchwright/service/matching/WideArray", "set", "(IJ)V"⟩ : MethodName)) (z := (⟨"com/example/matchwright/matchwright/service/matching/WideArray", "set", "(IJ)V"⟩ : MethodName)) hown (mvT hZ (hw _ (List.mem_of_getElem? (i := 14) rfl))) (mvT hZ (hw _ (List.mem_of_getElem? (i := 15) rfl))) (notFace_of_selects (args := #[]) (mvT hZ (hw _ (List.mem_of_getElem? (i := 17) rfl)))) (mvT hZ (hw _ (List.mem_of_getElem? (i := 17) rfl))) (mvT hZ (hw _ (List.mem_of_getElem? (i := 16) rfl))) (by decide) (backOf (W := 0) (rm3 l Z a0 hw [] ow ww kw k0 (own_limbs k0 q2) [] (own_limbs k0 q1) (1 : Int32) (k0 + 1) q1 T5.heap n0 Z5 (own_zs k0) hk0 (own_limbs_len k0 _) (by simp [own_zs]) (own_oneM (k0 + 1)) g_ww (by rw [List.append_nil]; exact Oc5) rfl) hZ (hw _ (List.mem_of_getElem? (i := 18) rfl)) (hw _ (List.mem_of_getElem? (i := 2) rfl)) (by decide) (by decide)) qa7 qc7 (g := (mkF m 87 #[.val (.long q1), .second, .val (.long q2), .second, .val (.int p3), .val (.int (Int32.ofNat (k0 + 1))), .val (.int (0 : Int32)), .val (.ref ow), .val (.ref orr), .unset, .unset] [(.long q1), (.int (1 : Int32)), (.ref ow)])) rfl (by rw [hml]; rfl) (Steps.refl _) (argsL := [(.int (1 : Int32)), (.long q1)]) (rest := []) (lenOf own_pd3 rfl) rfl (by show 2 * 0 + _ ≤ _; exact Nat.le_of_eq rfl) (hb hby at_87) (fun _ _ => ⟨rfl, rfl, (by decide : 4 + 0 ≤ _), (by decide : 20 + 0 ≤ _)⟩)
    dsimp only [Pt.U, Pt.locs, Pt.cells, Pt.slots] at X7 l7 y7 z7 st7 hQ7
    subst l7 y7 z7
    obtain ⟨rfl, Nq7, Kc7, Oc7⟩ := hQ7
    have N7 := Fr.app N5 Nq7
    refine own_tr st7 ?_
    show OwnGo p e below s _ _ _ T7 (mkF m 90 #[.val (.long q1), .second, .val (.long q2), .second, .val (.int p3), .val (.int (Int32.ofNat (k0 + 1))), .val (.int (0 : Int32)), .val (.ref ow), .val (.ref orr), .unset, .unset] [])
    have Oc7_orr := own_w_keep (Oc5_orr) Kc7 (ninS (Ne.symm ne_ww_orr) nin0) (ninS (Ne.symm ne_ww_rwb) nin0)
    have Z7 : n0 ≤ T7.heap.size := Nat.le_trans Z5 Kc7.1
    refine own_st (T' := T7) (g' := (mkF m 97 #[.val (.long q1), .second, .val (.long q2), .second, .val (.int p3), .val (.int (Int32.ofNat (k0 + 1))), .val (.int (0 : Int32)), .val (.ref ow), .val (.ref orr), .unset, .unset] [(.int (0 : Int32)), (.int (1 : Int32)), (.ref ow), (.int (1 : Int32)), (.ref ow)])) (fun uT uK => ?_) ?_
    · show Steps p.tables e below (T7.setTop (mkF m 90 #[.val (.long q1), .second, .val (.long q2), .second, .val (.int p3), .val (.int (Int32.ofNat (k0 + 1))), .val (.int (0 : Int32)), .val (.ref ow), .val (.ref orr), .unset, .unset] [])) _
      refine XS.aload X7.here hx rfl (hb hby at_90) rfl rfl ?_
      show Steps p.tables e below (T7.setTop (mkF m 92 #[.val (.long q1), .second, .val (.long q2), .second, .val (.int p3), .val (.int (Int32.ofNat (k0 + 1))), .val (.int (0 : Int32)), .val (.ref ow), .val (.ref orr), .unset, .unset] [(.ref ow)])) _
      refine XS.iconst X7.here hx rfl (hb hby at_92) ?_
      show Steps p.tables e below (T7.setTop (mkF m 93 #[.val (.long q1), .second, .val (.long q2), .second, .val (.int p3), .val (.int (Int32.ofNat (k0 + 1))), .val (.int (0 : Int32)), .val (.ref ow), .val (.ref orr), .unset, .unset] [(.int (1 : Int32)), (.ref ow)])) _
      refine XS.aload X7.here hx rfl (hb hby at_93) rfl rfl ?_
      show Steps p.tables e below (T7.setTop (mkF m 95 #[.val (.long q1), .second, .val (.long q2), .second, .val (.int p3), .val (.int (Int32.ofNat (k0 + 1))), .val (.int (0 : Int32)), .val (.ref ow), .val (.ref orr), .unset, .unset] [(.ref ow), (.int (1 : Int32)), (.ref ow)])) _
      refine XS.iconst X7.here hx rfl (hb hby at_95) ?_
      show Steps p.tables e below (T7.setTop (mkF m 96 #[.val (.long q1), .second, .val (.long q2), .second, .val (.int p3), .val (.int (Int32.ofNat (k0 + 1))), .val (.int (0 : Int32)), .val (.ref ow), .val (.ref orr), .unset, .unset] [(.int (1 : Int32)), (.ref ow), (.int (1 : Int32)), (.ref ow)])) _
      refine XS.iconst X7.here hx rfl (hb hby at_96) ?_
      exact uK
    obtain ⟨x, R, hx1, hx2, hok, L, y, hL1, hL2, -, hL4⟩ := own_G k0 q1 0 (Or.inl rfl) (fun q => absurd q (by omega))
    obtain ⟨cq8, kq8, qa8, qb8, qc8⟩ := isOf hZ rfl ((Oc7).1)
    obtain ⟨_, _, ⟨T8, L8, k8, n8⟩, -, X8, ⟨Lc8, hQ8, l8, y8, z8⟩, st8⟩ := X7.virtualBack hx (y := (⟨"com/example/matchwright/matchwright/service/matching/WideArray", "add", "(ILcom/example/matchwright/matchwright/service/matching/WideArray;IZ)V"⟩ : MethodName)) (z := (⟨"com/example/matchwright/matchwright/service/matching/WideArray", "add", "(ILcom/example/matchwright/matchwright/service/matching/WideArray;IZ)V"⟩ : MethodName)) hown (mvT hZ (hw _ (List.mem_of_getElem? (i := 35) rfl))) (mvT hZ (hw _ (List.mem_of_getElem? (i := 36) rfl))) (notFace_of_selects (args := #[]) (mvT hZ (hw _ (List.mem_of_getElem? (i := 38) rfl)))) (mvT hZ (hw _ (List.mem_of_getElem? (i := 38) rfl))) (mvT hZ (hw _ (List.mem_of_getElem? (i := 37) rfl))) (by decide) (backOf (W := 0) (rm7 l Z a0 hw [] ow ww kw k0 (own_limbs k0 q2) [] (own_db x R 0) (1 : Int32) (k0 + 1) x R T7.heap n0 Z7 hk0 (own_limbs_len k0 _) hx2 (own_oneM (k0 + 1)) g_ww (by rw [← hx1]; exact Oc7) hok rfl) hZ (hw _ (List.mem_of_getElem? (i := 39) rfl)) (hw _ (List.mem_of_getElem? (i := 2) rfl)) (by decide) (by decide)) qa8 qc8 (g := (mkF m 97 #[.val (.long q1), .second, .val (.long q2), .second, .val (.int p3), .val (.int (Int32.ofNat (k0 + 1))), .val (.int (0 : Int32)), .val (.ref ow), .val (.ref orr), .unset, .unset] [(.int (0 : Int32)), (.int (1 : Int32)), (.ref ow), (.int (1 : Int32)), (.ref ow)])) rfl (by rw [hml]; rfl) (Steps.refl _) (argsL := [(.int (1 : Int32)), (.ref ow), (.int (1 : Int32)), (.int (0 : Int32))]) (rest := []) (lenOf own_pd6 rfl) rfl (by show 2 * 0 + _ ≤ _; exact Nat.le_of_eq rfl) (hb hby at_97) (fun _ _ => ⟨rfl, rfl, (by decide : 4 + 0 ≤ _), (by decide : 20 + 0 ≤ _)⟩)
    dsimp only [Pt.U, Pt.locs, Pt.cells, Pt.slots] at X8 l8 y8 z8 st8 hQ8
    subst l8 y8 z8
    obtain ⟨rfl, Nq8, Kc8, Oc8⟩ := hQ8
    have N8 := Fr.app N7 Nq8
    refine own_tr st8 ?_
    show OwnGo p e below s _ _ _ T8 (mkF m 100 #[.val (.long q1), .second, .val (.long q2), .second, .val (.int p3), .val (.int (Int32.ofNat (k0 + 1))), .val (.int (0 : Int32)), .val (.ref ow), .val (.ref orr), .unset, .unset] [])
    have Oc8_orr := own_w_keep (Oc7_orr) Kc8 (ninS (Ne.symm ne_ww_orr) nin0) (ninS (Ne.symm ne_ww_rwb) nin0)
    have Z8 : n0 ≤ T8.heap.size := Nat.le_trans Z7 Kc8.1
    refine own_st (T' := T8) (g' := (mkF m 103 #[.val (.long q1), .second, .val (.long q2), .second, .val (.int p3), .val (.int (Int32.ofNat (k0 + 1))), .val (.int (0 : Int32)), .val (.ref ow), .val (.ref orr), .val (.long q1), .second] [])) (fun uT uK => ?_) ?_
    · show Steps p.tables e below (T8.setTop (mkF m 100 #[.val (.long q1), .second, .val (.long q2), .second, .val (.int p3), .val (.int (Int32.ofNat (k0 + 1))), .val (.int (0 : Int32)), .val (.ref ow), .val (.ref orr), .unset, .unset] [])) _
      refine XT.lloadN X8.here hx rfl (hb hby at_100) rfl ?_
      show Steps p.tables e below (T8.setTop (mkF m 101 #[.val (.long q1), .second, .val (.long q2), .second, .val (.int p3), .val (.int (Int32.ofNat (k0 + 1))), .val (.int (0 : Int32)), .val (.ref ow), .val (.ref orr), .unset, .unset] [(.long q1)])) _
      refine XT.lstore X8.here hx rfl (hb hby at_101) rfl (l' := #[.val (.long q1), .second, .val (.long q2), .second, .val (.int p3), .val (.int (Int32.ofNat (k0 + 1))), .val (.int (0 : Int32)), .val (.ref ow), .val (.ref orr), .val (.long q1), .second]) rfl ?_
      exact uK
    exact own_t103 q1 q2 p3 k0 0 q1 L y h0 hk0 hL2 hL4 ow ww kw orr rwb kr K X8 rfl N8 Z8 g_ww g_rw ne_ow_rwb ne_ww_rwb ne_ww_orr (by rw [← hL1]; exact Oc8) (Oc8_orr)
theorem own_ef_rm0 (m : MethodId) (x0 : Int64) (x1 : Int64) (x2 : Int32) : entryFrame m #[(.long x0), (.long x1), (.int x2)] maxLocals = mkF m 0 #[.val (.long x0), .second, .val (.long x1), .second, .val (.int x2), .unset, .unset, .unset, .unset, .unset, .unset] [] := by first | (simp [entryFrame, mkF, argsToLocals, Value.category, maxLocals]; done) | rfl
set_option maxRecDepth 65536 in
set_option maxHeartbeats 40000000 in
theorem rm0 (l : Launch) (Z : State) (a0 : Array Value) (hw : ∀ d ∈ tables_1, d.before a0 Z = true) (ws : List Jvm.Cond) (q1 : Int64) (q2 : Int64) (p3 : Int32) (h0 : Heap) (n0 : Nat) (Z0 : n0 ≤ h0.size) :
    MetFree l x (head1 (Jvm.Cond.code x code maxLocals ret :: ws) room_1) (fun aQ UQ => aQ = #[(.long q1), (.long q2), (.int p3)] ∧ Z.Warmed39 UQ.vm ∧ UQ.heap = h0) (fun _ _ _ _ _ => True) (fun _ UQ oQ UR => ∃ vQ LQ, oQ = .returned vQ ∧ Q0 Z q1 q2 p3 h0 n0 vQ UR.heap LQ ∧ FrameEnd UQ oQ UR LQ room_1.cells room_1.slots) := by
  refine MetFree.of_bodySF (plainFor_of_name pn_0) hisR ?_
  intro p e s m args below meth c s₁ Bd hml0 hP hK
  obtain ⟨rfl, hZ, hh⟩ := hP
  have hx := Bd.exec
  have hby := Bd.bytes
  have hml : c.maxLocals = 11 := hml0
  have hown : s.vm.findClass "com/example/matchwright/matchwright/service/matching/WideArrayHalvePinLaw" = some m.cls := findClass_of_methodNamed Bd.named
  have hnm := (name_of_methodNamed Bd.named Bd.method).1
  have hret := Bd.returns
  have hlk : meth.locks = false := Bd.notSynchronized
  have X0 : Stand p l e room_1 s m #[(.long q1), (.long q2), (.int p3)] below meth c s₁ [] 0 0 := Stand.of_body Bd
  have e0 : s₁.heap = h0 := by rw [← hh, Bd.state]; rfl
  have N0 := Fr.nil n0
  have K : Ctx0 p s m meth c Z a0 := ⟨hx, hZ, hw, hby, hml, hown, hret, hlk, hnm⟩
  show OwnGo p e below s room_1.cells room_1.slots (Q0 Z q1 q2 p3 h0 n0) s₁ (entryFrame m #[(.long q1), (.long q2), (.int p3)] maxLocals)
  refine own_cast (own_ef_rm0 m q1 q2 p3) ?_
  show OwnGo p e below s _ _ _ s₁ (mkF m 0 #[.val (.long q1), .second, .val (.long q2), .second, .val (.int p3), .unset, .unset, .unset, .unset, .unset, .unset] [])
  refine own_st (T' := s₁) (g' := (mkF m 6 #[.val (.long q1), .second, .val (.long q2), .second, .val (.int p3), .unset, .unset, .unset, .unset, .unset, .unset] [(.int ((1 : Int32) + (p3 &&& (3 : Int32))))])) (fun uT uK => ?_) ?_
  · show Steps p.tables e below (s₁.setTop (mkF m 0 #[.val (.long q1), .second, .val (.long q2), .second, .val (.int p3), .unset, .unset, .unset, .unset, .unset, .unset] [])) _
    refine XS.iconst X0.here hx rfl (hb hby at_0) ?_
    show Steps p.tables e below (s₁.setTop (mkF m 1 #[.val (.long q1), .second, .val (.long q2), .second, .val (.int p3), .unset, .unset, .unset, .unset, .unset, .unset] [(.int (1 : Int32))])) _
    refine XS.iload X0.here hx rfl (hb hby at_1) rfl ?_
    show Steps p.tables e below (s₁.setTop (mkF m 3 #[.val (.long q1), .second, .val (.long q2), .second, .val (.int p3), .unset, .unset, .unset, .unset, .unset, .unset] [(.int p3), (.int (1 : Int32))])) _
    refine XS.iconst X0.here hx rfl (hb hby at_3) ?_
    show Steps p.tables e below (s₁.setTop (mkF m 4 #[.val (.long q1), .second, .val (.long q2), .second, .val (.int p3), .unset, .unset, .unset, .unset, .unset, .unset] [(.int (3 : Int32)), (.int p3), (.int (1 : Int32))])) _
    refine XS.iand X0.here hx rfl (hb hby at_4) rfl ?_
    show Steps p.tables e below (s₁.setTop (mkF m 5 #[.val (.long q1), .second, .val (.long q2), .second, .val (.int p3), .unset, .unset, .unset, .unset, .unset, .unset] [(.int (p3 &&& (3 : Int32))), (.int (1 : Int32))])) _
    refine XS.iadd X0.here hx rfl (hb hby at_5) rfl ?_
    exact uK
  obtain ⟨k0, hk0, hlim⟩ := own_lim p3
  rw [hlim]
  show OwnGo p e below s _ _ _ s₁ (mkF m 6 #[.val (.long q1), .second, .val (.long q2), .second, .val (.int p3), .unset, .unset, .unset, .unset, .unset, .unset] [(.int (Int32.ofNat (k0 + 1)))])
  refine own_st (T' := s₁) (g' := (mkF m 11 #[.val (.long q1), .second, .val (.long q2), .second, .val (.int p3), .val (.int (Int32.ofNat (k0 + 1))), .unset, .unset, .unset, .unset, .unset] [(.int (1 : Int32)), (.int (Int32.ofNat (k0 + 1)))])) (fun uT uK => ?_) ?_
  · show Steps p.tables e below (s₁.setTop (mkF m 6 #[.val (.long q1), .second, .val (.long q2), .second, .val (.int p3), .unset, .unset, .unset, .unset, .unset, .unset] [(.int (Int32.ofNat (k0 + 1)))])) _
    refine XS.istore X0.here hx rfl (hb hby at_6) rfl (l' := #[.val (.long q1), .second, .val (.long q2), .second, .val (.int p3), .val (.int (Int32.ofNat (k0 + 1))), .unset, .unset, .unset, .unset, .unset]) rfl ?_
    show Steps p.tables e below (s₁.setTop (mkF m 8 #[.val (.long q1), .second, .val (.long q2), .second, .val (.int p3), .val (.int (Int32.ofNat (k0 + 1))), .unset, .unset, .unset, .unset, .unset] [])) _
    refine XS.iload X0.here hx rfl (hb hby at_8) rfl ?_
    show Steps p.tables e below (s₁.setTop (mkF m 10 #[.val (.long q1), .second, .val (.long q2), .second, .val (.int p3), .val (.int (Int32.ofNat (k0 + 1))), .unset, .unset, .unset, .unset, .unset] [(.int (Int32.ofNat (k0 + 1)))])) _
    refine XS.iconst X0.here hx rfl (hb hby at_10) ?_
    exact uK
  by_cases hc11 : (Int32.ofNat (k0 + 1)) = (1 : Int32)
  · refine own_st (T' := s₁) (g' := (mkF m 26 #[.val (.long q1), .second, .val (.long q2), .second, .val (.int p3), .val (.int (Int32.ofNat (k0 + 1))), .unset, .unset, .unset, .unset, .unset] [(.int (1 : Int32))])) (fun uT uK => ?_) ?_
    · show Steps p.tables e below (s₁.setTop (mkF m 11 #[.val (.long q1), .second, .val (.long q2), .second, .val (.int p3), .val (.int (Int32.ofNat (k0 + 1))), .unset, .unset, .unset, .unset, .unset] [(.int (1 : Int32)), (.int (Int32.ofNat (k0 + 1)))])) _
      refine XS.icmpYes X0.here hx rfl (pc0 := 11) (pc' := 21) rfl (hb hby at_11) rfl (XT.ii_eq_t hc11) (by decide) (by decide) ?_
      show Steps p.tables e below (s₁.setTop (mkF m 21 #[.val (.long q1), .second, .val (.long q2), .second, .val (.int p3), .val (.int (Int32.ofNat (k0 + 1))), .unset, .unset, .unset, .unset, .unset] [])) _
      refine XS.iconst X0.here hx rfl (hb hby at_21) ?_
      show Steps p.tables e below (s₁.setTop (mkF m 22 #[.val (.long q1), .second, .val (.long q2), .second, .val (.int p3), .val (.int (Int32.ofNat (k0 + 1))), .unset, .unset, .unset, .unset, .unset] [(.int (1 : Int32))])) _
      refine XS.goto X0.here hx rfl (pc0 := 22) (pc' := 26) rfl (hb hby at_22) (by decide) (by decide) ?_
      exact uK
    exact own_t26 q1 q2 p3 k0 (1 : Int32) h0 hk0 (Or.inl rfl) K X0 e0 N0 Z0
  · refine own_st (T' := s₁) (g' := (mkF m 18 #[.val (.long q1), .second, .val (.long q2), .second, .val (.int p3), .val (.int (Int32.ofNat (k0 + 1))), .unset, .unset, .unset, .unset, .unset] [(.int (p3 &&& (4 : Int32)))])) (fun uT uK => ?_) ?_
    · show Steps p.tables e below (s₁.setTop (mkF m 11 #[.val (.long q1), .second, .val (.long q2), .second, .val (.int p3), .val (.int (Int32.ofNat (k0 + 1))), .unset, .unset, .unset, .unset, .unset] [(.int (1 : Int32)), (.int (Int32.ofNat (k0 + 1)))])) _
      refine XS.icmpNo X0.here hx rfl (hb hby at_11) rfl (XT.ii_eq_f hc11) ?_
      show Steps p.tables e below (s₁.setTop (mkF m 14 #[.val (.long q1), .second, .val (.long q2), .second, .val (.int p3), .val (.int (Int32.ofNat (k0 + 1))), .unset, .unset, .unset, .unset, .unset] [])) _
      refine XS.iload X0.here hx rfl (hb hby at_14) rfl ?_
      show Steps p.tables e below (s₁.setTop (mkF m 16 #[.val (.long q1), .second, .val (.long q2), .second, .val (.int p3), .val (.int (Int32.ofNat (k0 + 1))), .unset, .unset, .unset, .unset, .unset] [(.int p3)])) _
      refine XS.iconst X0.here hx rfl (hb hby at_16) ?_
      show Steps p.tables e below (s₁.setTop (mkF m 17 #[.val (.long q1), .second, .val (.long q2), .second, .val (.int p3), .val (.int (Int32.ofNat (k0 + 1))), .unset, .unset, .unset, .unset, .unset] [(.int (4 : Int32)), (.int p3)])) _
      refine XS.iand X0.here hx rfl (hb hby at_17) rfl ?_
      exact uK
    by_cases hc18 : (p3 &&& (4 : Int32)) = (0 : Int32)
    · refine own_st (T' := s₁) (g' := (mkF m 26 #[.val (.long q1), .second, .val (.long q2), .second, .val (.int p3), .val (.int (Int32.ofNat (k0 + 1))), .unset, .unset, .unset, .unset, .unset] [(.int (0 : Int32))])) (fun uT uK => ?_) ?_
      · show Steps p.tables e below (s₁.setTop (mkF m 18 #[.val (.long q1), .second, .val (.long q2), .second, .val (.int p3), .val (.int (Int32.ofNat (k0 + 1))), .unset, .unset, .unset, .unset, .unset] [(.int (p3 &&& (4 : Int32)))])) _
        refine XS.ifYes X0.here hx rfl (pc0 := 18) (pc' := 25) rfl (hb hby at_18) rfl (XT.i0_eq_t hc18) (by decide) (by decide) ?_
        show Steps p.tables e below (s₁.setTop (mkF m 25 #[.val (.long q1), .second, .val (.long q2), .second, .val (.int p3), .val (.int (Int32.ofNat (k0 + 1))), .unset, .unset, .unset, .unset, .unset] [])) _
        refine XS.iconst X0.here hx rfl (hb hby at_25) ?_
        exact uK
      exact own_t26 q1 q2 p3 k0 (0 : Int32) h0 hk0 (Or.inr ⟨rfl, by have := mt (own_eqN (i := k0 + 1) (j := 1) (by omega) (by omega)).mpr hc11; omega⟩) K X0 e0 N0 Z0
    · refine own_st (T' := s₁) (g' := (mkF m 26 #[.val (.long q1), .second, .val (.long q2), .second, .val (.int p3), .val (.int (Int32.ofNat (k0 + 1))), .unset, .unset, .unset, .unset, .unset] [(.int (1 : Int32))])) (fun uT uK => ?_) ?_
      · show Steps p.tables e below (s₁.setTop (mkF m 18 #[.val (.long q1), .second, .val (.long q2), .second, .val (.int p3), .val (.int (Int32.ofNat (k0 + 1))), .unset, .unset, .unset, .unset, .unset] [(.int (p3 &&& (4 : Int32)))])) _
        refine XS.ifNo X0.here hx rfl (hb hby at_18) rfl (XT.i0_eq_f hc18) ?_
        show Steps p.tables e below (s₁.setTop (mkF m 21 #[.val (.long q1), .second, .val (.long q2), .second, .val (.int p3), .val (.int (Int32.ofNat (k0 + 1))), .unset, .unset, .unset, .unset, .unset] [])) _
        refine XS.iconst X0.here hx rfl (hb hby at_21) ?_
        show Steps p.tables e below (s₁.setTop (mkF m 22 #[.val (.long q1), .second, .val (.long q2), .second, .val (.int p3), .val (.int (Int32.ofNat (k0 + 1))), .unset, .unset, .unset, .unset, .unset] [(.int (1 : Int32))])) _
        refine XS.goto X0.here hx rfl (pc0 := 22) (pc' := 26) rfl (hb hby at_22) (by decide) (by decide) ?_
        exact uK
      exact own_t26 q1 q2 p3 k0 (1 : Int32) h0 hk0 (Or.inl rfl) K X0 e0 N0 Z0
set_option maxRecDepth 65536 in
set_option maxHeartbeats 40000000 in
theorem comes_1 {Post : Tables → Env → Array Value → State → Outcome → State → Prop} (hpost : ∀ tb e args s v u, (limb_1_1.after args s (.returned v) u = true ∧ limb_1_2.after args s (.returned v) u = true ∧ True) → FrameEnd s (.returned v) u (Jvm.fieldLocs frame_1_writes args s ++ Jvm.arrayLocs frame_1_arrays args s ++ Jvm.staticLocs frame_1_statics s) 16 128 → Post tb e args s (.returned v) u) :
    ArmFor flags0 classFile x code maxLocals ret World_1 tables_1 room_1 Calls_1 rest_1 Pre_1 Post := by
  intro l hfl _ _ p e ha hc hk s m args below hf hA hF happ hP
  obtain ⟨hcalls, hrest, hpre⟩ := hP
  obtain ⟨-, -, -, hnamed, -, -, -, hat⟩ := (Spec.applies_iff hf).mp happ
  obtain ⟨hg, hn⟩ := and_e (Cond.before_iff.mp (show (Jvm.Cond.and given_1 narrow_1).before args s = true from hpre))
  obtain ⟨hcount, ha0⟩ := and_e hg
  obtain ⟨hv0, ha1⟩ := and_e ha0
  obtain ⟨hv1, ha2⟩ := and_e ha1
  have hv2 := ha2
  obtain ⟨w0, w1, w2, rfl⟩ : ∃ w0 w1 w2 : Value, args = #[w0, w1, w2] := by
    have hs : args.size = 3 := by simpa [Cond.value, given_1] using hcount
    obtain ⟨L⟩ := args
    match L, hs with
    | [w0, w1, w2], _ => exact ⟨w0, w1, w2, rfl⟩
  have hw := fun d (hd : d ∈ tables_1) => atoms_spec (ws := Jvm.Cond.code x code maxLocals ret :: tables_1) hat d (List.mem_cons_of_mem _ hd)
  obtain ⟨i0, ei0⟩ := isL_v hv0
  obtain rfl : w0 = (.long i0) := Option.some.inj ei0
  obtain ⟨i1, ei1⟩ := isL_v hv1
  obtain rfl : w1 = (.long i1) := Option.some.inj ei1
  obtain ⟨i2, ei2⟩ := is_v hv2
  obtain rfl : w2 = (.int i2) := Option.some.inj ei2
  obtain ⟨n, o, h1, h2, h3, _, L, rfl, ⟨rfl, N⟩, hq⟩ := rm0 l s _ hw tables_1 i0 i1 i2 s.heap s.heap.size (Nat.le_refl _) p e ha hc hk s m _ below hf ((Spec.applies_iff_loose hf).mp happ).1 ⟨rfl, State.Warmed39.refl s, rfl⟩ trivial
  refine ⟨n, _, h1, h2, h3, hpost _ _ _ _ _ _ ⟨Cond.after_iff.mpr rfl, Cond.after_iff.mpr (eq_i res_at (Term.int_eval (1)) rfl), trivial⟩ ⟨hq.1, hq.2.1, (hq.2.2.sift fun y hy => Or.inr (N y hy)).mono (by decide) (by decide)⟩⟩
theorem main_1_1 : Claimed_1_1 := comes_1 fun _ _ _ _ _ _ h hF => ⟨h.1, hF⟩
theorem main_1_2 : Claimed_1_2 := comes_1 fun _ _ _ _ _ _ h hF => ⟨h.2.1, hF⟩
end Jvm.Pilot.@@N@@
namespace Jvm.Pilot.@@N@@
open Jvm Jvm.ClassFile Sem Op Lib Jvm.Free Jvm.Stand Jvm.Pilot.@@N@@.Jvm.D
/-! MADE BY PROGRAM (witnessworld.py) out of the Statement's table words and the real class files: 17 classes; the members and pool entries that the words name. The judged class is class 1, her method 1. -/
namespace start1
open Jvm.ClassFile
def u (s : String) : CpInfo := .utf8 (stringToUtf16 s)
/-- a pool by its gaps: so many unusable entries, then the entry; so many at the end -/
def gap : Nat → List CpInfo → List CpInfo
  | 0, r => r
  | n + 1, r => .unusable :: gap n r
def poolList (es : List (Nat × CpInfo)) (last : Nat) : List CpInfo := es.foldr (fun e r => gap e.1 (e.2 :: r)) (gap last [])
def pool (es : List (Nat × CpInfo)) (last : Nat) : Array CpInfo := ⟨poolList es last⟩
def fileOf (pool : Array CpInfo) (this : Nat) (attrs : Array Attribute := #[]) (ms : Array MethodInfo := #[]) (fl : Nat := 33) (sup : Nat := 0) (ifs : Array Nat := #[]) (fds : Array FieldInfo := #[]) : ClassFile where
  minorVersion := 0
  majorVersion := 65
  constantPool := pool
  accessFlags := fl
  thisClass := this
  superClass := sup
  interfaces := ifs
  fields := fds
  methods := ms
  attributes := attrs
def plain (name : String) (sup : Option ClassId) : Class where
  name := name
  kind := .ordinary
  loader := none
  accessFlags := 33
  super := sup
  interfaces := #[]
  cf := none
  fields := #[]
  methods := #[]
  instanceTypes := #[]
  staticTypes := #[]
  resolved := #[]
  callSites := []
  init := .initialized
  statics := none
  mirror := none

def pool0 : Array CpInfo := pool [(5, u "<init>"), (0, u "()V"), (1, .class_ 10), (1, u "java/lang/Object")] 113

def k0c0 : Code := { maxStack := 0, maxLocals := 1, code := object_method_1_code, exceptionTable := #[], attributes := #[] }
def k0m0 : Method := { name := "<init>", desc := "()V", sig := { parameters := [], returnType := none }, accessFlags := 1, code := some k0c0 }
/-- java/lang/Object -/
def k0 : Class := { plain "java/lang/Object" none with
  accessFlags := 33
  interfaces := #[]
  cf := some (fileOf pool0 8 #[] #[{ accessFlags := 1, nameIndex := 5, descriptorIndex := 6, attributes := #[] }] 33 0 #[] #[])
  fields := #[]
  methods := #[k0m0]
  instanceTypes := #[]
  staticTypes := #[]
  resolved := Array.replicate 124 none
  statics := none }

def pool1 : Array CpInfo := pool [(2, .class_ 4), (1, u "java/lang/Object"), (0, u "<init>"), (0, u "()V"), (0, .class_ 8), (0, u "com/example/matchwright/matchwright/service/matching/WideArray"), (0, .methodref 7 10), (0, .nameAndType 5 11), (0, u "(II)V"), (0, .methodref 7 13), (0, .nameAndType 14 15), (0, u "set"), (0, u "(IJ)V"), (0, .long 18446744073709551614), (1, .methodref 7 19), (0, .nameAndType 20 21), (0, u "add"), (0, u "(ILcom/example/matchwright/matchwright/service/matching/WideArray;IZ)V"), (0, .methodref 7 23), (0, .nameAndType 24 25), (0, u "halve"), (0, u "(I)V"), (0, .methodref 7 27), (0, .nameAndType 28 29), (0, u "compare"), (0, u "(ILcom/example/matchwright/matchwright/service/matching/WideArray;I)I"), (0, .class_ 31), (0, u "com/example/matchwright/matchwright/service/matching/WideArrayHalvePinLaw"), (2, u "law"), (0, u "(JJI)Z")] 3

def k1m0 : Method := { name := "<init>", desc := "()V", sig := { parameters := [], returnType := none }, accessFlags := 1, code := none }
def k1c1 : Code := { maxStack := 6, maxLocals := 11, code := code, exceptionTable := #[], attributes := #[] }
def k1m1 : Method := { name := "law", desc := "(JJI)Z", sig := { parameters := [.long, .long, .int], returnType := some .boolean }, accessFlags := 9, code := some k1c1 }
/-- com/example/matchwright/matchwright/service/matching/WideArrayHalvePinLaw -/
def k1 : Class := { plain "com/example/matchwright/matchwright/service/matching/WideArrayHalvePinLaw" (some 0) with
  accessFlags := 49
  interfaces := #[]
  cf := some (fileOf pool1 30 #[] #[{ accessFlags := 1, nameIndex := 5, descriptorIndex := 6, attributes := #[] }, { accessFlags := 9, nameIndex := 34, descriptorIndex := 35, attributes := #[] }] 49 2 #[] #[])
  fields := #[]
  methods := #[k1m0, k1m1]
  instanceTypes := #[]
  staticTypes := #[]
  resolved := Array.replicate 39 none
  statics := none }

def pool2 : Array CpInfo := pool [(1, .class_ 2), (0, u "com/example/matchwright/matchwright/service/matching/WideArray"), (0, .methodref 4 5), (0, .class_ 6), (0, .nameAndType 7 8), (0, u "java/lang/Object"), (0, u "<init>"), (0, u "()V"), (0, .fieldref 1 10), (0, .nameAndType 11 12), (0, u "limbs"), (0, u "I"), (0, .fieldref 1 14), (0, .nameAndType 15 16), (0, u "words"), (0, u "[J"), (1, .class_ 20), (1, u "java/lang/Math"), (13, .class_ 35), (0, u "java/lang/Long"), (17, u "set"), (0, u "(IJ)V"), (8, .long 4611686018427387903), (9, .methodref 34 74), (0, .nameAndType 75 76), (0, u "compare"), (0, u "(JJ)I"), (6, .methodref 18 84), (0, .nameAndType 85 86), (0, u "addExact"), (0, u "(JJ)J"), (3, u "LIMB_BITS"), (2, u "LIMB_MASK"), (0, u "J"), (0, u "(II)V"), (10, u "(ILcom/example/matchwright/matchwright/service/matching/WideArray;I)I"), (4, u "add"), (0, u "(ILcom/example/matchwright/matchwright/service/matching/WideArray;IZ)V"), (0, u "halve"), (0, u "(I)V")] 17

def k2c0 : Code := { maxStack := 3, maxLocals := 3, code := prog_131_method_1_code, exceptionTable := #[], attributes := #[] }
def k2m0 : Method := { name := "<init>", desc := "(II)V", sig := { parameters := [.int, .int], returnType := none }, accessFlags := 0, code := some k2c0 }
def k2c1 : Code := { maxStack := 6, maxLocals := 9, code := prog_131_method_4_code, exceptionTable := #[], attributes := #[] }
def k2m1 : Method := { name := "set", desc := "(IJ)V", sig := { parameters := [.int, .long], returnType := none }, accessFlags := 0, code := some k2c1 }
def k2c2 : Code := { maxStack := 5, maxLocals := 8, code := prog_131_method_8_code, exceptionTable := #[], attributes := #[] }
def k2m2 : Method := { name := "compare", desc := "(ILcom/example/matchwright/matchwright/service/matching/WideArray;I)I", sig := { parameters := [.int, (.object "com/example/matchwright/matchwright/service/matching/WideArray"), .int], returnType := some .int }, accessFlags := 0, code := some k2c2 }
def k2c3 : Code := { maxStack := 6, maxLocals := 15, code := prog_131_method_11_code, exceptionTable := #[], attributes := #[] }
def k2m3 : Method := { name := "add", desc := "(ILcom/example/matchwright/matchwright/service/matching/WideArray;IZ)V", sig := { parameters := [.int, (.object "com/example/matchwright/matchwright/service/matching/WideArray"), .int, .boolean], returnType := none }, accessFlags := 0, code := some k2c3 }
def k2c4 : Code := { maxStack := 7, maxLocals := 8, code := prog_131_method_12_code, exceptionTable := #[], attributes := #[] }
def k2m4 : Method := { name := "halve", desc := "(I)V", sig := { parameters := [.int], returnType := none }, accessFlags := 0, code := some k2c4 }
/-- com/example/matchwright/matchwright/service/matching/WideArray -/
def k2 : Class := { plain "com/example/matchwright/matchwright/service/matching/WideArray" (some 0) with
  accessFlags := 48
  interfaces := #[]
  cf := some (fileOf pool2 1 #[] #[{ accessFlags := 0, nameIndex := 7, descriptorIndex := 95, attributes := #[] }, { accessFlags := 0, nameIndex := 53, descriptorIndex := 54, attributes := #[] }, { accessFlags := 0, nameIndex := 75, descriptorIndex := 106, attributes := #[] }, { accessFlags := 0, nameIndex := 111, descriptorIndex := 112, attributes := #[] }, { accessFlags := 0, nameIndex := 113, descriptorIndex := 114, attributes := #[] }] 48 4 #[] #[{ accessFlags := 26, nameIndex := 90, descriptorIndex := 12, attributes := #[] }, { accessFlags := 26, nameIndex := 93, descriptorIndex := 94, attributes := #[] }, { accessFlags := 18, nameIndex := 11, descriptorIndex := 12, attributes := #[] }, { accessFlags := 18, nameIndex := 15, descriptorIndex := 16, attributes := #[] }])
  fields := #[{ name := "LIMB_BITS", type := .int, accessFlags := 26, slot := 0, constantValue := 0 }, { name := "LIMB_MASK", type := .long, accessFlags := 26, slot := 1, constantValue := 0 }, { name := "limbs", type := .int, accessFlags := 18, slot := 0, constantValue := 0 }, { name := "words", type := (.array .long), accessFlags := 18, slot := 1, constantValue := 0 }]
  methods := #[k2m0, k2m1, k2m2, k2m3, k2m4]
  instanceTypes := #[.int, (.array .long)]
  staticTypes := #[.int, .long]
  resolved := Array.replicate 132 none
  statics := none }

def pool3 : Array CpInfo := pool [(1, .class_ 2), (0, u "java/io/Serializable"), (0, .class_ 4), (0, u "java/lang/Object")] 2

/-- java/io/Serializable -/
def k3 : Class := { plain "java/io/Serializable" (some 0) with
  accessFlags := 1537
  interfaces := #[]
  cf := some (fileOf pool3 1 #[] #[] 1537 3 #[] #[])
  fields := #[]
  methods := #[]
  instanceTypes := #[]
  staticTypes := #[]
  resolved := Array.replicate 7 none
  statics := none }

def pool4 : Array CpInfo := pool [(2, .class_ 4), (1, u "java/lang/Object"), (0, u "<init>"), (0, u "()V"), (1, .class_ 10), (1, u "java/lang/Number"), (2, .class_ 14), (0, u "java/io/Serializable"), (0, u "serialVersionUID"), (0, u "J")] 20

def k4m0 : Method := { name := "<init>", desc := "()V", sig := { parameters := [], returnType := none }, accessFlags := 1, code := none }
/-- java/lang/Number -/
def k4 : Class := { plain "java/lang/Number" (some 0) with
  accessFlags := 1057
  interfaces := #[3]
  cf := some (fileOf pool4 8 #[] #[{ accessFlags := 1, nameIndex := 5, descriptorIndex := 6, attributes := #[] }] 1057 2 #[13] #[{ accessFlags := 26, nameIndex := 15, descriptorIndex := 16, attributes := #[] }])
  fields := #[{ name := "serialVersionUID", type := .long, accessFlags := 26, slot := 0, constantValue := 0 }]
  methods := #[k4m0]
  instanceTypes := #[]
  staticTypes := #[.long]
  resolved := Array.replicate 37 none
  statics := none }

def pool5 : Array CpInfo := pool [(1, .class_ 2), (0, u "java/lang/Comparable"), (0, .class_ 4), (0, u "java/lang/Object")] 7

/-- java/lang/Comparable -/
def k5 : Class := { plain "java/lang/Comparable" (some 0) with
  accessFlags := 1537
  interfaces := #[]
  cf := some (fileOf pool5 1 #[] #[] 1537 3 #[] #[])
  fields := #[]
  methods := #[]
  instanceTypes := #[]
  staticTypes := #[]
  resolved := Array.replicate 12 none
  statics := none }

def pool6 : Array CpInfo := pool [(1, .class_ 2), (0, u "java/lang/constant/Constable"), (0, .class_ 4), (0, u "java/lang/Object")] 6

/-- java/lang/constant/Constable -/
def k6 : Class := { plain "java/lang/constant/Constable" (some 0) with
  accessFlags := 1537
  interfaces := #[]
  cf := some (fileOf pool6 1 #[] #[] 1537 3 #[] #[])
  fields := #[]
  methods := #[]
  instanceTypes := #[]
  staticTypes := #[]
  resolved := Array.replicate 11 none
  statics := none }

def pool7 : Array CpInfo := pool [(1, .class_ 2), (0, u "java/lang/constant/ConstantDesc"), (0, .class_ 4), (0, u "java/lang/Object")] 32

/-- java/lang/constant/ConstantDesc -/
def k7 : Class := { plain "java/lang/constant/ConstantDesc" (some 0) with
  accessFlags := 1537
  interfaces := #[]
  cf := some (fileOf pool7 1 #[] #[] 1537 3 #[] #[])
  fields := #[]
  methods := #[]
  instanceTypes := #[]
  staticTypes := #[]
  resolved := Array.replicate 37 none
  statics := none }

def pool8 : Array CpInfo := pool [(1, .class_ 2), (0, u "java/lang/Long"), (232, .class_ 237), (1, u "java/lang/Long$LongCache"), (33, .class_ 272), (0, u "java/lang/Number"), (2, u "value"), (0, u "J"), (27, u "compare"), (0, u "(JJ)I"), (55, u "TYPE"), (0, u "Ljava/lang/Class;"), (0, .class_ 364), (0, u "java/lang/Comparable"), (0, .class_ 366), (0, u "java/lang/constant/Constable"), (0, .class_ 368), (0, u "java/lang/constant/ConstantDesc"), (0, u "MIN_VALUE"), (1, u "MAX_VALUE"), (4, u "SIZE"), (0, u "I"), (1, u "BYTES"), (1, u "serialVersionUID")] 142

def k8c0 : Code := { maxStack := 4, maxLocals := 4, code := jdk_35_method_42_code, exceptionTable := #[], attributes := #[] }
def k8m0 : Method := { name := "compare", desc := "(JJ)I", sig := { parameters := [.long, .long], returnType := some .int }, accessFlags := 9, code := some k8c0 }
/-- java/lang/Long -/
def k8 : Class := { plain "java/lang/Long" (some 4) with
  accessFlags := 49
  interfaces := #[5, 6, 7]
  cf := some (fileOf pool8 1 #[.nestMembers #[235]] #[{ accessFlags := 9, nameIndex := 304, descriptorIndex := 305, attributes := #[] }] 49 271 #[363, 365, 367] #[{ accessFlags := 25, nameIndex := 369, descriptorIndex := 276, attributes := #[] }, { accessFlags := 25, nameIndex := 371, descriptorIndex := 276, attributes := #[] }, { accessFlags := 25, nameIndex := 361, descriptorIndex := 362, attributes := #[] }, { accessFlags := 18, nameIndex := 275, descriptorIndex := 276, attributes := #[] }, { accessFlags := 25, nameIndex := 376, descriptorIndex := 377, attributes := #[] }, { accessFlags := 25, nameIndex := 379, descriptorIndex := 377, attributes := #[] }, { accessFlags := 26, nameIndex := 381, descriptorIndex := 276, attributes := #[] }])
  fields := #[{ name := "MIN_VALUE", type := .long, accessFlags := 25, slot := 0, constantValue := 0 }, { name := "MAX_VALUE", type := .long, accessFlags := 25, slot := 1, constantValue := 0 }, { name := "TYPE", type := (.object "java/lang/Class"), accessFlags := 25, slot := 2, constantValue := 0 }, { name := "value", type := .long, accessFlags := 18, slot := 0, constantValue := 0 }, { name := "SIZE", type := .int, accessFlags := 25, slot := 3, constantValue := 0 }, { name := "BYTES", type := .int, accessFlags := 25, slot := 4, constantValue := 0 }, { name := "serialVersionUID", type := .long, accessFlags := 26, slot := 5, constantValue := 0 }]
  methods := #[k8m0]
  instanceTypes := #[.long]
  staticTypes := #[.long, .long, (.object "java/lang/Class"), .int, .int, .long]
  resolved := Array.replicate 524 none
  statics := none }

def pool9 : Array CpInfo := pool [(1, .class_ 2), (0, u "java/lang/Math"), (1, .class_ 6), (1, u "java/lang/Object"), (0, u "<init>"), (0, u "()V"), (89, .class_ 100), (1, u "java/lang/Math$RandomNumberGeneratorHolder"), (20, u "(JJ)J"), (50, u "negativeZeroFloatBits"), (0, u "J"), (2, u "negativeZeroDoubleBits"), (68, u "$assertionsDisabled"), (0, u "Z"), (91, u "twoToTheDoubleScaleDown"), (0, u "D"), (4, u "twoToTheDoubleScaleUp"), (9, u "E"), (3, u "PI"), (2, u "TAU"), (2, u "DEGREES_TO_RADIANS"), (0, u "RADIANS_TO_DEGREES"), (27, u "addExact")] 66

def k9m0 : Method := { name := "<init>", desc := "()V", sig := { parameters := [], returnType := none }, accessFlags := 2, code := none }
def k9c1 : Code := { maxStack := 6, maxLocals := 6, code := jdk_29_method_25_code, exceptionTable := #[], attributes := #[] }
def k9m1 : Method := { name := "addExact", desc := "(JJ)J", sig := { parameters := [.long, .long], returnType := some .long }, accessFlags := 9, code := some k9c1 }
/-- java/lang/Math -/
def k9 : Class := { plain "java/lang/Math" (some 0) with
  accessFlags := 49
  interfaces := #[]
  cf := some (fileOf pool9 1 #[.nestMembers #[98]] #[{ accessFlags := 2, nameIndex := 7, descriptorIndex := 8, attributes := #[] }, { accessFlags := 9, nameIndex := 393, descriptorIndex := 121, attributes := #[] }] 49 4 #[] #[{ accessFlags := 25, nameIndex := 354, descriptorIndex := 339, attributes := #[] }, { accessFlags := 25, nameIndex := 358, descriptorIndex := 339, attributes := #[] }, { accessFlags := 25, nameIndex := 361, descriptorIndex := 339, attributes := #[] }, { accessFlags := 26, nameIndex := 364, descriptorIndex := 339, attributes := #[] }, { accessFlags := 26, nameIndex := 365, descriptorIndex := 339, attributes := #[] }, { accessFlags := 26, nameIndex := 172, descriptorIndex := 173, attributes := #[] }, { accessFlags := 26, nameIndex := 176, descriptorIndex := 173, attributes := #[] }, { accessFlags := 8, nameIndex := 344, descriptorIndex := 339, attributes := #[] }, { accessFlags := 8, nameIndex := 338, descriptorIndex := 339, attributes := #[] }, { accessFlags := 4120, nameIndex := 245, descriptorIndex := 246, attributes := #[] }])
  fields := #[{ name := "E", type := .double, accessFlags := 25, slot := 0, constantValue := 0 }, { name := "PI", type := .double, accessFlags := 25, slot := 1, constantValue := 0 }, { name := "TAU", type := .double, accessFlags := 25, slot := 2, constantValue := 0 }, { name := "DEGREES_TO_RADIANS", type := .double, accessFlags := 26, slot := 3, constantValue := 0 }, { name := "RADIANS_TO_DEGREES", type := .double, accessFlags := 26, slot := 4, constantValue := 0 }, { name := "negativeZeroFloatBits", type := .long, accessFlags := 26, slot := 5, constantValue := 0 }, { name := "negativeZeroDoubleBits", type := .long, accessFlags := 26, slot := 6, constantValue := 0 }, { name := "twoToTheDoubleScaleUp", type := .double, accessFlags := 8, slot := 7, constantValue := 0 }, { name := "twoToTheDoubleScaleDown", type := .double, accessFlags := 8, slot := 8, constantValue := 0 }, { name := "$assertionsDisabled", type := .boolean, accessFlags := 4120, slot := 9, constantValue := 0 }]
  methods := #[k9m0, k9m1]
  instanceTypes := #[]
  staticTypes := #[.double, .double, .double, .double, .double, .long, .long, .double, .double, .boolean]
  resolved := Array.replicate 460 none
  statics := none }

def pool10 : Array CpInfo := pool [(1, u "java/lang/Cloneable"), (0, .class_ 1), (0, u "java/lang/Object"), (0, .class_ 3)] 3

/-- java/lang/Cloneable -/
def k10 : Class := { plain "java/lang/Cloneable" (some 0) with
  accessFlags := 1537
  interfaces := #[]
  cf := some (fileOf pool10 2 #[] #[] 1537 4 #[] #[])
  fields := #[]
  methods := #[]
  instanceTypes := #[]
  staticTypes := #[]
  resolved := Array.replicate 8 none
  statics := none }

/-- the primitive byte -/
def k11 : Class := { plain "byte" none with kind := .primitive 'B', accessFlags := 0x411 }
/-- [B -/
def k12 : Class := { plain "[B" (some 0) with kind := .array 11 .byte, interfaces := #[10, 3], accessFlags := 1041 }

/-- the primitive int -/
def k13 : Class := { plain "int" none with kind := .primitive 'I', accessFlags := 0x411 }
/-- [I -/
def k14 : Class := { plain "[I" (some 0) with kind := .array 13 .int, interfaces := #[10, 3], accessFlags := 1041 }

/-- the primitive long -/
def k15 : Class := { plain "long" none with kind := .primitive 'J', accessFlags := 0x411 }
/-- [J -/
def k16 : Class := { plain "[J" (some 0) with kind := .array 15 .long, interfaces := #[10, 3], accessFlags := 1041 }

def heap : Heap := #[]
def classes : Array Class := #[k0, k1, k2, k3, k4, k5, k6, k7, k8, k9, k10, k11, k12, k13, k14, k15, k16]
def interned : List (Array UInt16 × Addr) := []
def slotsUsed : Nat := 0
def theMethod : MethodId := ⟨1, 1⟩
def args0 : Array Value := #[.long 5, .long 6, .int 1]
def aboutOver (below : List Frame) : State where
  vm := { classes := classes, interned := interned.toArray }
  heap := heap
  slotsUsed := slotsUsed
  threads := #[{ frames := .invoking theMethod args0 :: below }]
def below0 : List Frame := [.native { method := ⟨0, 0⟩, args := #[] }]
def about1 : State := aboutOver below0
def p0 : Program := .bare "" "" ""
def e0 : Env := launch0.env 0 0 0
theorem w_frames : about1.frames = Frame.invoking theMethod args0 :: below0 := rfl
set_option maxRecDepth 65536 in
theorem w_args : argsFit about1.vm theMethod args0 = true := by decide +kernel
set_option maxRecDepth 65536 in
theorem w_heap : heapFits about1 = true := by decide +kernel
set_option maxRecDepth 65536 in
theorem w_runnable : about1.curStatus? = some .runnable := by decide +kernel
set_option maxRecDepth 65536 in
theorem w_alone : about1.alone = true := by decide +kernel
set_option maxRecDepth 65536 in
theorem w_named : about1.methodNamed? x = some theMethod := by decide +kernel
set_option maxRecDepth 65536 in
theorem w_hears : about1.hears theMethod below0 = true := by decide +kernel
set_option maxRecDepth 65536 in
theorem w_ripe : about1.ripe theMethod args0 below0 = true := by decide +kernel
theorem w_running : about1.status = .running := rfl
set_option maxRecDepth 65536 in
theorem w_room : about1.hasRoom e0.platform room_1 = true :=
  launch0.hasRoom_least _ room_1 (by decide +kernel) (by decide +kernel) (by decide +kernel) (by decide +kernel) (by decide +kernel) (by decide +kernel)
theorem allAtoms_all (ts : List Jvm.Cond) (a : Array Jvm.Value) (st : Jvm.State) : (allAtoms ts).before a st = ts.all (fun c => c.before a st) := by
  induction ts with
  | nil => rfl
  | cons c t ih =>
    show (Jvm.Cond.and c (allAtoms t)).before a st = _
    rw [Jvm.Cond.before_and, ih, List.all_cons]
def words1 : List Jvm.Cond := Jvm.Cond.code x code maxLocals ret :: tables_1
/-- a 'code' word, met by the world's own term for the bytes: nothing is compared byte by byte -/
theorem code_word {y : MethodName} {bytes : ByteArray} {mx : Nat} {rt : Option FieldType} {a : Array Value} {s : State} {m : MethodId} {meth : Method} {c : Code} (h1 : s.methodNamed? y = some m) (h2 : s.vm.method? m = some meth) (h3 : meth.code = some c) (h4 : c.code = bytes)
    (h5 : (c.maxLocals == mx && c.exceptionTable.isEmpty && decide (c.maxStack ≤ mostOperands) && decide (meth.sig.returnType = rt) && !meth.locks && decide (parseMethodDescriptor y.desc = some meth.sig)) = true) : (Jvm.Cond.code y bytes mx rt).before a s = true := by
  simp only [Bool.and_eq_true, beq_iff_eq, Bool.not_eq_true', decide_eq_true_eq] at h5
  obtain ⟨⟨⟨⟨⟨g1, g2⟩, g3⟩, g4⟩, g5⟩, g6⟩ := h5
  simp [Cond.before, Cond.holds, Cond.value, h1, h2, h3, h4, g1, g2, g3, g4, g5, g6]
def isCode : Jvm.Cond → Bool
  | .code _ _ _ _ => true
  | _ => false
theorem all_split {L : List Jvm.Cond} {P : Jvm.Cond → Bool} (h1 : L.all (fun c => isCode c || P c) = true) (h2 : ∀ c ∈ L.filter isCode, P c = true) : L.all P = true := by
  refine List.all_eq_true.mpr fun c hc => ?_
  have h := List.all_eq_true.mp h1 c hc
  rcases Bool.eq_false_or_eq_true (isCode c) with hi | hi
  · exact h2 c (List.mem_filter.mpr ⟨hc, hi⟩)
  · simpa [hi] using h
set_option maxRecDepth 65536 in
theorem w_c0 : (Jvm.Cond.code x code maxLocals ret).before args0 about1 = true := code_word (m := ⟨1, 1⟩) (meth := k1m1) (c := k1c1) (by decide +kernel) rfl rfl rfl (by decide +kernel)
set_option maxRecDepth 65536 in
theorem w_c1 : (Jvm.Cond.code ({ cls := "com/example/matchwright/matchwright/service/matching/WideArray", name := "<init>", desc := "(II)V" } : Jvm.MethodName) prog_131_method_1_code (3 : Nat) (Option.none : Option Jvm.ClassFile.FieldType)).before args0 about1 = true := code_word (m := ⟨2, 0⟩) (meth := k2m0) (c := k2c0) (by decide +kernel) rfl rfl rfl (by decide +kernel)
set_option maxRecDepth 65536 in
theorem w_c2 : (Jvm.Cond.code ({ cls := "java/lang/Object", name := "<init>", desc := "()V" } : Jvm.MethodName) object_method_1_code (1 : Nat) (Option.none : Option Jvm.ClassFile.FieldType)).before args0 about1 = true := code_word (m := ⟨0, 0⟩) (meth := k0m0) (c := k0c0) (by decide +kernel) rfl rfl rfl (by decide +kernel)
set_option maxRecDepth 65536 in
theorem w_c3 : (Jvm.Cond.code ({ cls := "com/example/matchwright/matchwright/service/matching/WideArray", name := "set", desc := "(IJ)V" } : Jvm.MethodName) prog_131_method_4_code (9 : Nat) (Option.none : Option Jvm.ClassFile.FieldType)).before args0 about1 = true := code_word (m := ⟨2, 1⟩) (meth := k2m1) (c := k2c1) (by decide +kernel) rfl rfl rfl (by decide +kernel)
set_option maxRecDepth 65536 in
theorem w_c4 : (Jvm.Cond.code ({ cls := "com/example/matchwright/matchwright/service/matching/WideArray", name := "halve", desc := "(I)V" } : Jvm.MethodName) prog_131_method_12_code (8 : Nat) (Option.none : Option Jvm.ClassFile.FieldType)).before args0 about1 = true := code_word (m := ⟨2, 4⟩) (meth := k2m4) (c := k2c4) (by decide +kernel) rfl rfl rfl (by decide +kernel)
set_option maxRecDepth 65536 in
theorem w_c5 : (Jvm.Cond.code ({ cls := "com/example/matchwright/matchwright/service/matching/WideArray", name := "compare", desc := "(ILcom/example/matchwright/matchwright/service/matching/WideArray;I)I" } : Jvm.MethodName) prog_131_method_8_code (8 : Nat) (Option.some Jvm.ClassFile.FieldType.int)).before args0 about1 = true := code_word (m := ⟨2, 2⟩) (meth := k2m2) (c := k2c2) (by decide +kernel) rfl rfl rfl (by decide +kernel)
set_option maxRecDepth 65536 in
theorem w_c6 : (Jvm.Cond.code ({ cls := "java/lang/Long", name := "compare", desc := "(JJ)I" } : Jvm.MethodName) jdk_35_method_42_code (4 : Nat) (Option.some Jvm.ClassFile.FieldType.int)).before args0 about1 = true := code_word (m := ⟨8, 0⟩) (meth := k8m0) (c := k8c0) (by decide +kernel) rfl rfl rfl (by decide +kernel)
set_option maxRecDepth 65536 in
theorem w_c7 : (Jvm.Cond.code ({ cls := "com/example/matchwright/matchwright/service/matching/WideArray", name := "add", desc := "(ILcom/example/matchwright/matchwright/service/matching/WideArray;IZ)V" } : Jvm.MethodName) prog_131_method_11_code (15 : Nat) (Option.none : Option Jvm.ClassFile.FieldType)).before args0 about1 = true := code_word (m := ⟨2, 3⟩) (meth := k2m3) (c := k2c3) (by decide +kernel) rfl rfl rfl (by decide +kernel)
set_option maxRecDepth 65536 in
theorem w_c8 : (Jvm.Cond.code ({ cls := "java/lang/Math", name := "addExact", desc := "(JJ)J" } : Jvm.MethodName) jdk_29_method_25_code (6 : Nat) (Option.some Jvm.ClassFile.FieldType.long)).before args0 about1 = true := code_word (m := ⟨9, 1⟩) (meth := k9m1) (c := k9c1) (by decide +kernel) rfl rfl rfl (by decide +kernel)
def codes1 : List Jvm.Cond := [Jvm.Cond.code x code maxLocals ret, Jvm.Cond.code ({ cls := "com/example/matchwright/matchwright/service/matching/WideArray", name := "<init>", desc := "(II)V" } : Jvm.MethodName) prog_131_method_1_code (3 : Nat) (Option.none : Option Jvm.ClassFile.FieldType), Jvm.Cond.code ({ cls := "java/lang/Object", name := "<init>", desc := "()V" } : Jvm.MethodName) object_method_1_code (1 : Nat) (Option.none : Option Jvm.ClassFile.FieldType), Jvm.Cond.code ({ cls := "com/example/matchwright/matchwright/service/matching/WideArray", name := "set", desc := "(IJ)V" } : Jvm.MethodName) prog_131_method_4_code (9 : Nat) (Option.none : Option Jvm.ClassFile.FieldType), Jvm.Cond.code ({ cls := "com/example/matchwright/matchwright/service/matching/WideArray", name := "halve", desc := "(I)V" } : Jvm.MethodName) prog_131_method_12_code (8 : Nat) (Option.none : Option Jvm.ClassFile.FieldType), Jvm.Cond.code ({ cls := "com/example/matchwright/matchwright/service/matching/WideArray", name := "compare", desc := "(ILcom/example/matchwright/matchwright/service/matching/WideArray;I)I" } : Jvm.MethodName) prog_131_method_8_code (8 : Nat) (Option.some Jvm.ClassFile.FieldType.int), Jvm.Cond.code ({ cls := "java/lang/Long", name := "compare", desc := "(JJ)I" } : Jvm.MethodName) jdk_35_method_42_code (4 : Nat) (Option.some Jvm.ClassFile.FieldType.int), Jvm.Cond.code ({ cls := "com/example/matchwright/matchwright/service/matching/WideArray", name := "add", desc := "(ILcom/example/matchwright/matchwright/service/matching/WideArray;IZ)V" } : Jvm.MethodName) prog_131_method_11_code (15 : Nat) (Option.none : Option Jvm.ClassFile.FieldType), Jvm.Cond.code ({ cls := "java/lang/Math", name := "addExact", desc := "(JJ)J" } : Jvm.MethodName) jdk_29_method_25_code (6 : Nat) (Option.some Jvm.ClassFile.FieldType.long)]
set_option maxRecDepth 65536 in
theorem codes_eq : words1.filter isCode = codes1 := rfl
theorem w_codes : ∀ c ∈ words1.filter isCode, c.before args0 about1 = true := by
  rw [codes_eq]
  intro c hc
  simp only [codes1, List.mem_cons, List.not_mem_nil, or_false] at hc
  rcases hc with rfl | rfl | rfl | rfl | rfl | rfl | rfl | rfl | rfl
  · exact w_c0
  · exact w_c1
  · exact w_c2
  · exact w_c3
  · exact w_c4
  · exact w_c5
  · exact w_c6
  · exact w_c7
  · exact w_c8
set_option maxRecDepth 65536 in
theorem w_t1 : (words1.take 24).all (fun c => isCode c || c.before args0 about1) = true := by decide +kernel
set_option maxRecDepth 65536 in
theorem w_t2 : (words1.drop 24).all (fun c => isCode c || c.before args0 about1) = true := by decide +kernel
theorem w_tables : (allAtoms (Jvm.Cond.code x code maxLocals ret :: tables_1)).before args0 about1 = true := by
  rw [allAtoms_all]
  show words1.all (fun c => c.before args0 about1) = true
  refine all_split ?_ w_codes
  rw [← List.take_append_drop 24 words1, List.all_append, w_t1, w_t2]
  rfl
set_option maxRecDepth 65536 in
theorem w_case : (Jvm.Cond.and given_1 narrow_1).before args0 about1 = true := by decide +kernel
theorem w_applies : (headSpec (Jvm.Cond.code x code maxLocals ret :: tables_1) room_1).applies x e0.platform about1 = true :=
  (Spec.applies_iff w_frames).mpr ⟨w_running, w_runnable, w_alone, w_named, w_hears, w_ripe, w_room, w_tables⟩
theorem atStart : AtStart classFile x code maxLocals ret World_1 tables_1 room_1 Calls_1 rest_1 Pre_1 launch0 p0 e0 about1 theMethod args0 below0 :=
  ⟨lists_1, trivial, launch0.admits_env _ _ _, launch0.least_env, fairChoices_fair.cas, fairChoices_fair.clock, w_frames, w_args, w_heap, w_applies, trivial, trivial, w_case⟩
end start1
theorem witness_1 : WitnessClaimed_1 := ⟨start1.p0, start1.e0, start1.about1, start1.theMethod, start1.args0, start1.below0, start1.atStart⟩
end Jvm.Pilot.@@N@@
