import JvmDerived
import JvmDerived.Pilot.@@N@@Statement
import JvmDerived.Pilot.@@N@@Code
set_option linter.unusedVariables false
set_option linter.unusedSimpArgs false
@@BLOCK:NumsL.lean.txt@@
namespace Jvm.Pilot.@@N@@
open Jvm Jvm.ClassFile Sem Op Lib Jvm.Free Jvm.Stand Jvm.LawKit Jvm.RoadKit Bundle Jvm.Pilot.@@N@@.Jvm.D
/-! OwnGo: from here the run ends, returning as Q says -/
def OwnGo (p : Program) (e : Env) (below : List Frame) (s : State) (C S : Nat) (Q : Option Value → Heap → List Loc → Prop) (T : State) (g : JFrame) : Prop :=
  ∃ s₂ o, Steps p.tables e below (T.setTop g) s₂ ∧ s₂.status = .running ∧ Ended s₂ below o ∧ ∃ v L, o = .returned v ∧ Q v s₂.heap L ∧ FrameEnd s o s₂ L C S
section OwnBase
variable {p : Program} {l : Launch} {e : Env} {R : Room} {s : State} {m : MethodId} {args : Array Value} {below : List Frame} {meth : Method} {c : Code} {T T' : State} {locs : List Loc} {cells slots C S : Nat} {Q : Option Value → Heap → List Loc → Prop} {g g' : JFrame}
theorem own_st (k : ∀ t, Steps p.tables e below (T'.setTop g') t → Steps p.tables e below (T.setTop g) t) (h : OwnGo p e below s C S Q T' g') : OwnGo p e below s C S Q T g := by
  obtain ⟨s₂, o, h1, h2⟩ := h
  exact ⟨s₂, o, k _ h1, h2⟩
theorem own_tr (k : Steps p.tables e below (T.setTop g) (T'.setTop g')) (h : OwnGo p e below s C S Q T' g') : OwnGo p e below s C S Q T g := by
  obtain ⟨s₂, o, h1, h2⟩ := h
  exact ⟨s₂, o, k.trans h1, h2⟩
theorem own_cast (q : g = g') (h : OwnGo p e below s C S Q T g') : OwnGo p e below s C S Q T g := q ▸ h
theorem own_ret {v : Option Value} (X : Stand p l e R s m args below meth c T locs cells slots) (hlk : meth.locks = false) (hv : meth.sig.returnType = none → v = none)
    (step : ∀ fs, (∀ (f : JFrame) (acts : List Action), f.method = m → f.locked = none → f.entered = [] → (doReturn e (T.setTop f) acts v).1 = T.setFrames fs) → Steps p.tables e below (T.setTop g) (T.setFrames fs))
    (hQ : Q v T.heap locs) (hc : cells ≤ C) (hs : slots ≤ S) : OwnGo p e below s C S Q T g := by
  obtain ⟨fs, hr, hrun, hended, hW, hsame⟩ := X.leave (v := v) hv hlk
  exact ⟨_, _, step fs hr, hrun, hended, v, locs, rfl, hQ, ⟨_, rfl⟩, hW, hsame.mono hc hs⟩
end OwnBase

/-! the plain law: a scan for the end of the head; q: 0 a line's start, 1 one CR so far, 2 other signs -/
def own_q (q : Nat) (x : Int32) : Nat := if q = 0 then (if x = 13 then 1 else 2) else 2
def own_scan : List Int32 → Nat → Bool → Option Nat
  | [], _, _ => none
  | x :: l, q, seen => if x = 10 then (if q < 2 ∧ seen = true then some 1 else (own_scan l 0 (seen || decide (2 ≤ q))).map (· + 1)) else (own_scan l (own_q q x) seen).map (· + 1)
def own_out (i : Nat) : Option Nat → Int32
  | some n => Int32.ofNat (i + n)
  | none => -1
def own_qof (vs : List Int32) (ls i : Nat) : Nat := if ls = i then 0 else if i = ls + 1 ∧ vs.getD ls 0 = 13 then 1 else 2
def own_bi (b : Bool) : Int32 := if b = true then 1 else 0
def own_pass (S : List Int32) (q : Nat) (seen : Bool) : Prop := ∀ rest, own_scan (S ++ rest) 0 false = (own_scan rest q seen).map (· + S.length)
def own_fin (S : List Int32) : Prop := ∀ rest, own_scan (S ++ rest) 0 false = some S.length
theorem own_scan_lf (l : List Int32) (q : Nat) (seen : Bool) (h : ¬ (q < 2 ∧ seen = true)) : own_scan (10 :: l) q seen = (own_scan l 0 (seen || decide (2 ≤ q))).map (· + 1) := by
  rw [own_scan, if_pos rfl, if_neg h]
theorem own_scan_end (l : List Int32) (q : Nat) (h : q < 2) : own_scan (10 :: l) q true = some 1 := by
  rw [own_scan, if_pos rfl, if_pos ⟨h, rfl⟩]
theorem own_scan_ch (l : List Int32) (q : Nat) (seen : Bool) {x : Int32} (h : ¬ x = 10) : own_scan (x :: l) q seen = (own_scan l (own_q q x) seen).map (· + 1) := by
  rw [own_scan, if_neg h]
theorem own_map_add (o : Option Nat) (a : Nat) : (o.map (· + 1)).map (· + a) = o.map (· + (a + 1)) := by
  cases o with
  | none => rfl
  | some n => show some (n + 1 + a) = some (n + (a + 1)); rw [Nat.add_assoc, Nat.add_comm 1 a]
theorem own_len1 (S : List Int32) (x : Int32) : (S ++ [x]).length = S.length + 1 := by simp
theorem own_pass_nil : own_pass [] 0 false := fun rest => by
  show own_scan rest 0 false = (own_scan rest 0 false).map (· + 0)
  cases own_scan rest 0 false <;> rfl
theorem own_pass_ch {S : List Int32} {q : Nat} {seen : Bool} {x : Int32} (h : own_pass S q seen) (hx : ¬ x = 10) : own_pass (S ++ [x]) (own_q q x) seen := fun rest => by
  have e := h (x :: rest)
  rw [own_scan_ch rest q seen hx, own_map_add] at e
  rw [List.append_assoc, own_len1]; exact e
theorem own_pass_lf {S : List Int32} {q : Nat} {seen : Bool} (h : own_pass S q seen) (hn : ¬ (q < 2 ∧ seen = true)) : own_pass (S ++ [10]) 0 (seen || decide (2 ≤ q)) := fun rest => by
  have e := h (10 :: rest)
  rw [own_scan_lf rest q seen hn, own_map_add] at e
  rw [List.append_assoc, own_len1]; exact e
theorem own_pass_end {S : List Int32} {q : Nat} (h : own_pass S q true) (hq : q < 2) : own_fin (S ++ [10]) := fun rest => by
  have e := h (10 :: rest)
  rw [own_scan_end rest q hq] at e
  rw [List.append_assoc, own_len1]
  refine e.trans ?_
  show some (1 + S.length) = some (S.length + 1)
  rw [Nat.add_comm]
theorem own_pass_blank {S : List Int32} {q : Nat} (h : own_pass S q false) (hq : q < 2) : own_pass (S ++ [10]) 0 false := by
  have e := own_pass_lf h (fun y => by cases y.2)
  have d : (false || decide (2 ≤ q)) = false := by simp; omega
  rw [d] at e; exact e
theorem own_pass_text {S : List Int32} {seen : Bool} (h : own_pass S 2 seen) : own_pass (S ++ [10]) 0 true := by
  have e := own_pass_lf h (fun y => absurd y.1 (by decide))
  have d : (seen || decide (2 ≤ 2)) = true := by simp
  rw [d] at e; exact e
theorem own_pass_cr0 {S : List Int32} {seen : Bool} (h : own_pass S 0 seen) : own_pass (S ++ [13]) 1 seen := own_pass_ch h (x := 13) (by decide)
theorem own_pass_ch2 {S : List Int32} {q : Nat} {seen : Bool} {x : Int32} (h : own_pass S q seen) (hx : ¬ x = 10) (hq : own_q q x = 2) : own_pass (S ++ [x]) 2 seen := hq ▸ own_pass_ch h hx
theorem own_take : ∀ (l : List Int32) (m q : Nat) (seen : Bool) (n : Nat), own_scan l q seen = some n → own_scan (l.take m) q seen = if n ≤ m then some n else none
  | [], m, q, seen, n, h => by cases h
  | x :: l, 0, q, seen, n, h => by
    have hn : ¬ n ≤ 0 := by
      by_cases hx : x = 10
      · subst hx
        by_cases hb : q < 2 ∧ seen = true
        · obtain ⟨h1, rfl⟩ := hb
          rw [own_scan_end l q h1] at h; cases h; omega
        · rw [own_scan_lf l q seen hb] at h
          obtain ⟨n', -, rfl⟩ := Option.map_eq_some_iff.mp h; omega
      · rw [own_scan_ch l q seen hx] at h
        obtain ⟨n', -, rfl⟩ := Option.map_eq_some_iff.mp h; omega
    rw [if_neg hn]; rfl
  | x :: l, m + 1, q, seen, n, h => by
    rw [List.take_succ_cons]
    by_cases hx : x = 10
    · subst hx
      by_cases hb : q < 2 ∧ seen = true
      · obtain ⟨h1, rfl⟩ := hb
        rw [own_scan_end l q h1] at h; cases h
        rw [own_scan_end _ q h1, if_pos (by omega)]
      · rw [own_scan_lf l q seen hb] at h
        obtain ⟨n', h', rfl⟩ := Option.map_eq_some_iff.mp h
        rw [own_scan_lf _ q seen hb, own_take l m _ _ n' h']
        by_cases hm : n' ≤ m
        · rw [if_pos hm, if_pos (by omega)]; rfl
        · rw [if_neg hm, if_neg (by omega)]; rfl
    · rw [own_scan_ch l q seen hx] at h
      obtain ⟨n', h', rfl⟩ := Option.map_eq_some_iff.mp h
      rw [own_scan_ch _ q seen hx, own_take l m _ _ n' h']
      by_cases hm : n' ≤ m
      · rw [if_pos hm, if_pos (by omega)]; rfl
      · rw [if_neg hm, if_neg (by omega)]; rfl
theorem own_out1 (i : Nat) (o : Option Nat) : own_out i (o.map (· + 1)) = own_out (i + 1) o := by
  cases o with
  | none => rfl
  | some n => show Int32.ofNat (i + (n + 1)) = Int32.ofNat (i + 1 + n); rw [Nat.add_assoc, Nat.add_comm 1 n]
theorem own_drop {vs : List Int32} {i : Nat} (h : i < vs.length) : vs.drop i = vs.getD i 0 :: vs.drop (i + 1) := by
  rw [List.drop_eq_getElem_cons h]
  congr 1
  simp [List.getD, h]
theorem own_qstep {vs : List Int32} {ls i : Nat} (h : ls ≤ i) : own_qof vs ls (i + 1) = own_q (own_qof vs ls i) (vs.getD i 0) := by
  unfold own_qof own_q
  by_cases h1 : ls = i
  · subst h1
    by_cases h2 : vs.getD ls 0 = 13
    · simp [h2]
    · simp [h2]
  · have a1 : ¬ ls = i + 1 := by omega
    have a2 : ¬ i + 1 = ls + 1 := by omega
    by_cases h3 : i = ls + 1 ∧ vs.getD ls 0 = 13
    · rw [if_neg a1, if_neg h1, if_pos h3, if_neg (fun y => a2 y.1), if_neg (by decide)]
    · rw [if_neg a1, if_neg h1, if_neg h3, if_neg (fun y => a2 y.1), if_neg (by decide)]
theorem own_r_ch {vs : List Int32} {i d ls : Nat} {seen : Bool} {res : Int32} (hi : i < vs.length) (hls : ls ≤ i) (hx : ¬ vs.getD i 0 = 10) (h : own_out i (own_scan ((vs.drop i).take (d + 1)) (own_qof vs ls i) seen) = res) :
    own_out (i + 1) (own_scan ((vs.drop (i + 1)).take d) (own_qof vs ls (i + 1)) seen) = res := by
  rw [own_drop hi, List.take_succ_cons, own_scan_ch _ _ _ hx, own_out1] at h
  rw [own_qstep hls]; exact h
theorem own_r_lf {vs : List Int32} {i d ls : Nat} {seen sn : Bool} {res : Int32} (hi : i < vs.length) (hx : vs.getD i 0 = 10) (hn : ¬ (own_qof vs ls i < 2 ∧ seen = true)) (hs : (seen || decide (2 ≤ own_qof vs ls i)) = sn) (h : own_out i (own_scan ((vs.drop i).take (d + 1)) (own_qof vs ls i) seen) = res) :
    own_out (i + 1) (own_scan ((vs.drop (i + 1)).take d) (own_qof vs (i + 1) (i + 1)) sn) = res := by
  rw [own_drop hi, List.take_succ_cons, hx, own_scan_lf _ _ _ hn, own_out1, hs] at h
  have e : own_qof vs (i + 1) (i + 1) = 0 := by rw [own_qof, if_pos rfl]
  rw [e]; exact h
theorem own_i1 (i : Nat) : Int32.ofNat i + (1 : Int32) = Int32.ofNat (i + 1) := (Int32.ofNat_add i 1).symm
theorem own_r_end {vs : List Int32} {i d ls : Nat} {res : Int32} (hi : i < vs.length) (hx : vs.getD i 0 = 10) (hq : own_qof vs ls i < 2) (h : own_out i (own_scan ((vs.drop i).take (d + 1)) (own_qof vs ls i) true) = res) : Int32.ofNat i + (1 : Int32) = res := by
  rw [own_drop hi, List.take_succ_cons, hx, own_scan_end _ _ hq] at h
  rw [own_i1]; exact h
theorem own_nat {i : Nat} (h : i ≤ 32) : (Int32.ofNat i).toInt = i := Int32.toInt_ofNat_of_lt (by omega)
theorem own_eqN {i j : Nat} (hi : i ≤ 32) (hj : j ≤ 32) : Int32.ofNat i = Int32.ofNat j ↔ i = j := by
  constructor
  · intro h
    have e := congrArg Int32.toInt h
    rw [own_nat hi, own_nat hj] at e; omega
  · rintro rfl; rfl
theorem own_ltN {i j : Nat} (hi : i ≤ 32) (hj : j ≤ 32) : Int32.ofNat i < Int32.ofNat j ↔ i < j := by
  rw [Int32.lt_iff_toInt_lt, own_nat hi, own_nat hj]; omega
theorem own_qA {vs : List Int32} {ls i : Nat} (hi : i < 16) (hls : ls ≤ i) (h : Int32.ofNat i = Int32.ofNat ls) : own_qof vs ls i < 2 := by
  have e := (own_eqN (by omega) (by omega)).mp h
  rw [own_qof, if_pos e.symm]; decide
theorem own_qB {vs : List Int32} {ls i : Nat} (hi : i < 16) (hls : ls ≤ i) (h0 : ¬ Int32.ofNat i = Int32.ofNat ls) (h : Int32.ofNat i = Int32.ofNat ls + (1 : Int32)) (h2 : vs.getD ls 0 = 13) : own_qof vs ls i < 2 := by
  rw [own_i1] at h
  have e := (own_eqN (by omega) (by omega)).mp h
  rw [own_qof, if_neg (by omega), if_pos ⟨e, h2⟩]; decide
theorem own_qC {vs : List Int32} {ls i : Nat} (hi : i < 16) (hls : ls ≤ i) (h0 : ¬ Int32.ofNat i = Int32.ofNat ls) (h2 : ¬ vs.getD ls 0 = 13) : 2 ≤ own_qof vs ls i := by
  have e0 := mt (own_eqN (i := i) (j := ls) (by omega) (by omega)).mpr h0
  rw [own_qof, if_neg (fun y => e0 y.symm), if_neg (fun y => h2 y.2)]; decide
theorem own_qD {vs : List Int32} {ls i : Nat} (hi : i < 16) (hls : ls ≤ i) (h0 : ¬ Int32.ofNat i = Int32.ofNat ls) (h : ¬ Int32.ofNat i = Int32.ofNat ls + (1 : Int32)) : 2 ≤ own_qof vs ls i := by
  rw [own_i1] at h
  have e0 := mt (own_eqN (i := i) (j := ls) (by omega) (by omega)).mpr h0
  have e1 := mt (own_eqN (i := i) (j := ls + 1) (by omega) (by omega)).mpr h
  rw [own_qof, if_neg (fun y => e0 y.symm), if_neg (fun y => e1 y.1)]; decide
theorem own_or0 : own_bi false ||| (0 : Int32) = own_bi false := by decide
theorem own_or1 : own_bi false ||| (1 : Int32) = own_bi true := by decide
theorem own_or2 : own_bi true ||| (1 : Int32) = own_bi true := by decide
/-! the array, as the walk sees it -/
def own_one (s : Slot) : Prop := s = .unset ∨ ∃ z : Int32, s = .val (.int z)
theorem own_clamp {i : Nat} (h : i ≤ 32) : (Int32.ofNat i).toNatClampNeg = i := by
  have e := own_nat h
  simp only [Int32.toNatClampNeg, e]; omega
theorem own_inb {c : Cell} {i : Nat} (S : c.slots.size = (16 : Int32).toNatClampNeg) (h : i < 16) : ¬ (Int32.ofNat i < 0 ∨ c.slots.size ≤ (Int32.ofNat i).toNatClampNeg) := by
  refine inb_of S ⟨?_, ?_⟩
  · rw [Int32.lt_iff_toInt_lt, own_nat (by omega)]; show ¬ _ < (0 : Int); omega
  · rw [Int32.lt_iff_toInt_lt, own_nat (by omega)]; show _ < (16 : Int); omega
theorem own_getD (vs : List Int32) {i : Nat} (h : i < 16) : (vs.map Value.int).getD (Int32.ofNat i).toNatClampNeg (.int 0) = .int (vs.getD i 0) := by
  rw [own_clamp (by omega)]
  simp only [List.getD, List.getElem?_map]
  cases vs[i]? <;> rfl
def own_buf (Z : State) (h : Heap) (b : Addr) (kc : ClassId) (at' : Nat) (pre S : List Int32) : Prop :=
  ∃ r : List Int32, pre.length = at' ∧ at' + S.length + r.length = 16 ∧ Arv Z h b kc .byte 16 ((pre ++ S ++ r).map Value.int) (.int 0)
theorem own_set (pre S : List Int32) (x y : Int32) (r : List Int32) : ((pre ++ S ++ x :: r).map Value.int).set (pre.length + S.length) (.int y) = (pre ++ (S ++ [y]) ++ r).map Value.int := by
  have e : pre.length + S.length = ((pre ++ S).map Value.int).length := by simp
  rw [List.map_append, e, List.set_append_right _ _ (Nat.le_refl _), Nat.sub_self]
  simp
theorem own_next (at' : Nat) (S : List Int32) (y : Int32) : Int32.ofNat (at' + S.length) + (1 : Int32) = Int32.ofNat (at' + (S ++ [y]).length) := by
  rw [own_i1, own_len1, Nat.add_assoc]
theorem own_restart {Z : State} {h : Heap} {b : Addr} {kc : ClassId} {S : List Int32} {n : Nat} (B : own_buf Z h b kc 0 [] S) (hn : n ≤ 16) : ∃ pre, own_buf Z h b kc n pre [] := by
  obtain ⟨r, -, h2, V⟩ := B
  have hl : (S ++ r).length = 16 := by simp; omega
  refine ⟨(S ++ r).take n, (S ++ r).drop n, by rw [List.length_take, hl]; omega, by rw [List.length_drop, hl]; simp; omega, ?_⟩
  have e : (S ++ r).take n ++ [] ++ (S ++ r).drop n = [] ++ S ++ r := by simp
  rw [e]; exact V
theorem own_start {Z : State} {h : Heap} {b : Addr} {kc : ClassId} (A : Arr Z h b (newA kc .byte (16 : Int32)) .byte) : own_buf Z h b kc 0 [] [] := by
  refine ⟨List.replicate 16 0, rfl, rfl, ?_⟩
  have V := (Arv.new A (by decide)).pad (pad_rep [] (.int (0 : Int32)) 16)
  exact V
section OwnSt
variable {p : Program} {l : Launch} {e : Env} {R : Room} {s : State} {m : MethodId} {args : Array Value} {below : List Frame} {meth : Method} {c : Code} {T : State} {locs : List Loc} {cells slots : Nat} {Z : State} {h : Heap} {n0 : Nat}
theorem own_stB (X : Stand p l e R s m args below meth c T locs cells slots) (hx : p.tables.exec = Jvm.exec) (hZ : Z.Warmed39 s.vm) (eT : T.heap = h) {b : Addr} {kc : ClassId} {at' : Nat} {pre S : List Int32} (B : own_buf Z h b kc at' pre S) (hk : at' + S.length < 16) {x y : Int32} (hy : nar .byte x = y)
    (N : Fr n0 locs) (gb : n0 ≤ b) {g : JFrame} (hg : g.method = m) {rest : List Value} (hs : g.stack = .int x :: .int (Int32.ofNat (at' + S.length)) :: .ref b :: rest) (hd : decode c.code g.pc = .ok (.bastore, 1)) :
    ∃ T' h' locs', Stand p l e R s m args below meth c T' locs' cells slots ∧ T'.heap = h' ∧ own_buf Z h' b kc at' pre (S ++ [y]) ∧ Fr n0 locs' ∧ h.size ≤ h'.size ∧
      ∀ target, Steps p.tables e below (T'.setTop { g with pc := g.pc + 1, stack := rest }) target → Steps p.tables e below (T.setTop g) target := by
  obtain ⟨r, h1, h2, V⟩ := B
  obtain ⟨cl, A, q, Sz, Nn, H, G⟩ := V
  obtain ⟨T', h', X', e', W, st⟩ := stB X hx hZ eT A (own_inb Sz hk) hg hs hd
  refine ⟨T', h', _, X', e', ?_, Fr.snoc X' N gb, (Keep.of_wr W).1, st⟩
  obtain ⟨r0, r', rfl⟩ : ∃ r0 r', r = r0 :: r' := by
    cases r with
    | nil => simp at h2; omega
    | cons a t => exact ⟨a, t, rfl⟩
  refine ⟨r', h1, by rw [own_len1]; simp at h2; omega, ?_⟩
  have W' : Wr h h' b (Int32.ofNat (at' + S.length)).toNatClampNeg (.int y) := hy ▸ W
  have V' := Arv.set A q Sz Nn H G (by rw [← hy]; exact fits_nar_byte x) W' (at' + S.length) (own_clamp (by omega)) (by simp; omega)
  have e2 := own_set pre S r0 y r'
  rw [h1] at e2
  rw [e2] at V'; exact V'
end OwnSt
theorem own_at3 (p : Int32) : ∃ n : Nat, n ≤ 2 ∧ ((p &&& (3 : Int32)) % (3 : Int32)) = Int32.ofNat n := by
  have e1 : (p &&& 3).toInt = p.toInt % 2 ^ 2 := Jvm.Kit.i32_mask p 3 (k := 2) (by decide) (by decide)
  have e2 : ((p &&& 3) % 3).toInt = (p &&& 3).toInt % (3 : Int32).toInt := Jvm.Kit.i32_rem_nonneg (by omega)
  have e3 : (3 : Int32).toInt = 3 := rfl
  rw [e3] at e2
  refine ⟨((p &&& 3) % 3).toInt.toNat, by omega, ?_⟩
  apply Int32.toInt_inj.mp
  rw [own_nat (by omega)]; omega
theorem own_17 {n : Nat} (h : n ≤ 2) : ((17 : Int32) - Int32.ofNat n).toInt = 17 - n := by
  have e : (17 : Int32).toInt = 17 := rfl
  have e2 := own_nat (i := n) (by omega)
  rw [Jvm.Kit.i32_sub (by omega) (by omega), e, e2]
theorem own_17n {n : Nat} (h : n ≤ 2) : (17 : Int32) - Int32.ofNat n ≠ 0 := fun q => by
  have e := own_17 h
  rw [q] at e
  have : (0 : Int32).toInt = 0 := rfl
  omega
theorem own_e (p : Int32) {n : Nat} (h : n ≤ 2) : ∃ d : Nat, n + d ≤ 16 ∧ (Int32.ofNat n + ((p &&& (2147483647 : Int32)) % ((17 : Int32) - Int32.ofNat n))) = Int32.ofNat (n + d) := by
  have e1 : (p &&& 2147483647).toInt = p.toInt % 2 ^ 31 := Jvm.Kit.i32_mask p 2147483647 (k := 31) (by decide) (by decide)
  have e2 : ((p &&& 2147483647) % ((17 : Int32) - Int32.ofNat n)).toInt = (p &&& 2147483647).toInt % ((17 : Int32) - Int32.ofNat n).toInt := Jvm.Kit.i32_rem_nonneg (by omega)
  rw [own_17 h] at e2
  have e3 := own_nat (i := n) (by omega)
  generalize ((p &&& 2147483647) % ((17 : Int32) - Int32.ofNat n)) = y at *
  have b1 : 0 ≤ y.toInt := by rw [e2]; exact Int.emod_nonneg _ (by omega)
  have b2 : y.toInt < 17 - n := by rw [e2]; exact Int.emod_lt_of_pos _ (by omega)
  refine ⟨y.toInt.toNat, by omega, ?_⟩
  apply Int32.toInt_inj.mp
  rw [own_nat (by omega), Jvm.Kit.i32_add (by omega) (by omega), e3]; omega
theorem own_len (p : Int32) : ((1 : Int32) + ((XT.ushr p (6 : Int32)) &&& (1 : Int32))) = 1 ∨ ((1 : Int32) + ((XT.ushr p (6 : Int32)) &&& (1 : Int32))) = 2 := by
  generalize XT.ushr p (6 : Int32) = y
  have e1 : (y &&& 1).toInt = y.toInt % 2 ^ 1 := Jvm.Kit.i32_mask y 1 (k := 1) (by decide) (by decide)
  generalize (y &&& 1) = z at *
  have h : z.toInt = 0 ∨ z.toInt = 1 := by omega
  rcases h with h | h
  · obtain rfl : z = 0 := Int32.toInt_inj.mp h
    exact Or.inl (by decide)
  · obtain rfl : z = 1 := Int32.toInt_inj.mp h
    exact Or.inr (by decide)
theorem own_nb (x : Int32) : nar .byte x.toInt8.toInt32 = x.toInt8.toInt32 := by show x.toInt8.toInt32.toInt8.toInt32 = _; simp
theorem own_final {pre S r : List Int32} {v : Int32} {n d : Nat} {res : Int32} (hp : pre.length = n) (hf : own_fin S) (hres : (if S.length ≤ d then Int32.ofNat (n + S.length) else (-1 : Int32)) = res) :
    own_out n (own_scan (((pre ++ (S ++ [v]) ++ r).drop n).take d) 0 false) = res := by
  have e : (pre ++ (S ++ [v]) ++ r).drop n = S ++ ([v] ++ r) := by
    rw [← hp]; simp
  rw [e, own_take _ d 0 false S.length (hf _)]
  by_cases h : S.length ≤ d
  · rw [if_pos h] at hres ⊢; exact hres
  · rw [if_neg h] at hres ⊢; exact hres
theorem pn_0 : plainName "com/example/tallybox/tallybox/RequestHeadEndPinLaw" = true := by first | (simp [plainName, overriddenIn]; done) | decide +kernel
def Ctx0 (p : Program) (s : State) (m : MethodId) (meth : Method) (c : Code) (Z : State) (a0 : Array Value) : Prop := p.tables.exec = Jvm.exec ∧ Z.Warmed39 s.vm ∧ (∀ d ∈ tables_1, d.before a0 Z = true) ∧ c.code = code ∧ c.maxLocals = 13 ∧ s.vm.findClass "com/example/tallybox/tallybox/RequestHeadEndPinLaw" = some m.cls ∧ meth.sig.returnType = ret ∧ meth.locks = false ∧ meth.name = "law"
theorem d1_0 : decode prog_70_method_2_code 0 = .ok (.iload_n 1, 1) := by decide +kernel
theorem d1_1 : decode prog_70_method_2_code 1 = .ok (.istore_n 3, 1) := by decide +kernel
theorem d1_2 : decode prog_70_method_2_code 2 = .ok (.iconst 0, 1) := by decide +kernel
theorem d1_3 : decode prog_70_method_2_code 3 = .ok (.istore 4, 2) := by decide +kernel
theorem d1_5 : decode prog_70_method_2_code 5 = .ok (.iload_n 1, 1) := by decide +kernel
theorem d1_6 : decode prog_70_method_2_code 6 = .ok (.istore 5, 2) := by decide +kernel
theorem d1_8 : decode prog_70_method_2_code 8 = .ok (.iload 5, 2) := by decide +kernel
theorem d1_10 : decode prog_70_method_2_code 10 = .ok (.iload_n 2, 1) := by decide +kernel
theorem d1_11 : decode prog_70_method_2_code 11 = .ok (.if_icmp .ge 85, 3) := by decide +kernel
theorem d1_14 : decode prog_70_method_2_code 14 = .ok (.aload_n 0, 1) := by decide +kernel
theorem d1_15 : decode prog_70_method_2_code 15 = .ok (.iload 5, 2) := by decide +kernel
theorem d1_17 : decode prog_70_method_2_code 17 = .ok (.baload, 1) := by decide +kernel
theorem d1_18 : decode prog_70_method_2_code 18 = .ok (.bipush 10, 2) := by decide +kernel
theorem d1_20 : decode prog_70_method_2_code 20 = .ok (.if_icmp .eq 6, 3) := by decide +kernel
theorem d1_23 : decode prog_70_method_2_code 23 = .ok (.goto 67, 3) := by decide +kernel
theorem d1_26 : decode prog_70_method_2_code 26 = .ok (.iload 5, 2) := by decide +kernel
theorem d1_28 : decode prog_70_method_2_code 28 = .ok (.iload_n 3, 1) := by decide +kernel
theorem d1_29 : decode prog_70_method_2_code 29 = .ok (.if_icmp .eq 19, 3) := by decide +kernel
theorem d1_32 : decode prog_70_method_2_code 32 = .ok (.iload 5, 2) := by decide +kernel
theorem d1_34 : decode prog_70_method_2_code 34 = .ok (.iload_n 3, 1) := by decide +kernel
theorem d1_35 : decode prog_70_method_2_code 35 = .ok (.iconst 1, 1) := by decide +kernel
theorem d1_36 : decode prog_70_method_2_code 36 = .ok (.iadd, 1) := by decide +kernel
theorem d1_37 : decode prog_70_method_2_code 37 = .ok (.if_icmp .ne 15, 3) := by decide +kernel
theorem d1_40 : decode prog_70_method_2_code 40 = .ok (.aload_n 0, 1) := by decide +kernel
theorem d1_41 : decode prog_70_method_2_code 41 = .ok (.iload_n 3, 1) := by decide +kernel
theorem d1_42 : decode prog_70_method_2_code 42 = .ok (.baload, 1) := by decide +kernel
theorem d1_43 : decode prog_70_method_2_code 43 = .ok (.bipush 13, 2) := by decide +kernel
theorem d1_45 : decode prog_70_method_2_code 45 = .ok (.if_icmp .ne 7, 3) := by decide +kernel
theorem d1_48 : decode prog_70_method_2_code 48 = .ok (.iconst 1, 1) := by decide +kernel
theorem d1_49 : decode prog_70_method_2_code 49 = .ok (.goto 4, 3) := by decide +kernel
theorem d1_52 : decode prog_70_method_2_code 52 = .ok (.iconst 0, 1) := by decide +kernel
theorem d1_53 : decode prog_70_method_2_code 53 = .ok (.istore 6, 2) := by decide +kernel
theorem d1_55 : decode prog_70_method_2_code 55 = .ok (.iload 6, 2) := by decide +kernel
theorem d1_57 : decode prog_70_method_2_code 57 = .ok (.ifCond .eq 13, 3) := by decide +kernel
theorem d1_60 : decode prog_70_method_2_code 60 = .ok (.iload 4, 2) := by decide +kernel
theorem d1_62 : decode prog_70_method_2_code 62 = .ok (.ifCond .eq 8, 3) := by decide +kernel
theorem d1_65 : decode prog_70_method_2_code 65 = .ok (.iload 5, 2) := by decide +kernel
theorem d1_67 : decode prog_70_method_2_code 67 = .ok (.iconst 1, 1) := by decide +kernel
theorem d1_68 : decode prog_70_method_2_code 68 = .ok (.iadd, 1) := by decide +kernel
theorem d1_69 : decode prog_70_method_2_code 69 = .ok (.ireturn, 1) := by decide +kernel
theorem d1_70 : decode prog_70_method_2_code 70 = .ok (.iload 4, 2) := by decide +kernel
theorem d1_72 : decode prog_70_method_2_code 72 = .ok (.iload 6, 2) := by decide +kernel
theorem d1_74 : decode prog_70_method_2_code 74 = .ok (.ifCond .ne 7, 3) := by decide +kernel
theorem d1_77 : decode prog_70_method_2_code 77 = .ok (.iconst 1, 1) := by decide +kernel
theorem d1_78 : decode prog_70_method_2_code 78 = .ok (.goto 4, 3) := by decide +kernel
theorem d1_81 : decode prog_70_method_2_code 81 = .ok (.iconst 0, 1) := by decide +kernel
theorem d1_82 : decode prog_70_method_2_code 82 = .ok (.ior, 1) := by decide +kernel
theorem d1_83 : decode prog_70_method_2_code 83 = .ok (.istore 4, 2) := by decide +kernel
theorem d1_85 : decode prog_70_method_2_code 85 = .ok (.iload 5, 2) := by decide +kernel
theorem d1_87 : decode prog_70_method_2_code 87 = .ok (.iconst 1, 1) := by decide +kernel
theorem d1_88 : decode prog_70_method_2_code 88 = .ok (.iadd, 1) := by decide +kernel
theorem d1_89 : decode prog_70_method_2_code 89 = .ok (.istore_n 3, 1) := by decide +kernel
theorem d1_90 : decode prog_70_method_2_code 90 = .ok (.iinc 5 1, 3) := by decide +kernel
theorem d1_93 : decode prog_70_method_2_code 93 = .ok (.goto (-85), 3) := by decide +kernel
theorem d1_96 : decode prog_70_method_2_code 96 = .ok (.iconst (-1), 1) := by decide +kernel
theorem d1_97 : decode prog_70_method_2_code 97 = .ok (.ireturn, 1) := by decide +kernel
theorem pn_1 : plainName "com/example/tallybox/tallybox/RequestHead" = true := by first | (simp [plainName, overriddenIn]; done) | decide +kernel
def Ctx1 (p : Program) (s : State) (m : MethodId) (meth : Method) (c : Code) (Z : State) (a0 : Array Value) : Prop := p.tables.exec = Jvm.exec ∧ Z.Warmed39 s.vm ∧ (∀ d ∈ tables_1, d.before a0 Z = true) ∧ c.code = prog_70_method_2_code ∧ c.maxLocals = 7 ∧ s.vm.findClass "com/example/tallybox/tallybox/RequestHead" = some m.cls ∧ meth.sig.returnType = (some .int) ∧ meth.locks = false ∧ meth.name = "end"
theorem own_sto6 {b : Addr} {x1 x2 x3 x4 x5 v : Int32} {s6 : Slot} (h : own_one s6) : storeLocals #[.val (.ref b), .val (.int x1), .val (.int x2), .val (.int x3), .val (.int x4), .val (.int x5), s6] 6 (.int v) = some #[.val (.ref b), .val (.int x1), .val (.int x2), .val (.int x3), .val (.int x4), .val (.int x5), .val (.int v)] := by
  rcases h with rfl | ⟨z, rfl⟩ <;> rfl
theorem own_sto10 {p1 p3 : Int32} {q2 : Int64} {b : Addr} {x5 x6 x7 x8 x9 v : Int32} {s10 : Slot} (h : own_one s10) : storeLocals #[.val (.int p1), .val (.long q2), .second, .val (.int p3), .val (.ref b), .val (.int x5), .val (.int x6), .val (.int x7), .val (.int x8), .val (.int x9), s10, .unset, .unset] 10 (.int v) = some #[.val (.int p1), .val (.long q2), .second, .val (.int p3), .val (.ref b), .val (.int x5), .val (.int x6), .val (.int x7), .val (.int x8), .val (.int x9), .val (.int v), .unset, .unset] := by
  rcases h with rfl | ⟨z, rfl⟩ <;> rfl

theorem own_pd0 : parseMethodDescriptor "([BII)I" = some ⟨[(.array .byte), .int, .int], some .int⟩ := by decide +kernel
def Q1 (Z : State) (b : Addr) (vs : List Int32) (kc : ClassId) (n : Nat) (d : Nat) (res : Int32) (h0 : Heap) (n0 : Nat) (v : Option Value) (h : Heap) (L : List Loc) : Prop := v = some (.int res) ∧ Fr n0 L ∧ h = h0
set_option maxRecDepth 65536 in
set_option maxHeartbeats 40000000 in
theorem own_loop1 {p : Program} {l : Launch} {e : Env} {s : State} {m : MethodId} {args : Array Value} {below : List Frame} {meth : Method} {c : Code} {locs : List Loc} {Z : State} {a0 : Array Value} {h : Heap} {n0 : Nat} (b : Addr) {vs : List Int32} {c_1 : Cell} (A_1 : Arr Z h b c_1 .byte) (S_1 : c_1.slots.size = (16 : Int32).toNatClampNeg) (H_1 : Has c_1 (vs.map Value.int) (.int 0)) (hlen : vs.length = 16) (E : Nat) (hE : E ≤ 16) (A1 res : Int32) (kc : ClassId) (n d0 : Nat)
    (K : Ctx1 p s m meth c Z a0) (N : Fr n0 locs) :
    ∀ (d i ls : Nat) (seen : Bool) (s6 : Slot) (T : State), i + d = E → ls ≤ i → own_one s6 → Stand p l e ({ frames := 0, cells := 0, slots := 0, locals := 0 } : Room) s m args below meth c T locs 0 0 → T.heap = h → own_out i (own_scan ((vs.drop i).take d) (own_qof vs ls i) seen) = res →
      OwnGo p e below s ({ frames := 0, cells := 0, slots := 0, locals := 0 } : Room).cells ({ frames := 0, cells := 0, slots := 0, locals := 0 } : Room).slots (Q1 Z b vs kc n d0 res h n0) T (mkF m 8 #[.val (.ref b), .val (.int A1), .val (.int (Int32.ofNat E)), .val (.int (Int32.ofNat ls)), .val (.int (own_bi seen)), .val (.int (Int32.ofNat i)), s6] []) := by
  obtain ⟨hx, hZ, hw, hby, hml, hown, hret, hlk, hnm⟩ := id K
  intro d
  induction d with
  | zero =>
    intro i ls seen s6 T hi hls hs6 X eT hres
    have hlt : ¬ Int32.ofNat i < Int32.ofNat E := by rw [own_ltN (by omega) (by omega)]; omega
    show OwnGo p e below s _ _ _ T (mkF m 8 #[.val (.ref b), .val (.int A1), .val (.int (Int32.ofNat E)), .val (.int (Int32.ofNat ls)), .val (.int (own_bi seen)), .val (.int (Int32.ofNat i)), s6] [])
    refine own_st (T' := T) (g' := (mkF m 97 #[.val (.ref b), .val (.int A1), .val (.int (Int32.ofNat E)), .val (.int (Int32.ofNat ls)), .val (.int (own_bi seen)), .val (.int (Int32.ofNat i)), s6] [(.int (-1 : Int32))])) (fun uT uK => ?_) ?_
    · show Steps p.tables e below (T.setTop (mkF m 8 #[.val (.ref b), .val (.int A1), .val (.int (Int32.ofNat E)), .val (.int (Int32.ofNat ls)), .val (.int (own_bi seen)), .val (.int (Int32.ofNat i)), s6] [])) _
      refine XS.iload X.here hx rfl (hb hby d1_8) rfl ?_
      show Steps p.tables e below (T.setTop (mkF m 10 #[.val (.ref b), .val (.int A1), .val (.int (Int32.ofNat E)), .val (.int (Int32.ofNat ls)), .val (.int (own_bi seen)), .val (.int (Int32.ofNat i)), s6] [(.int (Int32.ofNat i))])) _
      refine XS.iloadN X.here hx rfl (hb hby d1_10) rfl ?_
      show Steps p.tables e below (T.setTop (mkF m 11 #[.val (.ref b), .val (.int A1), .val (.int (Int32.ofNat E)), .val (.int (Int32.ofNat ls)), .val (.int (own_bi seen)), .val (.int (Int32.ofNat i)), s6] [(.int (Int32.ofNat E)), (.int (Int32.ofNat i))])) _
      refine XS.icmpYes X.here hx rfl (pc0 := 11) (pc' := 96) rfl (hb hby d1_11) rfl (XT.ii_ge_t hlt) (by decide) (by decide) ?_
      show Steps p.tables e below (T.setTop (mkF m 96 #[.val (.ref b), .val (.int A1), .val (.int (Int32.ofNat E)), .val (.int (Int32.ofNat ls)), .val (.int (own_bi seen)), .val (.int (Int32.ofNat i)), s6] [])) _
      refine XS.iconst X.here hx rfl (hb hby d1_96) ?_
      exact uK
    exact own_ret (v := some (.int (-1 : Int32))) X hlk (fun h => by rw [hret] at h; cases h) (fun fs hr => retOut X hx hret rfl (Or.inl ⟨rfl, by simp, _, rfl⟩) (hb hby d1_97) hr) (by rw [eT]; exact ⟨congrArg (fun y => some (Value.int y)) hres, N, rfl⟩) (by decide) (by decide)
  | succ d ih =>
    intro i ls seen s6 T hi hls hs6 X eT hres
    have hi16 : i < 16 := by omega
    have hls16 : ls < 16 := by omega
    have hlt : Int32.ofNat i < Int32.ofNat E := by rw [own_ltN (by omega) (by omega)]; omega
    cases seen
    · show OwnGo p e below s _ _ _ T (mkF m 8 #[.val (.ref b), .val (.int A1), .val (.int (Int32.ofNat E)), .val (.int (Int32.ofNat ls)), .val (.int (own_bi false)), .val (.int (Int32.ofNat i)), s6] [])
      refine own_st (T' := T) (g' := (mkF m 20 #[.val (.ref b), .val (.int A1), .val (.int (Int32.ofNat E)), .val (.int (Int32.ofNat ls)), .val (.int (own_bi false)), .val (.int (Int32.ofNat i)), s6] [(.int (10 : Int32)), (.int (vs.getD i 0))])) (fun uT uK => ?_) ?_
      · show Steps p.tables e below (T.setTop (mkF m 8 #[.val (.ref b), .val (.int A1), .val (.int (Int32.ofNat E)), .val (.int (Int32.ofNat ls)), .val (.int (own_bi false)), .val (.int (Int32.ofNat i)), s6] [])) _
        refine XS.iload X.here hx rfl (hb hby d1_8) rfl ?_
        show Steps p.tables e below (T.setTop (mkF m 10 #[.val (.ref b), .val (.int A1), .val (.int (Int32.ofNat E)), .val (.int (Int32.ofNat ls)), .val (.int (own_bi false)), .val (.int (Int32.ofNat i)), s6] [(.int (Int32.ofNat i))])) _
        refine XS.iloadN X.here hx rfl (hb hby d1_10) rfl ?_
        show Steps p.tables e below (T.setTop (mkF m 11 #[.val (.ref b), .val (.int A1), .val (.int (Int32.ofNat E)), .val (.int (Int32.ofNat ls)), .val (.int (own_bi false)), .val (.int (Int32.ofNat i)), s6] [(.int (Int32.ofNat E)), (.int (Int32.ofNat i))])) _
        refine XS.icmpNo X.here hx rfl (hb hby d1_11) rfl (XT.ii_ge_f hlt) ?_
        show Steps p.tables e below (T.setTop (mkF m 14 #[.val (.ref b), .val (.int A1), .val (.int (Int32.ofNat E)), .val (.int (Int32.ofNat ls)), .val (.int (own_bi false)), .val (.int (Int32.ofNat i)), s6] [])) _
        refine XS.aloadN X.here hx rfl (hb hby d1_14) rfl rfl ?_
        show Steps p.tables e below (T.setTop (mkF m 15 #[.val (.ref b), .val (.int A1), .val (.int (Int32.ofNat E)), .val (.int (Int32.ofNat ls)), .val (.int (own_bi false)), .val (.int (Int32.ofNat i)), s6] [(.ref b)])) _
        refine XS.iload X.here hx rfl (hb hby d1_15) rfl ?_
        show Steps p.tables e below (T.setTop (mkF m 17 #[.val (.ref b), .val (.int A1), .val (.int (Int32.ofNat E)), .val (.int (Int32.ofNat ls)), .val (.int (own_bi false)), .val (.int (Int32.ofNat i)), s6] [(.int (Int32.ofNat i)), (.ref b)])) _
        refine X.baloadBytes hx (j := (Int32.ofNat i)) (v := .int (vs.getD i 0)) (by rw [eT]; exact A_1.1) (State.isArrayOf_alike hZ.alike A_1.2.1) A_1.2.2 (own_inb S_1 hi16) (Has.at H_1 (own_inb S_1 hi16) (own_getD vs hi16)) (g := (mkF m 17 #[.val (.ref b), .val (.int A1), .val (.int (Int32.ofNat E)), .val (.int (Int32.ofNat ls)), .val (.int (own_bi false)), .val (.int (Int32.ofNat i)), s6] [(.int (Int32.ofNat i)), (.ref b)])) rfl rfl (hb hby d1_17) _ ?_
        show Steps p.tables e below (T.setTop (mkF m 18 #[.val (.ref b), .val (.int A1), .val (.int (Int32.ofNat E)), .val (.int (Int32.ofNat ls)), .val (.int (own_bi false)), .val (.int (Int32.ofNat i)), s6] [(.int (vs.getD i 0))])) _
        refine XS.bipush X.here hx rfl (hb hby d1_18) ?_
        exact uK
      by_cases hc20 : (vs.getD i 0) = (10 : Int32)
      · refine own_st (T' := T) (g' := (mkF m 29 #[.val (.ref b), .val (.int A1), .val (.int (Int32.ofNat E)), .val (.int (Int32.ofNat ls)), .val (.int (own_bi false)), .val (.int (Int32.ofNat i)), s6] [(.int (Int32.ofNat ls)), (.int (Int32.ofNat i))])) (fun uT uK => ?_) ?_
        · show Steps p.tables e below (T.setTop (mkF m 20 #[.val (.ref b), .val (.int A1), .val (.int (Int32.ofNat E)), .val (.int (Int32.ofNat ls)), .val (.int (own_bi false)), .val (.int (Int32.ofNat i)), s6] [(.int (10 : Int32)), (.int (vs.getD i 0))])) _
          refine XS.icmpYes X.here hx rfl (pc0 := 20) (pc' := 26) rfl (hb hby d1_20) rfl (XT.ii_eq_t hc20) (by decide) (by decide) ?_
          show Steps p.tables e below (T.setTop (mkF m 26 #[.val (.ref b), .val (.int A1), .val (.int (Int32.ofNat E)), .val (.int (Int32.ofNat ls)), .val (.int (own_bi false)), .val (.int (Int32.ofNat i)), s6] [])) _
          refine XS.iload X.here hx rfl (hb hby d1_26) rfl ?_
          show Steps p.tables e below (T.setTop (mkF m 28 #[.val (.ref b), .val (.int A1), .val (.int (Int32.ofNat E)), .val (.int (Int32.ofNat ls)), .val (.int (own_bi false)), .val (.int (Int32.ofNat i)), s6] [(.int (Int32.ofNat i))])) _
          refine XS.iloadN X.here hx rfl (hb hby d1_28) rfl ?_
          exact uK
        by_cases hc29 : (Int32.ofNat i) = (Int32.ofNat ls)
        · refine own_st (T' := T) (g' := (mkF m 8 #[.val (.ref b), .val (.int A1), .val (.int (Int32.ofNat E)), .val (.int ((Int32.ofNat i) + (1 : Int32))), .val (.int ((own_bi false) ||| (0 : Int32))), .val (.int ((Int32.ofNat i) + (1 : Int32))), .val (.int (1 : Int32))] [])) (fun uT uK => ?_) ?_
          · show Steps p.tables e below (T.setTop (mkF m 29 #[.val (.ref b), .val (.int A1), .val (.int (Int32.ofNat E)), .val (.int (Int32.ofNat ls)), .val (.int (own_bi false)), .val (.int (Int32.ofNat i)), s6] [(.int (Int32.ofNat ls)), (.int (Int32.ofNat i))])) _
            refine XS.icmpYes X.here hx rfl (pc0 := 29) (pc' := 48) rfl (hb hby d1_29) rfl (XT.ii_eq_t hc29) (by decide) (by decide) ?_
            show Steps p.tables e below (T.setTop (mkF m 48 #[.val (.ref b), .val (.int A1), .val (.int (Int32.ofNat E)), .val (.int (Int32.ofNat ls)), .val (.int (own_bi false)), .val (.int (Int32.ofNat i)), s6] [])) _
            refine XS.iconst X.here hx rfl (hb hby d1_48) ?_
            show Steps p.tables e below (T.setTop (mkF m 49 #[.val (.ref b), .val (.int A1), .val (.int (Int32.ofNat E)), .val (.int (Int32.ofNat ls)), .val (.int (own_bi false)), .val (.int (Int32.ofNat i)), s6] [(.int (1 : Int32))])) _
            refine XS.goto X.here hx rfl (pc0 := 49) (pc' := 53) rfl (hb hby d1_49) (by decide) (by decide) ?_
            show Steps p.tables e below (T.setTop (mkF m 53 #[.val (.ref b), .val (.int A1), .val (.int (Int32.ofNat E)), .val (.int (Int32.ofNat ls)), .val (.int (own_bi false)), .val (.int (Int32.ofNat i)), s6] [(.int (1 : Int32))])) _
            refine XS.istore X.here hx rfl (hb hby d1_53) rfl (l' := #[.val (.ref b), .val (.int A1), .val (.int (Int32.ofNat E)), .val (.int (Int32.ofNat ls)), .val (.int (own_bi false)), .val (.int (Int32.ofNat i)), .val (.int (1 : Int32))]) (own_sto6 hs6) ?_
            show Steps p.tables e below (T.setTop (mkF m 55 #[.val (.ref b), .val (.int A1), .val (.int (Int32.ofNat E)), .val (.int (Int32.ofNat ls)), .val (.int (own_bi false)), .val (.int (Int32.ofNat i)), .val (.int (1 : Int32))] [])) _
            refine XS.iload X.here hx rfl (hb hby d1_55) rfl ?_
            show Steps p.tables e below (T.setTop (mkF m 57 #[.val (.ref b), .val (.int A1), .val (.int (Int32.ofNat E)), .val (.int (Int32.ofNat ls)), .val (.int (own_bi false)), .val (.int (Int32.ofNat i)), .val (.int (1 : Int32))] [(.int (1 : Int32))])) _
            refine XS.ifNo X.here hx rfl (hb hby d1_57) rfl (XT.i0_eq_f (by decide)) ?_
            show Steps p.tables e below (T.setTop (mkF m 60 #[.val (.ref b), .val (.int A1), .val (.int (Int32.ofNat E)), .val (.int (Int32.ofNat ls)), .val (.int (own_bi false)), .val (.int (Int32.ofNat i)), .val (.int (1 : Int32))] [])) _
            refine XS.iload X.here hx rfl (hb hby d1_60) rfl ?_
            show Steps p.tables e below (T.setTop (mkF m 62 #[.val (.ref b), .val (.int A1), .val (.int (Int32.ofNat E)), .val (.int (Int32.ofNat ls)), .val (.int (own_bi false)), .val (.int (Int32.ofNat i)), .val (.int (1 : Int32))] [(.int (own_bi false))])) _
            refine XS.ifYes X.here hx rfl (pc0 := 62) (pc' := 70) rfl (hb hby d1_62) rfl (XT.i0_eq_t (by decide)) (by decide) (by decide) ?_
            show Steps p.tables e below (T.setTop (mkF m 70 #[.val (.ref b), .val (.int A1), .val (.int (Int32.ofNat E)), .val (.int (Int32.ofNat ls)), .val (.int (own_bi false)), .val (.int (Int32.ofNat i)), .val (.int (1 : Int32))] [])) _
            refine XS.iload X.here hx rfl (hb hby d1_70) rfl ?_
            show Steps p.tables e below (T.setTop (mkF m 72 #[.val (.ref b), .val (.int A1), .val (.int (Int32.ofNat E)), .val (.int (Int32.ofNat ls)), .val (.int (own_bi false)), .val (.int (Int32.ofNat i)), .val (.int (1 : Int32))] [(.int (own_bi false))])) _
            refine XS.iload X.here hx rfl (hb hby d1_72) rfl ?_
            show Steps p.tables e below (T.setTop (mkF m 74 #[.val (.ref b), .val (.int A1), .val (.int (Int32.ofNat E)), .val (.int (Int32.ofNat ls)), .val (.int (own_bi false)), .val (.int (Int32.ofNat i)), .val (.int (1 : Int32))] [(.int (1 : Int32)), (.int (own_bi false))])) _
            refine XS.ifYes X.here hx rfl (pc0 := 74) (pc' := 81) rfl (hb hby d1_74) rfl (XT.i0_ne_t (by decide)) (by decide) (by decide) ?_
            show Steps p.tables e below (T.setTop (mkF m 81 #[.val (.ref b), .val (.int A1), .val (.int (Int32.ofNat E)), .val (.int (Int32.ofNat ls)), .val (.int (own_bi false)), .val (.int (Int32.ofNat i)), .val (.int (1 : Int32))] [(.int (own_bi false))])) _
            refine XS.iconst X.here hx rfl (hb hby d1_81) ?_
            show Steps p.tables e below (T.setTop (mkF m 82 #[.val (.ref b), .val (.int A1), .val (.int (Int32.ofNat E)), .val (.int (Int32.ofNat ls)), .val (.int (own_bi false)), .val (.int (Int32.ofNat i)), .val (.int (1 : Int32))] [(.int (0 : Int32)), (.int (own_bi false))])) _
            refine XT.ior X.here hx rfl (hb hby d1_82) rfl ?_
            show Steps p.tables e below (T.setTop (mkF m 83 #[.val (.ref b), .val (.int A1), .val (.int (Int32.ofNat E)), .val (.int (Int32.ofNat ls)), .val (.int (own_bi false)), .val (.int (Int32.ofNat i)), .val (.int (1 : Int32))] [(.int ((own_bi false) ||| (0 : Int32)))])) _
            refine XS.istore X.here hx rfl (hb hby d1_83) rfl (l' := #[.val (.ref b), .val (.int A1), .val (.int (Int32.ofNat E)), .val (.int (Int32.ofNat ls)), .val (.int ((own_bi false) ||| (0 : Int32))), .val (.int (Int32.ofNat i)), .val (.int (1 : Int32))]) rfl ?_
            show Steps p.tables e below (T.setTop (mkF m 85 #[.val (.ref b), .val (.int A1), .val (.int (Int32.ofNat E)), .val (.int (Int32.ofNat ls)), .val (.int ((own_bi false) ||| (0 : Int32))), .val (.int (Int32.ofNat i)), .val (.int (1 : Int32))] [])) _
            refine XS.iload X.here hx rfl (hb hby d1_85) rfl ?_
            show Steps p.tables e below (T.setTop (mkF m 87 #[.val (.ref b), .val (.int A1), .val (.int (Int32.ofNat E)), .val (.int (Int32.ofNat ls)), .val (.int ((own_bi false) ||| (0 : Int32))), .val (.int (Int32.ofNat i)), .val (.int (1 : Int32))] [(.int (Int32.ofNat i))])) _
            refine XS.iconst X.here hx rfl (hb hby d1_87) ?_
            show Steps p.tables e below (T.setTop (mkF m 88 #[.val (.ref b), .val (.int A1), .val (.int (Int32.ofNat E)), .val (.int (Int32.ofNat ls)), .val (.int ((own_bi false) ||| (0 : Int32))), .val (.int (Int32.ofNat i)), .val (.int (1 : Int32))] [(.int (1 : Int32)), (.int (Int32.ofNat i))])) _
            refine XS.iadd X.here hx rfl (hb hby d1_88) rfl ?_
            show Steps p.tables e below (T.setTop (mkF m 89 #[.val (.ref b), .val (.int A1), .val (.int (Int32.ofNat E)), .val (.int (Int32.ofNat ls)), .val (.int ((own_bi false) ||| (0 : Int32))), .val (.int (Int32.ofNat i)), .val (.int (1 : Int32))] [(.int ((Int32.ofNat i) + (1 : Int32)))])) _
            refine XS.istoreN X.here hx rfl (hb hby d1_89) rfl (l' := #[.val (.ref b), .val (.int A1), .val (.int (Int32.ofNat E)), .val (.int ((Int32.ofNat i) + (1 : Int32))), .val (.int ((own_bi false) ||| (0 : Int32))), .val (.int (Int32.ofNat i)), .val (.int (1 : Int32))]) rfl ?_
            show Steps p.tables e below (T.setTop (mkF m 90 #[.val (.ref b), .val (.int A1), .val (.int (Int32.ofNat E)), .val (.int ((Int32.ofNat i) + (1 : Int32))), .val (.int ((own_bi false) ||| (0 : Int32))), .val (.int (Int32.ofNat i)), .val (.int (1 : Int32))] [])) _
            refine XS.iinc X.here hx rfl (hb hby d1_90) rfl (l' := #[.val (.ref b), .val (.int A1), .val (.int (Int32.ofNat E)), .val (.int ((Int32.ofNat i) + (1 : Int32))), .val (.int ((own_bi false) ||| (0 : Int32))), .val (.int ((Int32.ofNat i) + (1 : Int32))), .val (.int (1 : Int32))]) rfl ?_
            show Steps p.tables e below (T.setTop (mkF m 93 #[.val (.ref b), .val (.int A1), .val (.int (Int32.ofNat E)), .val (.int ((Int32.ofNat i) + (1 : Int32))), .val (.int ((own_bi false) ||| (0 : Int32))), .val (.int ((Int32.ofNat i) + (1 : Int32))), .val (.int (1 : Int32))] [])) _
            refine XS.goto X.here hx rfl (pc0 := 93) (pc' := 8) rfl (hb hby d1_93) (by decide) (by decide) ?_
            exact uK
          rw [own_i1 i, own_or0]
          exact ih (i + 1) (i + 1) false _ T (by omega) (Nat.le_refl _) (Or.inr ⟨_, rfl⟩) X eT (own_r_lf (by omega) hc20 (fun y => by cases y.2) (by have hq : own_qof vs ls i < 2 := (by first | exact own_qA hi16 hls hc29 | exact own_qB hi16 hls hc29 hc37 hc45); simp; omega) hres)
        · refine own_st (T' := T) (g' := (mkF m 37 #[.val (.ref b), .val (.int A1), .val (.int (Int32.ofNat E)), .val (.int (Int32.ofNat ls)), .val (.int (own_bi false)), .val (.int (Int32.ofNat i)), s6] [(.int ((Int32.ofNat ls) + (1 : Int32))), (.int (Int32.ofNat i))])) (fun uT uK => ?_) ?_
          · show Steps p.tables e below (T.setTop (mkF m 29 #[.val (.ref b), .val (.int A1), .val (.int (Int32.ofNat E)), .val (.int (Int32.ofNat ls)), .val (.int (own_bi false)), .val (.int (Int32.ofNat i)), s6] [(.int (Int32.ofNat ls)), (.int (Int32.ofNat i))])) _
            refine XS.icmpNo X.here hx rfl (hb hby d1_29) rfl (XT.ii_eq_f hc29) ?_
            show Steps p.tables e below (T.setTop (mkF m 32 #[.val (.ref b), .val (.int A1), .val (.int (Int32.ofNat E)), .val (.int (Int32.ofNat ls)), .val (.int (own_bi false)), .val (.int (Int32.ofNat i)), s6] [])) _
            refine XS.iload X.here hx rfl (hb hby d1_32) rfl ?_
            show Steps p.tables e below (T.setTop (mkF m 34 #[.val (.ref b), .val (.int A1), .val (.int (Int32.ofNat E)), .val (.int (Int32.ofNat ls)), .val (.int (own_bi false)), .val (.int (Int32.ofNat i)), s6] [(.int (Int32.ofNat i))])) _
            refine XS.iloadN X.here hx rfl (hb hby d1_34) rfl ?_
            show Steps p.tables e below (T.setTop (mkF m 35 #[.val (.ref b), .val (.int A1), .val (.int (Int32.ofNat E)), .val (.int (Int32.ofNat ls)), .val (.int (own_bi false)), .val (.int (Int32.ofNat i)), s6] [(.int (Int32.ofNat ls)), (.int (Int32.ofNat i))])) _
            refine XS.iconst X.here hx rfl (hb hby d1_35) ?_
            show Steps p.tables e below (T.setTop (mkF m 36 #[.val (.ref b), .val (.int A1), .val (.int (Int32.ofNat E)), .val (.int (Int32.ofNat ls)), .val (.int (own_bi false)), .val (.int (Int32.ofNat i)), s6] [(.int (1 : Int32)), (.int (Int32.ofNat ls)), (.int (Int32.ofNat i))])) _
            refine XS.iadd X.here hx rfl (hb hby d1_36) rfl ?_
            exact uK
          by_cases hc37 : (Int32.ofNat i) = ((Int32.ofNat ls) + (1 : Int32))
          · refine own_st (T' := T) (g' := (mkF m 45 #[.val (.ref b), .val (.int A1), .val (.int (Int32.ofNat E)), .val (.int (Int32.ofNat ls)), .val (.int (own_bi false)), .val (.int (Int32.ofNat i)), s6] [(.int (13 : Int32)), (.int (vs.getD ls 0))])) (fun uT uK => ?_) ?_
            · show Steps p.tables e below (T.setTop (mkF m 37 #[.val (.ref b), .val (.int A1), .val (.int (Int32.ofNat E)), .val (.int (Int32.ofNat ls)), .val (.int (own_bi false)), .val (.int (Int32.ofNat i)), s6] [(.int ((Int32.ofNat ls) + (1 : Int32))), (.int (Int32.ofNat i))])) _
              refine XS.icmpNo X.here hx rfl (hb hby d1_37) rfl (XT.ii_ne_f hc37) ?_
              show Steps p.tables e below (T.setTop (mkF m 40 #[.val (.ref b), .val (.int A1), .val (.int (Int32.ofNat E)), .val (.int (Int32.ofNat ls)), .val (.int (own_bi false)), .val (.int (Int32.ofNat i)), s6] [])) _
              refine XS.aloadN X.here hx rfl (hb hby d1_40) rfl rfl ?_
              show Steps p.tables e below (T.setTop (mkF m 41 #[.val (.ref b), .val (.int A1), .val (.int (Int32.ofNat E)), .val (.int (Int32.ofNat ls)), .val (.int (own_bi false)), .val (.int (Int32.ofNat i)), s6] [(.ref b)])) _
              refine XS.iloadN X.here hx rfl (hb hby d1_41) rfl ?_
              show Steps p.tables e below (T.setTop (mkF m 42 #[.val (.ref b), .val (.int A1), .val (.int (Int32.ofNat E)), .val (.int (Int32.ofNat ls)), .val (.int (own_bi false)), .val (.int (Int32.ofNat i)), s6] [(.int (Int32.ofNat ls)), (.ref b)])) _
              refine X.baloadBytes hx (j := (Int32.ofNat ls)) (v := .int (vs.getD ls 0)) (by rw [eT]; exact A_1.1) (State.isArrayOf_alike hZ.alike A_1.2.1) A_1.2.2 (own_inb S_1 hls16) (Has.at H_1 (own_inb S_1 hls16) (own_getD vs hls16)) (g := (mkF m 42 #[.val (.ref b), .val (.int A1), .val (.int (Int32.ofNat E)), .val (.int (Int32.ofNat ls)), .val (.int (own_bi false)), .val (.int (Int32.ofNat i)), s6] [(.int (Int32.ofNat ls)), (.ref b)])) rfl rfl (hb hby d1_42) _ ?_
              show Steps p.tables e below (T.setTop (mkF m 43 #[.val (.ref b), .val (.int A1), .val (.int (Int32.ofNat E)), .val (.int (Int32.ofNat ls)), .val (.int (own_bi false)), .val (.int (Int32.ofNat i)), s6] [(.int (vs.getD ls 0))])) _
              refine XS.bipush X.here hx rfl (hb hby d1_43) ?_
              exact uK
            by_cases hc45 : (vs.getD ls 0) = (13 : Int32)
            · refine own_st (T' := T) (g' := (mkF m 8 #[.val (.ref b), .val (.int A1), .val (.int (Int32.ofNat E)), .val (.int ((Int32.ofNat i) + (1 : Int32))), .val (.int ((own_bi false) ||| (0 : Int32))), .val (.int ((Int32.ofNat i) + (1 : Int32))), .val (.int (1 : Int32))] [])) (fun uT uK => ?_) ?_
              · show Steps p.tables e below (T.setTop (mkF m 45 #[.val (.ref b), .val (.int A1), .val (.int (Int32.ofNat E)), .val (.int (Int32.ofNat ls)), .val (.int (own_bi false)), .val (.int (Int32.ofNat i)), s6] [(.int (13 : Int32)), (.int (vs.getD ls 0))])) _
                refine XS.icmpNo X.here hx rfl (hb hby d1_45) rfl (XT.ii_ne_f hc45) ?_
                show Steps p.tables e below (T.setTop (mkF m 48 #[.val (.ref b), .val (.int A1), .val (.int (Int32.ofNat E)), .val (.int (Int32.ofNat ls)), .val (.int (own_bi false)), .val (.int (Int32.ofNat i)), s6] [])) _
                refine XS.iconst X.here hx rfl (hb hby d1_48) ?_
                show Steps p.tables e below (T.setTop (mkF m 49 #[.val (.ref b), .val (.int A1), .val (.int (Int32.ofNat E)), .val (.int (Int32.ofNat ls)), .val (.int (own_bi false)), .val (.int (Int32.ofNat i)), s6] [(.int (1 : Int32))])) _
                refine XS.goto X.here hx rfl (pc0 := 49) (pc' := 53) rfl (hb hby d1_49) (by decide) (by decide) ?_
                show Steps p.tables e below (T.setTop (mkF m 53 #[.val (.ref b), .val (.int A1), .val (.int (Int32.ofNat E)), .val (.int (Int32.ofNat ls)), .val (.int (own_bi false)), .val (.int (Int32.ofNat i)), s6] [(.int (1 : Int32))])) _
                refine XS.istore X.here hx rfl (hb hby d1_53) rfl (l' := #[.val (.ref b), .val (.int A1), .val (.int (Int32.ofNat E)), .val (.int (Int32.ofNat ls)), .val (.int (own_bi false)), .val (.int (Int32.ofNat i)), .val (.int (1 : Int32))]) (own_sto6 hs6) ?_
                show Steps p.tables e below (T.setTop (mkF m 55 #[.val (.ref b), .val (.int A1), .val (.int (Int32.ofNat E)), .val (.int (Int32.ofNat ls)), .val (.int (own_bi false)), .val (.int (Int32.ofNat i)), .val (.int (1 : Int32))] [])) _
                refine XS.iload X.here hx rfl (hb hby d1_55) rfl ?_
                show Steps p.tables e below (T.setTop (mkF m 57 #[.val (.ref b), .val (.int A1), .val (.int (Int32.ofNat E)), .val (.int (Int32.ofNat ls)), .val (.int (own_bi false)), .val (.int (Int32.ofNat i)), .val (.int (1 : Int32))] [(.int (1 : Int32))])) _
                refine XS.ifNo X.here hx rfl (hb hby d1_57) rfl (XT.i0_eq_f (by decide)) ?_
                show Steps p.tables e below (T.setTop (mkF m 60 #[.val (.ref b), .val (.int A1), .val (.int (Int32.ofNat E)), .val (.int (Int32.ofNat ls)), .val (.int (own_bi false)), .val (.int (Int32.ofNat i)), .val (.int (1 : Int32))] [])) _
                refine XS.iload X.here hx rfl (hb hby d1_60) rfl ?_
                show Steps p.tables e below (T.setTop (mkF m 62 #[.val (.ref b), .val (.int A1), .val (.int (Int32.ofNat E)), .val (.int (Int32.ofNat ls)), .val (.int (own_bi false)), .val (.int (Int32.ofNat i)), .val (.int (1 : Int32))] [(.int (own_bi false))])) _
                refine XS.ifYes X.here hx rfl (pc0 := 62) (pc' := 70) rfl (hb hby d1_62) rfl (XT.i0_eq_t (by decide)) (by decide) (by decide) ?_
                show Steps p.tables e below (T.setTop (mkF m 70 #[.val (.ref b), .val (.int A1), .val (.int (Int32.ofNat E)), .val (.int (Int32.ofNat ls)), .val (.int (own_bi false)), .val (.int (Int32.ofNat i)), .val (.int (1 : Int32))] [])) _
                refine XS.iload X.here hx rfl (hb hby d1_70) rfl ?_
                show Steps p.tables e below (T.setTop (mkF m 72 #[.val (.ref b), .val (.int A1), .val (.int (Int32.ofNat E)), .val (.int (Int32.ofNat ls)), .val (.int (own_bi false)), .val (.int (Int32.ofNat i)), .val (.int (1 : Int32))] [(.int (own_bi false))])) _
                refine XS.iload X.here hx rfl (hb hby d1_72) rfl ?_
                show Steps p.tables e below (T.setTop (mkF m 74 #[.val (.ref b), .val (.int A1), .val (.int (Int32.ofNat E)), .val (.int (Int32.ofNat ls)), .val (.int (own_bi false)), .val (.int (Int32.ofNat i)), .val (.int (1 : Int32))] [(.int (1 : Int32)), (.int (own_bi false))])) _
                refine XS.ifYes X.here hx rfl (pc0 := 74) (pc' := 81) rfl (hb hby d1_74) rfl (XT.i0_ne_t (by decide)) (by decide) (by decide) ?_
                show Steps p.tables e below (T.setTop (mkF m 81 #[.val (.ref b), .val (.int A1), .val (.int (Int32.ofNat E)), .val (.int (Int32.ofNat ls)), .val (.int (own_bi false)), .val (.int (Int32.ofNat i)), .val (.int (1 : Int32))] [(.int (own_bi false))])) _
                refine XS.iconst X.here hx rfl (hb hby d1_81) ?_
                show Steps p.tables e below (T.setTop (mkF m 82 #[.val (.ref b), .val (.int A1), .val (.int (Int32.ofNat E)), .val (.int (Int32.ofNat ls)), .val (.int (own_bi false)), .val (.int (Int32.ofNat i)), .val (.int (1 : Int32))] [(.int (0 : Int32)), (.int (own_bi false))])) _
                refine XT.ior X.here hx rfl (hb hby d1_82) rfl ?_
                show Steps p.tables e below (T.setTop (mkF m 83 #[.val (.ref b), .val (.int A1), .val (.int (Int32.ofNat E)), .val (.int (Int32.ofNat ls)), .val (.int (own_bi false)), .val (.int (Int32.ofNat i)), .val (.int (1 : Int32))] [(.int ((own_bi false) ||| (0 : Int32)))])) _
                refine XS.istore X.here hx rfl (hb hby d1_83) rfl (l' := #[.val (.ref b), .val (.int A1), .val (.int (Int32.ofNat E)), .val (.int (Int32.ofNat ls)), .val (.int ((own_bi false) ||| (0 : Int32))), .val (.int (Int32.ofNat i)), .val (.int (1 : Int32))]) rfl ?_
                show Steps p.tables e below (T.setTop (mkF m 85 #[.val (.ref b), .val (.int A1), .val (.int (Int32.ofNat E)), .val (.int (Int32.ofNat ls)), .val (.int ((own_bi false) ||| (0 : Int32))), .val (.int (Int32.ofNat i)), .val (.int (1 : Int32))] [])) _
                refine XS.iload X.here hx rfl (hb hby d1_85) rfl ?_
                show Steps p.tables e below (T.setTop (mkF m 87 #[.val (.ref b), .val (.int A1), .val (.int (Int32.ofNat E)), .val (.int (Int32.ofNat ls)), .val (.int ((own_bi false) ||| (0 : Int32))), .val (.int (Int32.ofNat i)), .val (.int (1 : Int32))] [(.int (Int32.ofNat i))])) _
                refine XS.iconst X.here hx rfl (hb hby d1_87) ?_
                show Steps p.tables e below (T.setTop (mkF m 88 #[.val (.ref b), .val (.int A1), .val (.int (Int32.ofNat E)), .val (.int (Int32.ofNat ls)), .val (.int ((own_bi false) ||| (0 : Int32))), .val (.int (Int32.ofNat i)), .val (.int (1 : Int32))] [(.int (1 : Int32)), (.int (Int32.ofNat i))])) _
                refine XS.iadd X.here hx rfl (hb hby d1_88) rfl ?_
                show Steps p.tables e below (T.setTop (mkF m 89 #[.val (.ref b), .val (.int A1), .val (.int (Int32.ofNat E)), .val (.int (Int32.ofNat ls)), .val (.int ((own_bi false) ||| (0 : Int32))), .val (.int (Int32.ofNat i)), .val (.int (1 : Int32))] [(.int ((Int32.ofNat i) + (1 : Int32)))])) _
                refine XS.istoreN X.here hx rfl (hb hby d1_89) rfl (l' := #[.val (.ref b), .val (.int A1), .val (.int (Int32.ofNat E)), .val (.int ((Int32.ofNat i) + (1 : Int32))), .val (.int ((own_bi false) ||| (0 : Int32))), .val (.int (Int32.ofNat i)), .val (.int (1 : Int32))]) rfl ?_
                show Steps p.tables e below (T.setTop (mkF m 90 #[.val (.ref b), .val (.int A1), .val (.int (Int32.ofNat E)), .val (.int ((Int32.ofNat i) + (1 : Int32))), .val (.int ((own_bi false) ||| (0 : Int32))), .val (.int (Int32.ofNat i)), .val (.int (1 : Int32))] [])) _
                refine XS.iinc X.here hx rfl (hb hby d1_90) rfl (l' := #[.val (.ref b), .val (.int A1), .val (.int (Int32.ofNat E)), .val (.int ((Int32.ofNat i) + (1 : Int32))), .val (.int ((own_bi false) ||| (0 : Int32))), .val (.int ((Int32.ofNat i) + (1 : Int32))), .val (.int (1 : Int32))]) rfl ?_
                show Steps p.tables e below (T.setTop (mkF m 93 #[.val (.ref b), .val (.int A1), .val (.int (Int32.ofNat E)), .val (.int ((Int32.ofNat i) + (1 : Int32))), .val (.int ((own_bi false) ||| (0 : Int32))), .val (.int ((Int32.ofNat i) + (1 : Int32))), .val (.int (1 : Int32))] [])) _
                refine XS.goto X.here hx rfl (pc0 := 93) (pc' := 8) rfl (hb hby d1_93) (by decide) (by decide) ?_
                exact uK
              rw [own_i1 i, own_or0]
              exact ih (i + 1) (i + 1) false _ T (by omega) (Nat.le_refl _) (Or.inr ⟨_, rfl⟩) X eT (own_r_lf (by omega) hc20 (fun y => by cases y.2) (by have hq : own_qof vs ls i < 2 := (by first | exact own_qA hi16 hls hc29 | exact own_qB hi16 hls hc29 hc37 hc45); simp; omega) hres)
            · refine own_st (T' := T) (g' := (mkF m 8 #[.val (.ref b), .val (.int A1), .val (.int (Int32.ofNat E)), .val (.int ((Int32.ofNat i) + (1 : Int32))), .val (.int ((own_bi false) ||| (1 : Int32))), .val (.int ((Int32.ofNat i) + (1 : Int32))), .val (.int (0 : Int32))] [])) (fun uT uK => ?_) ?_
              · show Steps p.tables e below (T.setTop (mkF m 45 #[.val (.ref b), .val (.int A1), .val (.int (Int32.ofNat E)), .val (.int (Int32.ofNat ls)), .val (.int (own_bi false)), .val (.int (Int32.ofNat i)), s6] [(.int (13 : Int32)), (.int (vs.getD ls 0))])) _
                refine XS.icmpYes X.here hx rfl (pc0 := 45) (pc' := 52) rfl (hb hby d1_45) rfl (XT.ii_ne_t hc45) (by decide) (by decide) ?_
                show Steps p.tables e below (T.setTop (mkF m 52 #[.val (.ref b), .val (.int A1), .val (.int (Int32.ofNat E)), .val (.int (Int32.ofNat ls)), .val (.int (own_bi false)), .val (.int (Int32.ofNat i)), s6] [])) _
                refine XS.iconst X.here hx rfl (hb hby d1_52) ?_
                show Steps p.tables e below (T.setTop (mkF m 53 #[.val (.ref b), .val (.int A1), .val (.int (Int32.ofNat E)), .val (.int (Int32.ofNat ls)), .val (.int (own_bi false)), .val (.int (Int32.ofNat i)), s6] [(.int (0 : Int32))])) _
                refine XS.istore X.here hx rfl (hb hby d1_53) rfl (l' := #[.val (.ref b), .val (.int A1), .val (.int (Int32.ofNat E)), .val (.int (Int32.ofNat ls)), .val (.int (own_bi false)), .val (.int (Int32.ofNat i)), .val (.int (0 : Int32))]) (own_sto6 hs6) ?_
                show Steps p.tables e below (T.setTop (mkF m 55 #[.val (.ref b), .val (.int A1), .val (.int (Int32.ofNat E)), .val (.int (Int32.ofNat ls)), .val (.int (own_bi false)), .val (.int (Int32.ofNat i)), .val (.int (0 : Int32))] [])) _
                refine XS.iload X.here hx rfl (hb hby d1_55) rfl ?_
                show Steps p.tables e below (T.setTop (mkF m 57 #[.val (.ref b), .val (.int A1), .val (.int (Int32.ofNat E)), .val (.int (Int32.ofNat ls)), .val (.int (own_bi false)), .val (.int (Int32.ofNat i)), .val (.int (0 : Int32))] [(.int (0 : Int32))])) _
                refine XS.ifYes X.here hx rfl (pc0 := 57) (pc' := 70) rfl (hb hby d1_57) rfl (XT.i0_eq_t (by decide)) (by decide) (by decide) ?_
                show Steps p.tables e below (T.setTop (mkF m 70 #[.val (.ref b), .val (.int A1), .val (.int (Int32.ofNat E)), .val (.int (Int32.ofNat ls)), .val (.int (own_bi false)), .val (.int (Int32.ofNat i)), .val (.int (0 : Int32))] [])) _
                refine XS.iload X.here hx rfl (hb hby d1_70) rfl ?_
                show Steps p.tables e below (T.setTop (mkF m 72 #[.val (.ref b), .val (.int A1), .val (.int (Int32.ofNat E)), .val (.int (Int32.ofNat ls)), .val (.int (own_bi false)), .val (.int (Int32.ofNat i)), .val (.int (0 : Int32))] [(.int (own_bi false))])) _
                refine XS.iload X.here hx rfl (hb hby d1_72) rfl ?_
                show Steps p.tables e below (T.setTop (mkF m 74 #[.val (.ref b), .val (.int A1), .val (.int (Int32.ofNat E)), .val (.int (Int32.ofNat ls)), .val (.int (own_bi false)), .val (.int (Int32.ofNat i)), .val (.int (0 : Int32))] [(.int (0 : Int32)), (.int (own_bi false))])) _
                refine XS.ifNo X.here hx rfl (hb hby d1_74) rfl (XT.i0_ne_f (by decide)) ?_
                show Steps p.tables e below (T.setTop (mkF m 77 #[.val (.ref b), .val (.int A1), .val (.int (Int32.ofNat E)), .val (.int (Int32.ofNat ls)), .val (.int (own_bi false)), .val (.int (Int32.ofNat i)), .val (.int (0 : Int32))] [(.int (own_bi false))])) _
                refine XS.iconst X.here hx rfl (hb hby d1_77) ?_
                show Steps p.tables e below (T.setTop (mkF m 78 #[.val (.ref b), .val (.int A1), .val (.int (Int32.ofNat E)), .val (.int (Int32.ofNat ls)), .val (.int (own_bi false)), .val (.int (Int32.ofNat i)), .val (.int (0 : Int32))] [(.int (1 : Int32)), (.int (own_bi false))])) _
                refine XS.goto X.here hx rfl (pc0 := 78) (pc' := 82) rfl (hb hby d1_78) (by decide) (by decide) ?_
                show Steps p.tables e below (T.setTop (mkF m 82 #[.val (.ref b), .val (.int A1), .val (.int (Int32.ofNat E)), .val (.int (Int32.ofNat ls)), .val (.int (own_bi false)), .val (.int (Int32.ofNat i)), .val (.int (0 : Int32))] [(.int (1 : Int32)), (.int (own_bi false))])) _
                refine XT.ior X.here hx rfl (hb hby d1_82) rfl ?_
                show Steps p.tables e below (T.setTop (mkF m 83 #[.val (.ref b), .val (.int A1), .val (.int (Int32.ofNat E)), .val (.int (Int32.ofNat ls)), .val (.int (own_bi false)), .val (.int (Int32.ofNat i)), .val (.int (0 : Int32))] [(.int ((own_bi false) ||| (1 : Int32)))])) _
                refine XS.istore X.here hx rfl (hb hby d1_83) rfl (l' := #[.val (.ref b), .val (.int A1), .val (.int (Int32.ofNat E)), .val (.int (Int32.ofNat ls)), .val (.int ((own_bi false) ||| (1 : Int32))), .val (.int (Int32.ofNat i)), .val (.int (0 : Int32))]) rfl ?_
                show Steps p.tables e below (T.setTop (mkF m 85 #[.val (.ref b), .val (.int A1), .val (.int (Int32.ofNat E)), .val (.int (Int32.ofNat ls)), .val (.int ((own_bi false) ||| (1 : Int32))), .val (.int (Int32.ofNat i)), .val (.int (0 : Int32))] [])) _
                refine XS.iload X.here hx rfl (hb hby d1_85) rfl ?_
                show Steps p.tables e below (T.setTop (mkF m 87 #[.val (.ref b), .val (.int A1), .val (.int (Int32.ofNat E)), .val (.int (Int32.ofNat ls)), .val (.int ((own_bi false) ||| (1 : Int32))), .val (.int (Int32.ofNat i)), .val (.int (0 : Int32))] [(.int (Int32.ofNat i))])) _
                refine XS.iconst X.here hx rfl (hb hby d1_87) ?_
                show Steps p.tables e below (T.setTop (mkF m 88 #[.val (.ref b), .val (.int A1), .val (.int (Int32.ofNat E)), .val (.int (Int32.ofNat ls)), .val (.int ((own_bi false) ||| (1 : Int32))), .val (.int (Int32.ofNat i)), .val (.int (0 : Int32))] [(.int (1 : Int32)), (.int (Int32.ofNat i))])) _
                refine XS.iadd X.here hx rfl (hb hby d1_88) rfl ?_
                show Steps p.tables e below (T.setTop (mkF m 89 #[.val (.ref b), .val (.int A1), .val (.int (Int32.ofNat E)), .val (.int (Int32.ofNat ls)), .val (.int ((own_bi false) ||| (1 : Int32))), .val (.int (Int32.ofNat i)), .val (.int (0 : Int32))] [(.int ((Int32.ofNat i) + (1 : Int32)))])) _
                refine XS.istoreN X.here hx rfl (hb hby d1_89) rfl (l' := #[.val (.ref b), .val (.int A1), .val (.int (Int32.ofNat E)), .val (.int ((Int32.ofNat i) + (1 : Int32))), .val (.int ((own_bi false) ||| (1 : Int32))), .val (.int (Int32.ofNat i)), .val (.int (0 : Int32))]) rfl ?_
                show Steps p.tables e below (T.setTop (mkF m 90 #[.val (.ref b), .val (.int A1), .val (.int (Int32.ofNat E)), .val (.int ((Int32.ofNat i) + (1 : Int32))), .val (.int ((own_bi false) ||| (1 : Int32))), .val (.int (Int32.ofNat i)), .val (.int (0 : Int32))] [])) _
                refine XS.iinc X.here hx rfl (hb hby d1_90) rfl (l' := #[.val (.ref b), .val (.int A1), .val (.int (Int32.ofNat E)), .val (.int ((Int32.ofNat i) + (1 : Int32))), .val (.int ((own_bi false) ||| (1 : Int32))), .val (.int ((Int32.ofNat i) + (1 : Int32))), .val (.int (0 : Int32))]) rfl ?_
                show Steps p.tables e below (T.setTop (mkF m 93 #[.val (.ref b), .val (.int A1), .val (.int (Int32.ofNat E)), .val (.int ((Int32.ofNat i) + (1 : Int32))), .val (.int ((own_bi false) ||| (1 : Int32))), .val (.int ((Int32.ofNat i) + (1 : Int32))), .val (.int (0 : Int32))] [])) _
                refine XS.goto X.here hx rfl (pc0 := 93) (pc' := 8) rfl (hb hby d1_93) (by decide) (by decide) ?_
                exact uK
              rw [own_i1 i, own_or1]
              exact ih (i + 1) (i + 1) true _ T (by omega) (Nat.le_refl _) (Or.inr ⟨_, rfl⟩) X eT (own_r_lf (by omega) hc20 (fun y => by cases y.2) (by have hq : 2 ≤ own_qof vs ls i := (by first | exact own_qC hi16 hls hc29 hc45 | exact own_qD hi16 hls hc29 hc37); simp; omega) hres)
          · refine own_st (T' := T) (g' := (mkF m 8 #[.val (.ref b), .val (.int A1), .val (.int (Int32.ofNat E)), .val (.int ((Int32.ofNat i) + (1 : Int32))), .val (.int ((own_bi false) ||| (1 : Int32))), .val (.int ((Int32.ofNat i) + (1 : Int32))), .val (.int (0 : Int32))] [])) (fun uT uK => ?_) ?_
            · show Steps p.tables e below (T.setTop (mkF m 37 #[.val (.ref b), .val (.int A1), .val (.int (Int32.ofNat E)), .val (.int (Int32.ofNat ls)), .val (.int (own_bi false)), .val (.int (Int32.ofNat i)), s6] [(.int ((Int32.ofNat ls) + (1 : Int32))), (.int (Int32.ofNat i))])) _
              refine XS.icmpYes X.here hx rfl (pc0 := 37) (pc' := 52) rfl (hb hby d1_37) rfl (XT.ii_ne_t hc37) (by decide) (by decide) ?_
              show Steps p.tables e below (T.setTop (mkF m 52 #[.val (.ref b), .val (.int A1), .val (.int (Int32.ofNat E)), .val (.int (Int32.ofNat ls)), .val (.int (own_bi false)), .val (.int (Int32.ofNat i)), s6] [])) _
              refine XS.iconst X.here hx rfl (hb hby d1_52) ?_
              show Steps p.tables e below (T.setTop (mkF m 53 #[.val (.ref b), .val (.int A1), .val (.int (Int32.ofNat E)), .val (.int (Int32.ofNat ls)), .val (.int (own_bi false)), .val (.int (Int32.ofNat i)), s6] [(.int (0 : Int32))])) _
              refine XS.istore X.here hx rfl (hb hby d1_53) rfl (l' := #[.val (.ref b), .val (.int A1), .val (.int (Int32.ofNat E)), .val (.int (Int32.ofNat ls)), .val (.int (own_bi false)), .val (.int (Int32.ofNat i)), .val (.int (0 : Int32))]) (own_sto6 hs6) ?_
              show Steps p.tables e below (T.setTop (mkF m 55 #[.val (.ref b), .val (.int A1), .val (.int (Int32.ofNat E)), .val (.int (Int32.ofNat ls)), .val (.int (own_bi false)), .val (.int (Int32.ofNat i)), .val (.int (0 : Int32))] [])) _
              refine XS.iload X.here hx rfl (hb hby d1_55) rfl ?_
              show Steps p.tables e below (T.setTop (mkF m 57 #[.val (.ref b), .val (.int A1), .val (.int (Int32.ofNat E)), .val (.int (Int32.ofNat ls)), .val (.int (own_bi false)), .val (.int (Int32.ofNat i)), .val (.int (0 : Int32))] [(.int (0 : Int32))])) _
              refine XS.ifYes X.here hx rfl (pc0 := 57) (pc' := 70) rfl (hb hby d1_57) rfl (XT.i0_eq_t (by decide)) (by decide) (by decide) ?_
              show Steps p.tables e below (T.setTop (mkF m 70 #[.val (.ref b), .val (.int A1), .val (.int (Int32.ofNat E)), .val (.int (Int32.ofNat ls)), .val (.int (own_bi false)), .val (.int (Int32.ofNat i)), .val (.int (0 : Int32))] [])) _
              refine XS.iload X.here hx rfl (hb hby d1_70) rfl ?_
              show Steps p.tables e below (T.setTop (mkF m 72 #[.val (.ref b), .val (.int A1), .val (.int (Int32.ofNat E)), .val (.int (Int32.ofNat ls)), .val (.int (own_bi false)), .val (.int (Int32.ofNat i)), .val (.int (0 : Int32))] [(.int (own_bi false))])) _
              refine XS.iload X.here hx rfl (hb hby d1_72) rfl ?_
              show Steps p.tables e below (T.setTop (mkF m 74 #[.val (.ref b), .val (.int A1), .val (.int (Int32.ofNat E)), .val (.int (Int32.ofNat ls)), .val (.int (own_bi false)), .val (.int (Int32.ofNat i)), .val (.int (0 : Int32))] [(.int (0 : Int32)), (.int (own_bi false))])) _
              refine XS.ifNo X.here hx rfl (hb hby d1_74) rfl (XT.i0_ne_f (by decide)) ?_
              show Steps p.tables e below (T.setTop (mkF m 77 #[.val (.ref b), .val (.int A1), .val (.int (Int32.ofNat E)), .val (.int (Int32.ofNat ls)), .val (.int (own_bi false)), .val (.int (Int32.ofNat i)), .val (.int (0 : Int32))] [(.int (own_bi false))])) _
              refine XS.iconst X.here hx rfl (hb hby d1_77) ?_
              show Steps p.tables e below (T.setTop (mkF m 78 #[.val (.ref b), .val (.int A1), .val (.int (Int32.ofNat E)), .val (.int (Int32.ofNat ls)), .val (.int (own_bi false)), .val (.int (Int32.ofNat i)), .val (.int (0 : Int32))] [(.int (1 : Int32)), (.int (own_bi false))])) _
              refine XS.goto X.here hx rfl (pc0 := 78) (pc' := 82) rfl (hb hby d1_78) (by decide) (by decide) ?_
              show Steps p.tables e below (T.setTop (mkF m 82 #[.val (.ref b), .val (.int A1), .val (.int (Int32.ofNat E)), .val (.int (Int32.ofNat ls)), .val (.int (own_bi false)), .val (.int (Int32.ofNat i)), .val (.int (0 : Int32))] [(.int (1 : Int32)), (.int (own_bi false))])) _
              refine XT.ior X.here hx rfl (hb hby d1_82) rfl ?_
              show Steps p.tables e below (T.setTop (mkF m 83 #[.val (.ref b), .val (.int A1), .val (.int (Int32.ofNat E)), .val (.int (Int32.ofNat ls)), .val (.int (own_bi false)), .val (.int (Int32.ofNat i)), .val (.int (0 : Int32))] [(.int ((own_bi false) ||| (1 : Int32)))])) _
              refine XS.istore X.here hx rfl (hb hby d1_83) rfl (l' := #[.val (.ref b), .val (.int A1), .val (.int (Int32.ofNat E)), .val (.int (Int32.ofNat ls)), .val (.int ((own_bi false) ||| (1 : Int32))), .val (.int (Int32.ofNat i)), .val (.int (0 : Int32))]) rfl ?_
              show Steps p.tables e below (T.setTop (mkF m 85 #[.val (.ref b), .val (.int A1), .val (.int (Int32.ofNat E)), .val (.int (Int32.ofNat ls)), .val (.int ((own_bi false) ||| (1 : Int32))), .val (.int (Int32.ofNat i)), .val (.int (0 : Int32))] [])) _
              refine XS.iload X.here hx rfl (hb hby d1_85) rfl ?_
              show Steps p.tables e below (T.setTop (mkF m 87 #[.val (.ref b), .val (.int A1), .val (.int (Int32.ofNat E)), .val (.int (Int32.ofNat ls)), .val (.int ((own_bi false) ||| (1 : Int32))), .val (.int (Int32.ofNat i)), .val (.int (0 : Int32))] [(.int (Int32.ofNat i))])) _
              refine XS.iconst X.here hx rfl (hb hby d1_87) ?_
              show Steps p.tables e below (T.setTop (mkF m 88 #[.val (.ref b), .val (.int A1), .val (.int (Int32.ofNat E)), .val (.int (Int32.ofNat ls)), .val (.int ((own_bi false) ||| (1 : Int32))), .val (.int (Int32.ofNat i)), .val (.int (0 : Int32))] [(.int (1 : Int32)), (.int (Int32.ofNat i))])) _
              refine XS.iadd X.here hx rfl (hb hby d1_88) rfl ?_
              show Steps p.tables e below (T.setTop (mkF m 89 #[.val (.ref b), .val (.int A1), .val (.int (Int32.ofNat E)), .val (.int (Int32.ofNat ls)), .val (.int ((own_bi false) ||| (1 : Int32))), .val (.int (Int32.ofNat i)), .val (.int (0 : Int32))] [(.int ((Int32.ofNat i) + (1 : Int32)))])) _
              refine XS.istoreN X.here hx rfl (hb hby d1_89) rfl (l' := #[.val (.ref b), .val (.int A1), .val (.int (Int32.ofNat E)), .val (.int ((Int32.ofNat i) + (1 : Int32))), .val (.int ((own_bi false) ||| (1 : Int32))), .val (.int (Int32.ofNat i)), .val (.int (0 : Int32))]) rfl ?_
              show Steps p.tables e below (T.setTop (mkF m 90 #[.val (.ref b), .val (.int A1), .val (.int (Int32.ofNat E)), .val (.int ((Int32.ofNat i) + (1 : Int32))), .val (.int ((own_bi false) ||| (1 : Int32))), .val (.int (Int32.ofNat i)), .val (.int (0 : Int32))] [])) _
              refine XS.iinc X.here hx rfl (hb hby d1_90) rfl (l' := #[.val (.ref b), .val (.int A1), .val (.int (Int32.ofNat E)), .val (.int ((Int32.ofNat i) + (1 : Int32))), .val (.int ((own_bi false) ||| (1 : Int32))), .val (.int ((Int32.ofNat i) + (1 : Int32))), .val (.int (0 : Int32))]) rfl ?_
              show Steps p.tables e below (T.setTop (mkF m 93 #[.val (.ref b), .val (.int A1), .val (.int (Int32.ofNat E)), .val (.int ((Int32.ofNat i) + (1 : Int32))), .val (.int ((own_bi false) ||| (1 : Int32))), .val (.int ((Int32.ofNat i) + (1 : Int32))), .val (.int (0 : Int32))] [])) _
              refine XS.goto X.here hx rfl (pc0 := 93) (pc' := 8) rfl (hb hby d1_93) (by decide) (by decide) ?_
              exact uK
            rw [own_i1 i, own_or1]
            exact ih (i + 1) (i + 1) true _ T (by omega) (Nat.le_refl _) (Or.inr ⟨_, rfl⟩) X eT (own_r_lf (by omega) hc20 (fun y => by cases y.2) (by have hq : 2 ≤ own_qof vs ls i := (by first | exact own_qC hi16 hls hc29 hc45 | exact own_qD hi16 hls hc29 hc37); simp; omega) hres)
      · refine own_st (T' := T) (g' := (mkF m 8 #[.val (.ref b), .val (.int A1), .val (.int (Int32.ofNat E)), .val (.int (Int32.ofNat ls)), .val (.int (own_bi false)), .val (.int ((Int32.ofNat i) + (1 : Int32))), s6] [])) (fun uT uK => ?_) ?_
        · show Steps p.tables e below (T.setTop (mkF m 20 #[.val (.ref b), .val (.int A1), .val (.int (Int32.ofNat E)), .val (.int (Int32.ofNat ls)), .val (.int (own_bi false)), .val (.int (Int32.ofNat i)), s6] [(.int (10 : Int32)), (.int (vs.getD i 0))])) _
          refine XS.icmpNo X.here hx rfl (hb hby d1_20) rfl (XT.ii_eq_f hc20) ?_
          show Steps p.tables e below (T.setTop (mkF m 23 #[.val (.ref b), .val (.int A1), .val (.int (Int32.ofNat E)), .val (.int (Int32.ofNat ls)), .val (.int (own_bi false)), .val (.int (Int32.ofNat i)), s6] [])) _
          refine XS.goto X.here hx rfl (pc0 := 23) (pc' := 90) rfl (hb hby d1_23) (by decide) (by decide) ?_
          show Steps p.tables e below (T.setTop (mkF m 90 #[.val (.ref b), .val (.int A1), .val (.int (Int32.ofNat E)), .val (.int (Int32.ofNat ls)), .val (.int (own_bi false)), .val (.int (Int32.ofNat i)), s6] [])) _
          refine XS.iinc X.here hx rfl (hb hby d1_90) rfl (l' := #[.val (.ref b), .val (.int A1), .val (.int (Int32.ofNat E)), .val (.int (Int32.ofNat ls)), .val (.int (own_bi false)), .val (.int ((Int32.ofNat i) + (1 : Int32))), s6]) rfl ?_
          show Steps p.tables e below (T.setTop (mkF m 93 #[.val (.ref b), .val (.int A1), .val (.int (Int32.ofNat E)), .val (.int (Int32.ofNat ls)), .val (.int (own_bi false)), .val (.int ((Int32.ofNat i) + (1 : Int32))), s6] [])) _
          refine XS.goto X.here hx rfl (pc0 := 93) (pc' := 8) rfl (hb hby d1_93) (by decide) (by decide) ?_
          exact uK
        rw [own_i1 i]
        exact ih (i + 1) ls false s6 T (by omega) (by omega) hs6 X eT (own_r_ch (by omega) hls hc20 hres)
    · show OwnGo p e below s _ _ _ T (mkF m 8 #[.val (.ref b), .val (.int A1), .val (.int (Int32.ofNat E)), .val (.int (Int32.ofNat ls)), .val (.int (own_bi true)), .val (.int (Int32.ofNat i)), s6] [])
      refine own_st (T' := T) (g' := (mkF m 20 #[.val (.ref b), .val (.int A1), .val (.int (Int32.ofNat E)), .val (.int (Int32.ofNat ls)), .val (.int (own_bi true)), .val (.int (Int32.ofNat i)), s6] [(.int (10 : Int32)), (.int (vs.getD i 0))])) (fun uT uK => ?_) ?_
      · show Steps p.tables e below (T.setTop (mkF m 8 #[.val (.ref b), .val (.int A1), .val (.int (Int32.ofNat E)), .val (.int (Int32.ofNat ls)), .val (.int (own_bi true)), .val (.int (Int32.ofNat i)), s6] [])) _
        refine XS.iload X.here hx rfl (hb hby d1_8) rfl ?_
        show Steps p.tables e below (T.setTop (mkF m 10 #[.val (.ref b), .val (.int A1), .val (.int (Int32.ofNat E)), .val (.int (Int32.ofNat ls)), .val (.int (own_bi true)), .val (.int (Int32.ofNat i)), s6] [(.int (Int32.ofNat i))])) _
        refine XS.iloadN X.here hx rfl (hb hby d1_10) rfl ?_
        show Steps p.tables e below (T.setTop (mkF m 11 #[.val (.ref b), .val (.int A1), .val (.int (Int32.ofNat E)), .val (.int (Int32.ofNat ls)), .val (.int (own_bi true)), .val (.int (Int32.ofNat i)), s6] [(.int (Int32.ofNat E)), (.int (Int32.ofNat i))])) _
        refine XS.icmpNo X.here hx rfl (hb hby d1_11) rfl (XT.ii_ge_f hlt) ?_
        show Steps p.tables e below (T.setTop (mkF m 14 #[.val (.ref b), .val (.int A1), .val (.int (Int32.ofNat E)), .val (.int (Int32.ofNat ls)), .val (.int (own_bi true)), .val (.int (Int32.ofNat i)), s6] [])) _
        refine XS.aloadN X.here hx rfl (hb hby d1_14) rfl rfl ?_
        show Steps p.tables e below (T.setTop (mkF m 15 #[.val (.ref b), .val (.int A1), .val (.int (Int32.ofNat E)), .val (.int (Int32.ofNat ls)), .val (.int (own_bi true)), .val (.int (Int32.ofNat i)), s6] [(.ref b)])) _
        refine XS.iload X.here hx rfl (hb hby d1_15) rfl ?_
        show Steps p.tables e below (T.setTop (mkF m 17 #[.val (.ref b), .val (.int A1), .val (.int (Int32.ofNat E)), .val (.int (Int32.ofNat ls)), .val (.int (own_bi true)), .val (.int (Int32.ofNat i)), s6] [(.int (Int32.ofNat i)), (.ref b)])) _
        refine X.baloadBytes hx (j := (Int32.ofNat i)) (v := .int (vs.getD i 0)) (by rw [eT]; exact A_1.1) (State.isArrayOf_alike hZ.alike A_1.2.1) A_1.2.2 (own_inb S_1 hi16) (Has.at H_1 (own_inb S_1 hi16) (own_getD vs hi16)) (g := (mkF m 17 #[.val (.ref b), .val (.int A1), .val (.int (Int32.ofNat E)), .val (.int (Int32.ofNat ls)), .val (.int (own_bi true)), .val (.int (Int32.ofNat i)), s6] [(.int (Int32.ofNat i)), (.ref b)])) rfl rfl (hb hby d1_17) _ ?_
        show Steps p.tables e below (T.setTop (mkF m 18 #[.val (.ref b), .val (.int A1), .val (.int (Int32.ofNat E)), .val (.int (Int32.ofNat ls)), .val (.int (own_bi true)), .val (.int (Int32.ofNat i)), s6] [(.int (vs.getD i 0))])) _
        refine XS.bipush X.here hx rfl (hb hby d1_18) ?_
        exact uK
      by_cases hc20 : (vs.getD i 0) = (10 : Int32)
      · refine own_st (T' := T) (g' := (mkF m 29 #[.val (.ref b), .val (.int A1), .val (.int (Int32.ofNat E)), .val (.int (Int32.ofNat ls)), .val (.int (own_bi true)), .val (.int (Int32.ofNat i)), s6] [(.int (Int32.ofNat ls)), (.int (Int32.ofNat i))])) (fun uT uK => ?_) ?_
        · show Steps p.tables e below (T.setTop (mkF m 20 #[.val (.ref b), .val (.int A1), .val (.int (Int32.ofNat E)), .val (.int (Int32.ofNat ls)), .val (.int (own_bi true)), .val (.int (Int32.ofNat i)), s6] [(.int (10 : Int32)), (.int (vs.getD i 0))])) _
          refine XS.icmpYes X.here hx rfl (pc0 := 20) (pc' := 26) rfl (hb hby d1_20) rfl (XT.ii_eq_t hc20) (by decide) (by decide) ?_
          show Steps p.tables e below (T.setTop (mkF m 26 #[.val (.ref b), .val (.int A1), .val (.int (Int32.ofNat E)), .val (.int (Int32.ofNat ls)), .val (.int (own_bi true)), .val (.int (Int32.ofNat i)), s6] [])) _
          refine XS.iload X.here hx rfl (hb hby d1_26) rfl ?_
          show Steps p.tables e below (T.setTop (mkF m 28 #[.val (.ref b), .val (.int A1), .val (.int (Int32.ofNat E)), .val (.int (Int32.ofNat ls)), .val (.int (own_bi true)), .val (.int (Int32.ofNat i)), s6] [(.int (Int32.ofNat i))])) _
          refine XS.iloadN X.here hx rfl (hb hby d1_28) rfl ?_
          exact uK
        by_cases hc29 : (Int32.ofNat i) = (Int32.ofNat ls)
        · refine own_st (T' := T) (g' := (mkF m 69 #[.val (.ref b), .val (.int A1), .val (.int (Int32.ofNat E)), .val (.int (Int32.ofNat ls)), .val (.int (own_bi true)), .val (.int (Int32.ofNat i)), .val (.int (1 : Int32))] [(.int ((Int32.ofNat i) + (1 : Int32)))])) (fun uT uK => ?_) ?_
          · show Steps p.tables e below (T.setTop (mkF m 29 #[.val (.ref b), .val (.int A1), .val (.int (Int32.ofNat E)), .val (.int (Int32.ofNat ls)), .val (.int (own_bi true)), .val (.int (Int32.ofNat i)), s6] [(.int (Int32.ofNat ls)), (.int (Int32.ofNat i))])) _
            refine XS.icmpYes X.here hx rfl (pc0 := 29) (pc' := 48) rfl (hb hby d1_29) rfl (XT.ii_eq_t hc29) (by decide) (by decide) ?_
            show Steps p.tables e below (T.setTop (mkF m 48 #[.val (.ref b), .val (.int A1), .val (.int (Int32.ofNat E)), .val (.int (Int32.ofNat ls)), .val (.int (own_bi true)), .val (.int (Int32.ofNat i)), s6] [])) _
            refine XS.iconst X.here hx rfl (hb hby d1_48) ?_
            show Steps p.tables e below (T.setTop (mkF m 49 #[.val (.ref b), .val (.int A1), .val (.int (Int32.ofNat E)), .val (.int (Int32.ofNat ls)), .val (.int (own_bi true)), .val (.int (Int32.ofNat i)), s6] [(.int (1 : Int32))])) _
            refine XS.goto X.here hx rfl (pc0 := 49) (pc' := 53) rfl (hb hby d1_49) (by decide) (by decide) ?_
            show Steps p.tables e below (T.setTop (mkF m 53 #[.val (.ref b), .val (.int A1), .val (.int (Int32.ofNat E)), .val (.int (Int32.ofNat ls)), .val (.int (own_bi true)), .val (.int (Int32.ofNat i)), s6] [(.int (1 : Int32))])) _
            refine XS.istore X.here hx rfl (hb hby d1_53) rfl (l' := #[.val (.ref b), .val (.int A1), .val (.int (Int32.ofNat E)), .val (.int (Int32.ofNat ls)), .val (.int (own_bi true)), .val (.int (Int32.ofNat i)), .val (.int (1 : Int32))]) (own_sto6 hs6) ?_
            show Steps p.tables e below (T.setTop (mkF m 55 #[.val (.ref b), .val (.int A1), .val (.int (Int32.ofNat E)), .val (.int (Int32.ofNat ls)), .val (.int (own_bi true)), .val (.int (Int32.ofNat i)), .val (.int (1 : Int32))] [])) _
            refine XS.iload X.here hx rfl (hb hby d1_55) rfl ?_
            show Steps p.tables e below (T.setTop (mkF m 57 #[.val (.ref b), .val (.int A1), .val (.int (Int32.ofNat E)), .val (.int (Int32.ofNat ls)), .val (.int (own_bi true)), .val (.int (Int32.ofNat i)), .val (.int (1 : Int32))] [(.int (1 : Int32))])) _
            refine XS.ifNo X.here hx rfl (hb hby d1_57) rfl (XT.i0_eq_f (by decide)) ?_
            show Steps p.tables e below (T.setTop (mkF m 60 #[.val (.ref b), .val (.int A1), .val (.int (Int32.ofNat E)), .val (.int (Int32.ofNat ls)), .val (.int (own_bi true)), .val (.int (Int32.ofNat i)), .val (.int (1 : Int32))] [])) _
            refine XS.iload X.here hx rfl (hb hby d1_60) rfl ?_
            show Steps p.tables e below (T.setTop (mkF m 62 #[.val (.ref b), .val (.int A1), .val (.int (Int32.ofNat E)), .val (.int (Int32.ofNat ls)), .val (.int (own_bi true)), .val (.int (Int32.ofNat i)), .val (.int (1 : Int32))] [(.int (own_bi true))])) _
            refine XS.ifNo X.here hx rfl (hb hby d1_62) rfl (XT.i0_eq_f (by decide)) ?_
            show Steps p.tables e below (T.setTop (mkF m 65 #[.val (.ref b), .val (.int A1), .val (.int (Int32.ofNat E)), .val (.int (Int32.ofNat ls)), .val (.int (own_bi true)), .val (.int (Int32.ofNat i)), .val (.int (1 : Int32))] [])) _
            refine XS.iload X.here hx rfl (hb hby d1_65) rfl ?_
            show Steps p.tables e below (T.setTop (mkF m 67 #[.val (.ref b), .val (.int A1), .val (.int (Int32.ofNat E)), .val (.int (Int32.ofNat ls)), .val (.int (own_bi true)), .val (.int (Int32.ofNat i)), .val (.int (1 : Int32))] [(.int (Int32.ofNat i))])) _
            refine XS.iconst X.here hx rfl (hb hby d1_67) ?_
            show Steps p.tables e below (T.setTop (mkF m 68 #[.val (.ref b), .val (.int A1), .val (.int (Int32.ofNat E)), .val (.int (Int32.ofNat ls)), .val (.int (own_bi true)), .val (.int (Int32.ofNat i)), .val (.int (1 : Int32))] [(.int (1 : Int32)), (.int (Int32.ofNat i))])) _
            refine XS.iadd X.here hx rfl (hb hby d1_68) rfl ?_
            exact uK
          exact own_ret (v := some (.int ((Int32.ofNat i) + (1 : Int32)))) X hlk (fun h => by rw [hret] at h; cases h) (fun fs hr => retOut X hx hret rfl (Or.inl ⟨rfl, by simp, _, rfl⟩) (hb hby d1_69) hr) (by rw [eT]; exact ⟨congrArg (fun y => some (Value.int y)) (own_r_end (by omega) hc20 (by first | exact own_qA hi16 hls hc29 | exact own_qB hi16 hls hc29 hc37 hc45) hres), N, rfl⟩) (by decide) (by decide)
        · refine own_st (T' := T) (g' := (mkF m 37 #[.val (.ref b), .val (.int A1), .val (.int (Int32.ofNat E)), .val (.int (Int32.ofNat ls)), .val (.int (own_bi true)), .val (.int (Int32.ofNat i)), s6] [(.int ((Int32.ofNat ls) + (1 : Int32))), (.int (Int32.ofNat i))])) (fun uT uK => ?_) ?_
          · show Steps p.tables e below (T.setTop (mkF m 29 #[.val (.ref b), .val (.int A1), .val (.int (Int32.ofNat E)), .val (.int (Int32.ofNat ls)), .val (.int (own_bi true)), .val (.int (Int32.ofNat i)), s6] [(.int (Int32.ofNat ls)), (.int (Int32.ofNat i))])) _
            refine XS.icmpNo X.here hx rfl (hb hby d1_29) rfl (XT.ii_eq_f hc29) ?_
            show Steps p.tables e below (T.setTop (mkF m 32 #[.val (.ref b), .val (.int A1), .val (.int (Int32.ofNat E)), .val (.int (Int32.ofNat ls)), .val (.int (own_bi true)), .val (.int (Int32.ofNat i)), s6] [])) _
            refine XS.iload X.here hx rfl (hb hby d1_32) rfl ?_
            show Steps p.tables e below (T.setTop (mkF m 34 #[.val (.ref b), .val (.int A1), .val (.int (Int32.ofNat E)), .val (.int (Int32.ofNat ls)), .val (.int (own_bi true)), .val (.int (Int32.ofNat i)), s6] [(.int (Int32.ofNat i))])) _
            refine XS.iloadN X.here hx rfl (hb hby d1_34) rfl ?_
            show Steps p.tables e below (T.setTop (mkF m 35 #[.val (.ref b), .val (.int A1), .val (.int (Int32.ofNat E)), .val (.int (Int32.ofNat ls)), .val (.int (own_bi true)), .val (.int (Int32.ofNat i)), s6] [(.int (Int32.ofNat ls)), (.int (Int32.ofNat i))])) _
            refine XS.iconst X.here hx rfl (hb hby d1_35) ?_
            show Steps p.tables e below (T.setTop (mkF m 36 #[.val (.ref b), .val (.int A1), .val (.int (Int32.ofNat E)), .val (.int (Int32.ofNat ls)), .val (.int (own_bi true)), .val (.int (Int32.ofNat i)), s6] [(.int (1 : Int32)), (.int (Int32.ofNat ls)), (.int (Int32.ofNat i))])) _
            refine XS.iadd X.here hx rfl (hb hby d1_36) rfl ?_
            exact uK
          by_cases hc37 : (Int32.ofNat i) = ((Int32.ofNat ls) + (1 : Int32))
          · refine own_st (T' := T) (g' := (mkF m 45 #[.val (.ref b), .val (.int A1), .val (.int (Int32.ofNat E)), .val (.int (Int32.ofNat ls)), .val (.int (own_bi true)), .val (.int (Int32.ofNat i)), s6] [(.int (13 : Int32)), (.int (vs.getD ls 0))])) (fun uT uK => ?_) ?_
            · show Steps p.tables e below (T.setTop (mkF m 37 #[.val (.ref b), .val (.int A1), .val (.int (Int32.ofNat E)), .val (.int (Int32.ofNat ls)), .val (.int (own_bi true)), .val (.int (Int32.ofNat i)), s6] [(.int ((Int32.ofNat ls) + (1 : Int32))), (.int (Int32.ofNat i))])) _
              refine XS.icmpNo X.here hx rfl (hb hby d1_37) rfl (XT.ii_ne_f hc37) ?_
              show Steps p.tables e below (T.setTop (mkF m 40 #[.val (.ref b), .val (.int A1), .val (.int (Int32.ofNat E)), .val (.int (Int32.ofNat ls)), .val (.int (own_bi true)), .val (.int (Int32.ofNat i)), s6] [])) _
              refine XS.aloadN X.here hx rfl (hb hby d1_40) rfl rfl ?_
              show Steps p.tables e below (T.setTop (mkF m 41 #[.val (.ref b), .val (.int A1), .val (.int (Int32.ofNat E)), .val (.int (Int32.ofNat ls)), .val (.int (own_bi true)), .val (.int (Int32.ofNat i)), s6] [(.ref b)])) _
              refine XS.iloadN X.here hx rfl (hb hby d1_41) rfl ?_
              show Steps p.tables e below (T.setTop (mkF m 42 #[.val (.ref b), .val (.int A1), .val (.int (Int32.ofNat E)), .val (.int (Int32.ofNat ls)), .val (.int (own_bi true)), .val (.int (Int32.ofNat i)), s6] [(.int (Int32.ofNat ls)), (.ref b)])) _
              refine X.baloadBytes hx (j := (Int32.ofNat ls)) (v := .int (vs.getD ls 0)) (by rw [eT]; exact A_1.1) (State.isArrayOf_alike hZ.alike A_1.2.1) A_1.2.2 (own_inb S_1 hls16) (Has.at H_1 (own_inb S_1 hls16) (own_getD vs hls16)) (g := (mkF m 42 #[.val (.ref b), .val (.int A1), .val (.int (Int32.ofNat E)), .val (.int (Int32.ofNat ls)), .val (.int (own_bi true)), .val (.int (Int32.ofNat i)), s6] [(.int (Int32.ofNat ls)), (.ref b)])) rfl rfl (hb hby d1_42) _ ?_
              show Steps p.tables e below (T.setTop (mkF m 43 #[.val (.ref b), .val (.int A1), .val (.int (Int32.ofNat E)), .val (.int (Int32.ofNat ls)), .val (.int (own_bi true)), .val (.int (Int32.ofNat i)), s6] [(.int (vs.getD ls 0))])) _
              refine XS.bipush X.here hx rfl (hb hby d1_43) ?_
              exact uK
            by_cases hc45 : (vs.getD ls 0) = (13 : Int32)
            · refine own_st (T' := T) (g' := (mkF m 69 #[.val (.ref b), .val (.int A1), .val (.int (Int32.ofNat E)), .val (.int (Int32.ofNat ls)), .val (.int (own_bi true)), .val (.int (Int32.ofNat i)), .val (.int (1 : Int32))] [(.int ((Int32.ofNat i) + (1 : Int32)))])) (fun uT uK => ?_) ?_
              · show Steps p.tables e below (T.setTop (mkF m 45 #[.val (.ref b), .val (.int A1), .val (.int (Int32.ofNat E)), .val (.int (Int32.ofNat ls)), .val (.int (own_bi true)), .val (.int (Int32.ofNat i)), s6] [(.int (13 : Int32)), (.int (vs.getD ls 0))])) _
                refine XS.icmpNo X.here hx rfl (hb hby d1_45) rfl (XT.ii_ne_f hc45) ?_
                show Steps p.tables e below (T.setTop (mkF m 48 #[.val (.ref b), .val (.int A1), .val (.int (Int32.ofNat E)), .val (.int (Int32.ofNat ls)), .val (.int (own_bi true)), .val (.int (Int32.ofNat i)), s6] [])) _
                refine XS.iconst X.here hx rfl (hb hby d1_48) ?_
                show Steps p.tables e below (T.setTop (mkF m 49 #[.val (.ref b), .val (.int A1), .val (.int (Int32.ofNat E)), .val (.int (Int32.ofNat ls)), .val (.int (own_bi true)), .val (.int (Int32.ofNat i)), s6] [(.int (1 : Int32))])) _
                refine XS.goto X.here hx rfl (pc0 := 49) (pc' := 53) rfl (hb hby d1_49) (by decide) (by decide) ?_
                show Steps p.tables e below (T.setTop (mkF m 53 #[.val (.ref b), .val (.int A1), .val (.int (Int32.ofNat E)), .val (.int (Int32.ofNat ls)), .val (.int (own_bi true)), .val (.int (Int32.ofNat i)), s6] [(.int (1 : Int32))])) _
                refine XS.istore X.here hx rfl (hb hby d1_53) rfl (l' := #[.val (.ref b), .val (.int A1), .val (.int (Int32.ofNat E)), .val (.int (Int32.ofNat ls)), .val (.int (own_bi true)), .val (.int (Int32.ofNat i)), .val (.int (1 : Int32))]) (own_sto6 hs6) ?_
                show Steps p.tables e below (T.setTop (mkF m 55 #[.val (.ref b), .val (.int A1), .val (.int (Int32.ofNat E)), .val (.int (Int32.ofNat ls)), .val (.int (own_bi true)), .val (.int (Int32.ofNat i)), .val (.int (1 : Int32))] [])) _
                refine XS.iload X.here hx rfl (hb hby d1_55) rfl ?_
                show Steps p.tables e below (T.setTop (mkF m 57 #[.val (.ref b), .val (.int A1), .val (.int (Int32.ofNat E)), .val (.int (Int32.ofNat ls)), .val (.int (own_bi true)), .val (.int (Int32.ofNat i)), .val (.int (1 : Int32))] [(.int (1 : Int32))])) _
                refine XS.ifNo X.here hx rfl (hb hby d1_57) rfl (XT.i0_eq_f (by decide)) ?_
                show Steps p.tables e below (T.setTop (mkF m 60 #[.val (.ref b), .val (.int A1), .val (.int (Int32.ofNat E)), .val (.int (Int32.ofNat ls)), .val (.int (own_bi true)), .val (.int (Int32.ofNat i)), .val (.int (1 : Int32))] [])) _
                refine XS.iload X.here hx rfl (hb hby d1_60) rfl ?_
                show Steps p.tables e below (T.setTop (mkF m 62 #[.val (.ref b), .val (.int A1), .val (.int (Int32.ofNat E)), .val (.int (Int32.ofNat ls)), .val (.int (own_bi true)), .val (.int (Int32.ofNat i)), .val (.int (1 : Int32))] [(.int (own_bi true))])) _
                refine XS.ifNo X.here hx rfl (hb hby d1_62) rfl (XT.i0_eq_f (by decide)) ?_
                show Steps p.tables e below (T.setTop (mkF m 65 #[.val (.ref b), .val (.int A1), .val (.int (Int32.ofNat E)), .val (.int (Int32.ofNat ls)), .val (.int (own_bi true)), .val (.int (Int32.ofNat i)), .val (.int (1 : Int32))] [])) _
                refine XS.iload X.here hx rfl (hb hby d1_65) rfl ?_
                show Steps p.tables e below (T.setTop (mkF m 67 #[.val (.ref b), .val (.int A1), .val (.int (Int32.ofNat E)), .val (.int (Int32.ofNat ls)), .val (.int (own_bi true)), .val (.int (Int32.ofNat i)), .val (.int (1 : Int32))] [(.int (Int32.ofNat i))])) _
                refine XS.iconst X.here hx rfl (hb hby d1_67) ?_
                show Steps p.tables e below (T.setTop (mkF m 68 #[.val (.ref b), .val (.int A1), .val (.int (Int32.ofNat E)), .val (.int (Int32.ofNat ls)), .val (.int (own_bi true)), .val (.int (Int32.ofNat i)), .val (.int (1 : Int32))] [(.int (1 : Int32)), (.int (Int32.ofNat i))])) _
                refine XS.iadd X.here hx rfl (hb hby d1_68) rfl ?_
                exact uK
              exact own_ret (v := some (.int ((Int32.ofNat i) + (1 : Int32)))) X hlk (fun h => by rw [hret] at h; cases h) (fun fs hr => retOut X hx hret rfl (Or.inl ⟨rfl, by simp, _, rfl⟩) (hb hby d1_69) hr) (by rw [eT]; exact ⟨congrArg (fun y => some (Value.int y)) (own_r_end (by omega) hc20 (by first | exact own_qA hi16 hls hc29 | exact own_qB hi16 hls hc29 hc37 hc45) hres), N, rfl⟩) (by decide) (by decide)
            · refine own_st (T' := T) (g' := (mkF m 8 #[.val (.ref b), .val (.int A1), .val (.int (Int32.ofNat E)), .val (.int ((Int32.ofNat i) + (1 : Int32))), .val (.int ((own_bi true) ||| (1 : Int32))), .val (.int ((Int32.ofNat i) + (1 : Int32))), .val (.int (0 : Int32))] [])) (fun uT uK => ?_) ?_
              · show Steps p.tables e below (T.setTop (mkF m 45 #[.val (.ref b), .val (.int A1), .val (.int (Int32.ofNat E)), .val (.int (Int32.ofNat ls)), .val (.int (own_bi true)), .val (.int (Int32.ofNat i)), s6] [(.int (13 : Int32)), (.int (vs.getD ls 0))])) _
                refine XS.icmpYes X.here hx rfl (pc0 := 45) (pc' := 52) rfl (hb hby d1_45) rfl (XT.ii_ne_t hc45) (by decide) (by decide) ?_
                show Steps p.tables e below (T.setTop (mkF m 52 #[.val (.ref b), .val (.int A1), .val (.int (Int32.ofNat E)), .val (.int (Int32.ofNat ls)), .val (.int (own_bi true)), .val (.int (Int32.ofNat i)), s6] [])) _
                refine XS.iconst X.here hx rfl (hb hby d1_52) ?_
                show Steps p.tables e below (T.setTop (mkF m 53 #[.val (.ref b), .val (.int A1), .val (.int (Int32.ofNat E)), .val (.int (Int32.ofNat ls)), .val (.int (own_bi true)), .val (.int (Int32.ofNat i)), s6] [(.int (0 : Int32))])) _
                refine XS.istore X.here hx rfl (hb hby d1_53) rfl (l' := #[.val (.ref b), .val (.int A1), .val (.int (Int32.ofNat E)), .val (.int (Int32.ofNat ls)), .val (.int (own_bi true)), .val (.int (Int32.ofNat i)), .val (.int (0 : Int32))]) (own_sto6 hs6) ?_
                show Steps p.tables e below (T.setTop (mkF m 55 #[.val (.ref b), .val (.int A1), .val (.int (Int32.ofNat E)), .val (.int (Int32.ofNat ls)), .val (.int (own_bi true)), .val (.int (Int32.ofNat i)), .val (.int (0 : Int32))] [])) _
                refine XS.iload X.here hx rfl (hb hby d1_55) rfl ?_
                show Steps p.tables e below (T.setTop (mkF m 57 #[.val (.ref b), .val (.int A1), .val (.int (Int32.ofNat E)), .val (.int (Int32.ofNat ls)), .val (.int (own_bi true)), .val (.int (Int32.ofNat i)), .val (.int (0 : Int32))] [(.int (0 : Int32))])) _
                refine XS.ifYes X.here hx rfl (pc0 := 57) (pc' := 70) rfl (hb hby d1_57) rfl (XT.i0_eq_t (by decide)) (by decide) (by decide) ?_
                show Steps p.tables e below (T.setTop (mkF m 70 #[.val (.ref b), .val (.int A1), .val (.int (Int32.ofNat E)), .val (.int (Int32.ofNat ls)), .val (.int (own_bi true)), .val (.int (Int32.ofNat i)), .val (.int (0 : Int32))] [])) _
                refine XS.iload X.here hx rfl (hb hby d1_70) rfl ?_
                show Steps p.tables e below (T.setTop (mkF m 72 #[.val (.ref b), .val (.int A1), .val (.int (Int32.ofNat E)), .val (.int (Int32.ofNat ls)), .val (.int (own_bi true)), .val (.int (Int32.ofNat i)), .val (.int (0 : Int32))] [(.int (own_bi true))])) _
                refine XS.iload X.here hx rfl (hb hby d1_72) rfl ?_
                show Steps p.tables e below (T.setTop (mkF m 74 #[.val (.ref b), .val (.int A1), .val (.int (Int32.ofNat E)), .val (.int (Int32.ofNat ls)), .val (.int (own_bi true)), .val (.int (Int32.ofNat i)), .val (.int (0 : Int32))] [(.int (0 : Int32)), (.int (own_bi true))])) _
                refine XS.ifNo X.here hx rfl (hb hby d1_74) rfl (XT.i0_ne_f (by decide)) ?_
                show Steps p.tables e below (T.setTop (mkF m 77 #[.val (.ref b), .val (.int A1), .val (.int (Int32.ofNat E)), .val (.int (Int32.ofNat ls)), .val (.int (own_bi true)), .val (.int (Int32.ofNat i)), .val (.int (0 : Int32))] [(.int (own_bi true))])) _
                refine XS.iconst X.here hx rfl (hb hby d1_77) ?_
                show Steps p.tables e below (T.setTop (mkF m 78 #[.val (.ref b), .val (.int A1), .val (.int (Int32.ofNat E)), .val (.int (Int32.ofNat ls)), .val (.int (own_bi true)), .val (.int (Int32.ofNat i)), .val (.int (0 : Int32))] [(.int (1 : Int32)), (.int (own_bi true))])) _
                refine XS.goto X.here hx rfl (pc0 := 78) (pc' := 82) rfl (hb hby d1_78) (by decide) (by decide) ?_
                show Steps p.tables e below (T.setTop (mkF m 82 #[.val (.ref b), .val (.int A1), .val (.int (Int32.ofNat E)), .val (.int (Int32.ofNat ls)), .val (.int (own_bi true)), .val (.int (Int32.ofNat i)), .val (.int (0 : Int32))] [(.int (1 : Int32)), (.int (own_bi true))])) _
                refine XT.ior X.here hx rfl (hb hby d1_82) rfl ?_
                show Steps p.tables e below (T.setTop (mkF m 83 #[.val (.ref b), .val (.int A1), .val (.int (Int32.ofNat E)), .val (.int (Int32.ofNat ls)), .val (.int (own_bi true)), .val (.int (Int32.ofNat i)), .val (.int (0 : Int32))] [(.int ((own_bi true) ||| (1 : Int32)))])) _
                refine XS.istore X.here hx rfl (hb hby d1_83) rfl (l' := #[.val (.ref b), .val (.int A1), .val (.int (Int32.ofNat E)), .val (.int (Int32.ofNat ls)), .val (.int ((own_bi true) ||| (1 : Int32))), .val (.int (Int32.ofNat i)), .val (.int (0 : Int32))]) rfl ?_
                show Steps p.tables e below (T.setTop (mkF m 85 #[.val (.ref b), .val (.int A1), .val (.int (Int32.ofNat E)), .val (.int (Int32.ofNat ls)), .val (.int ((own_bi true) ||| (1 : Int32))), .val (.int (Int32.ofNat i)), .val (.int (0 : Int32))] [])) _
                refine XS.iload X.here hx rfl (hb hby d1_85) rfl ?_
                show Steps p.tables e below (T.setTop (mkF m 87 #[.val (.ref b), .val (.int A1), .val (.int (Int32.ofNat E)), .val (.int (Int32.ofNat ls)), .val (.int ((own_bi true) ||| (1 : Int32))), .val (.int (Int32.ofNat i)), .val (.int (0 : Int32))] [(.int (Int32.ofNat i))])) _
                refine XS.iconst X.here hx rfl (hb hby d1_87) ?_
                show Steps p.tables e below (T.setTop (mkF m 88 #[.val (.ref b), .val (.int A1), .val (.int (Int32.ofNat E)), .val (.int (Int32.ofNat ls)), .val (.int ((own_bi true) ||| (1 : Int32))), .val (.int (Int32.ofNat i)), .val (.int (0 : Int32))] [(.int (1 : Int32)), (.int (Int32.ofNat i))])) _
                refine XS.iadd X.here hx rfl (hb hby d1_88) rfl ?_
                show Steps p.tables e below (T.setTop (mkF m 89 #[.val (.ref b), .val (.int A1), .val (.int (Int32.ofNat E)), .val (.int (Int32.ofNat ls)), .val (.int ((own_bi true) ||| (1 : Int32))), .val (.int (Int32.ofNat i)), .val (.int (0 : Int32))] [(.int ((Int32.ofNat i) + (1 : Int32)))])) _
                refine XS.istoreN X.here hx rfl (hb hby d1_89) rfl (l' := #[.val (.ref b), .val (.int A1), .val (.int (Int32.ofNat E)), .val (.int ((Int32.ofNat i) + (1 : Int32))), .val (.int ((own_bi true) ||| (1 : Int32))), .val (.int (Int32.ofNat i)), .val (.int (0 : Int32))]) rfl ?_
                show Steps p.tables e below (T.setTop (mkF m 90 #[.val (.ref b), .val (.int A1), .val (.int (Int32.ofNat E)), .val (.int ((Int32.ofNat i) + (1 : Int32))), .val (.int ((own_bi true) ||| (1 : Int32))), .val (.int (Int32.ofNat i)), .val (.int (0 : Int32))] [])) _
                refine XS.iinc X.here hx rfl (hb hby d1_90) rfl (l' := #[.val (.ref b), .val (.int A1), .val (.int (Int32.ofNat E)), .val (.int ((Int32.ofNat i) + (1 : Int32))), .val (.int ((own_bi true) ||| (1 : Int32))), .val (.int ((Int32.ofNat i) + (1 : Int32))), .val (.int (0 : Int32))]) rfl ?_
                show Steps p.tables e below (T.setTop (mkF m 93 #[.val (.ref b), .val (.int A1), .val (.int (Int32.ofNat E)), .val (.int ((Int32.ofNat i) + (1 : Int32))), .val (.int ((own_bi true) ||| (1 : Int32))), .val (.int ((Int32.ofNat i) + (1 : Int32))), .val (.int (0 : Int32))] [])) _
                refine XS.goto X.here hx rfl (pc0 := 93) (pc' := 8) rfl (hb hby d1_93) (by decide) (by decide) ?_
                exact uK
              rw [own_i1 i, own_or2]
              exact ih (i + 1) (i + 1) true _ T (by omega) (Nat.le_refl _) (Or.inr ⟨_, rfl⟩) X eT (own_r_lf (by omega) hc20 (fun y => absurd y.1 (by have hq : 2 ≤ own_qof vs ls i := (by first | exact own_qC hi16 hls hc29 hc45 | exact own_qD hi16 hls hc29 hc37); omega)) (by simp) hres)
          · refine own_st (T' := T) (g' := (mkF m 8 #[.val (.ref b), .val (.int A1), .val (.int (Int32.ofNat E)), .val (.int ((Int32.ofNat i) + (1 : Int32))), .val (.int ((own_bi true) ||| (1 : Int32))), .val (.int ((Int32.ofNat i) + (1 : Int32))), .val (.int (0 : Int32))] [])) (fun uT uK => ?_) ?_
            · show Steps p.tables e below (T.setTop (mkF m 37 #[.val (.ref b), .val (.int A1), .val (.int (Int32.ofNat E)), .val (.int (Int32.ofNat ls)), .val (.int (own_bi true)), .val (.int (Int32.ofNat i)), s6] [(.int ((Int32.ofNat ls) + (1 : Int32))), (.int (Int32.ofNat i))])) _
              refine XS.icmpYes X.here hx rfl (pc0 := 37) (pc' := 52) rfl (hb hby d1_37) rfl (XT.ii_ne_t hc37) (by decide) (by decide) ?_
              show Steps p.tables e below (T.setTop (mkF m 52 #[.val (.ref b), .val (.int A1), .val (.int (Int32.ofNat E)), .val (.int (Int32.ofNat ls)), .val (.int (own_bi true)), .val (.int (Int32.ofNat i)), s6] [])) _
              refine XS.iconst X.here hx rfl (hb hby d1_52) ?_
              show Steps p.tables e below (T.setTop (mkF m 53 #[.val (.ref b), .val (.int A1), .val (.int (Int32.ofNat E)), .val (.int (Int32.ofNat ls)), .val (.int (own_bi true)), .val (.int (Int32.ofNat i)), s6] [(.int (0 : Int32))])) _
              refine XS.istore X.here hx rfl (hb hby d1_53) rfl (l' := #[.val (.ref b), .val (.int A1), .val (.int (Int32.ofNat E)), .val (.int (Int32.ofNat ls)), .val (.int (own_bi true)), .val (.int (Int32.ofNat i)), .val (.int (0 : Int32))]) (own_sto6 hs6) ?_
              show Steps p.tables e below (T.setTop (mkF m 55 #[.val (.ref b), .val (.int A1), .val (.int (Int32.ofNat E)), .val (.int (Int32.ofNat ls)), .val (.int (own_bi true)), .val (.int (Int32.ofNat i)), .val (.int (0 : Int32))] [])) _
              refine XS.iload X.here hx rfl (hb hby d1_55) rfl ?_
              show Steps p.tables e below (T.setTop (mkF m 57 #[.val (.ref b), .val (.int A1), .val (.int (Int32.ofNat E)), .val (.int (Int32.ofNat ls)), .val (.int (own_bi true)), .val (.int (Int32.ofNat i)), .val (.int (0 : Int32))] [(.int (0 : Int32))])) _
              refine XS.ifYes X.here hx rfl (pc0 := 57) (pc' := 70) rfl (hb hby d1_57) rfl (XT.i0_eq_t (by decide)) (by decide) (by decide) ?_
              show Steps p.tables e below (T.setTop (mkF m 70 #[.val (.ref b), .val (.int A1), .val (.int (Int32.ofNat E)), .val (.int (Int32.ofNat ls)), .val (.int (own_bi true)), .val (.int (Int32.ofNat i)), .val (.int (0 : Int32))] [])) _
              refine XS.iload X.here hx rfl (hb hby d1_70) rfl ?_
              show Steps p.tables e below (T.setTop (mkF m 72 #[.val (.ref b), .val (.int A1), .val (.int (Int32.ofNat E)), .val (.int (Int32.ofNat ls)), .val (.int (own_bi true)), .val (.int (Int32.ofNat i)), .val (.int (0 : Int32))] [(.int (own_bi true))])) _
              refine XS.iload X.here hx rfl (hb hby d1_72) rfl ?_
              show Steps p.tables e below (T.setTop (mkF m 74 #[.val (.ref b), .val (.int A1), .val (.int (Int32.ofNat E)), .val (.int (Int32.ofNat ls)), .val (.int (own_bi true)), .val (.int (Int32.ofNat i)), .val (.int (0 : Int32))] [(.int (0 : Int32)), (.int (own_bi true))])) _
              refine XS.ifNo X.here hx rfl (hb hby d1_74) rfl (XT.i0_ne_f (by decide)) ?_
              show Steps p.tables e below (T.setTop (mkF m 77 #[.val (.ref b), .val (.int A1), .val (.int (Int32.ofNat E)), .val (.int (Int32.ofNat ls)), .val (.int (own_bi true)), .val (.int (Int32.ofNat i)), .val (.int (0 : Int32))] [(.int (own_bi true))])) _
              refine XS.iconst X.here hx rfl (hb hby d1_77) ?_
              show Steps p.tables e below (T.setTop (mkF m 78 #[.val (.ref b), .val (.int A1), .val (.int (Int32.ofNat E)), .val (.int (Int32.ofNat ls)), .val (.int (own_bi true)), .val (.int (Int32.ofNat i)), .val (.int (0 : Int32))] [(.int (1 : Int32)), (.int (own_bi true))])) _
              refine XS.goto X.here hx rfl (pc0 := 78) (pc' := 82) rfl (hb hby d1_78) (by decide) (by decide) ?_
              show Steps p.tables e below (T.setTop (mkF m 82 #[.val (.ref b), .val (.int A1), .val (.int (Int32.ofNat E)), .val (.int (Int32.ofNat ls)), .val (.int (own_bi true)), .val (.int (Int32.ofNat i)), .val (.int (0 : Int32))] [(.int (1 : Int32)), (.int (own_bi true))])) _
              refine XT.ior X.here hx rfl (hb hby d1_82) rfl ?_
              show Steps p.tables e below (T.setTop (mkF m 83 #[.val (.ref b), .val (.int A1), .val (.int (Int32.ofNat E)), .val (.int (Int32.ofNat ls)), .val (.int (own_bi true)), .val (.int (Int32.ofNat i)), .val (.int (0 : Int32))] [(.int ((own_bi true) ||| (1 : Int32)))])) _
              refine XS.istore X.here hx rfl (hb hby d1_83) rfl (l' := #[.val (.ref b), .val (.int A1), .val (.int (Int32.ofNat E)), .val (.int (Int32.ofNat ls)), .val (.int ((own_bi true) ||| (1 : Int32))), .val (.int (Int32.ofNat i)), .val (.int (0 : Int32))]) rfl ?_
              show Steps p.tables e below (T.setTop (mkF m 85 #[.val (.ref b), .val (.int A1), .val (.int (Int32.ofNat E)), .val (.int (Int32.ofNat ls)), .val (.int ((own_bi true) ||| (1 : Int32))), .val (.int (Int32.ofNat i)), .val (.int (0 : Int32))] [])) _
              refine XS.iload X.here hx rfl (hb hby d1_85) rfl ?_
              show Steps p.tables e below (T.setTop (mkF m 87 #[.val (.ref b), .val (.int A1), .val (.int (Int32.ofNat E)), .val (.int (Int32.ofNat ls)), .val (.int ((own_bi true) ||| (1 : Int32))), .val (.int (Int32.ofNat i)), .val (.int (0 : Int32))] [(.int (Int32.ofNat i))])) _
              refine XS.iconst X.here hx rfl (hb hby d1_87) ?_
              show Steps p.tables e below (T.setTop (mkF m 88 #[.val (.ref b), .val (.int A1), .val (.int (Int32.ofNat E)), .val (.int (Int32.ofNat ls)), .val (.int ((own_bi true) ||| (1 : Int32))), .val (.int (Int32.ofNat i)), .val (.int (0 : Int32))] [(.int (1 : Int32)), (.int (Int32.ofNat i))])) _
              refine XS.iadd X.here hx rfl (hb hby d1_88) rfl ?_
              show Steps p.tables e below (T.setTop (mkF m 89 #[.val (.ref b), .val (.int A1), .val (.int (Int32.ofNat E)), .val (.int (Int32.ofNat ls)), .val (.int ((own_bi true) ||| (1 : Int32))), .val (.int (Int32.ofNat i)), .val (.int (0 : Int32))] [(.int ((Int32.ofNat i) + (1 : Int32)))])) _
              refine XS.istoreN X.here hx rfl (hb hby d1_89) rfl (l' := #[.val (.ref b), .val (.int A1), .val (.int (Int32.ofNat E)), .val (.int ((Int32.ofNat i) + (1 : Int32))), .val (.int ((own_bi true) ||| (1 : Int32))), .val (.int (Int32.ofNat i)), .val (.int (0 : Int32))]) rfl ?_
              show Steps p.tables e below (T.setTop (mkF m 90 #[.val (.ref b), .val (.int A1), .val (.int (Int32.ofNat E)), .val (.int ((Int32.ofNat i) + (1 : Int32))), .val (.int ((own_bi true) ||| (1 : Int32))), .val (.int (Int32.ofNat i)), .val (.int (0 : Int32))] [])) _
              refine XS.iinc X.here hx rfl (hb hby d1_90) rfl (l' := #[.val (.ref b), .val (.int A1), .val (.int (Int32.ofNat E)), .val (.int ((Int32.ofNat i) + (1 : Int32))), .val (.int ((own_bi true) ||| (1 : Int32))), .val (.int ((Int32.ofNat i) + (1 : Int32))), .val (.int (0 : Int32))]) rfl ?_
              show Steps p.tables e below (T.setTop (mkF m 93 #[.val (.ref b), .val (.int A1), .val (.int (Int32.ofNat E)), .val (.int ((Int32.ofNat i) + (1 : Int32))), .val (.int ((own_bi true) ||| (1 : Int32))), .val (.int ((Int32.ofNat i) + (1 : Int32))), .val (.int (0 : Int32))] [])) _
              refine XS.goto X.here hx rfl (pc0 := 93) (pc' := 8) rfl (hb hby d1_93) (by decide) (by decide) ?_
              exact uK
            rw [own_i1 i, own_or2]
            exact ih (i + 1) (i + 1) true _ T (by omega) (Nat.le_refl _) (Or.inr ⟨_, rfl⟩) X eT (own_r_lf (by omega) hc20 (fun y => absurd y.1 (by have hq : 2 ≤ own_qof vs ls i := (by first | exact own_qC hi16 hls hc29 hc45 | exact own_qD hi16 hls hc29 hc37); omega)) (by simp) hres)
      · refine own_st (T' := T) (g' := (mkF m 8 #[.val (.ref b), .val (.int A1), .val (.int (Int32.ofNat E)), .val (.int (Int32.ofNat ls)), .val (.int (own_bi true)), .val (.int ((Int32.ofNat i) + (1 : Int32))), s6] [])) (fun uT uK => ?_) ?_
        · show Steps p.tables e below (T.setTop (mkF m 20 #[.val (.ref b), .val (.int A1), .val (.int (Int32.ofNat E)), .val (.int (Int32.ofNat ls)), .val (.int (own_bi true)), .val (.int (Int32.ofNat i)), s6] [(.int (10 : Int32)), (.int (vs.getD i 0))])) _
          refine XS.icmpNo X.here hx rfl (hb hby d1_20) rfl (XT.ii_eq_f hc20) ?_
          show Steps p.tables e below (T.setTop (mkF m 23 #[.val (.ref b), .val (.int A1), .val (.int (Int32.ofNat E)), .val (.int (Int32.ofNat ls)), .val (.int (own_bi true)), .val (.int (Int32.ofNat i)), s6] [])) _
          refine XS.goto X.here hx rfl (pc0 := 23) (pc' := 90) rfl (hb hby d1_23) (by decide) (by decide) ?_
          show Steps p.tables e below (T.setTop (mkF m 90 #[.val (.ref b), .val (.int A1), .val (.int (Int32.ofNat E)), .val (.int (Int32.ofNat ls)), .val (.int (own_bi true)), .val (.int (Int32.ofNat i)), s6] [])) _
          refine XS.iinc X.here hx rfl (hb hby d1_90) rfl (l' := #[.val (.ref b), .val (.int A1), .val (.int (Int32.ofNat E)), .val (.int (Int32.ofNat ls)), .val (.int (own_bi true)), .val (.int ((Int32.ofNat i) + (1 : Int32))), s6]) rfl ?_
          show Steps p.tables e below (T.setTop (mkF m 93 #[.val (.ref b), .val (.int A1), .val (.int (Int32.ofNat E)), .val (.int (Int32.ofNat ls)), .val (.int (own_bi true)), .val (.int ((Int32.ofNat i) + (1 : Int32))), s6] [])) _
          refine XS.goto X.here hx rfl (pc0 := 93) (pc' := 8) rfl (hb hby d1_93) (by decide) (by decide) ?_
          exact uK
        rw [own_i1 i]
        exact ih (i + 1) ls true s6 T (by omega) (by omega) hs6 X eT (own_r_ch (by omega) hls hc20 hres)
theorem own_ef_rm1 (m : MethodId) (x0 : Addr) (x1 : Int32) (x2 : Int32) : entryFrame m #[(.ref x0), (.int x1), (.int x2)] 7 = mkF m 0 #[.val (.ref x0), .val (.int x1), .val (.int x2), .unset, .unset, .unset, .unset] [] := by first | (simp [entryFrame, mkF, argsToLocals, Value.category]; done) | rfl
set_option maxRecDepth 65536 in
set_option maxHeartbeats 40000000 in
theorem rm1 (l : Launch) (Z : State) (a0 : Array Value) (hw : ∀ d ∈ tables_1, d.before a0 Z = true) (ws : List Jvm.Cond) (b : Addr) (vs : List Int32) (kc : ClassId) (n : Nat) (d : Nat) (res : Int32) (h0 : Heap) (n0 : Nat) (Z0 : n0 ≤ h0.size) (V_1 : Arv Z h0 b kc .byte 16 (vs.map Value.int) (.int 0)) (hlen : vs.length = 16) (hle : n + d ≤ 16) (hres : own_out n (own_scan ((vs.drop n).take d) 0 false) = res) :
    MetFree l (⟨"com/example/tallybox/tallybox/RequestHead", "end", "([BII)I"⟩ : MethodName) (head1 (Jvm.Cond.code (⟨"com/example/tallybox/tallybox/RequestHead", "end", "([BII)I"⟩ : MethodName) prog_70_method_2_code 7 (some .int) :: ws) ({ frames := 0, cells := 0, slots := 0, locals := 0 } : Room)) (fun aQ UQ => aQ = #[(.ref b), (.int (Int32.ofNat n)), (.int (Int32.ofNat (n + d)))] ∧ Z.Warmed39 UQ.vm ∧ UQ.heap = h0) (fun _ _ _ _ _ => True) (fun _ UQ oQ UR => ∃ vQ LQ, oQ = .returned vQ ∧ Q1 Z b vs kc n d res h0 n0 vQ UR.heap LQ ∧ FrameEnd UQ oQ UR LQ ({ frames := 0, cells := 0, slots := 0, locals := 0 } : Room).cells ({ frames := 0, cells := 0, slots := 0, locals := 0 } : Room).slots) := by
  obtain ⟨c_1, A_1, q_1, S_1, N_1, H_1, G_1⟩ := V_1
  refine MetFree.of_bodySF (plainFor_of_name pn_1) hisR ?_
  intro p e s m args below meth c s₁ Bd hml0 hP hK
  obtain ⟨rfl, hZ, hh⟩ := hP
  have hx := Bd.exec
  have hby := Bd.bytes
  have hml : c.maxLocals = 7 := hml0
  have hown : s.vm.findClass "com/example/tallybox/tallybox/RequestHead" = some m.cls := findClass_of_methodNamed Bd.named
  have hnm := (name_of_methodNamed Bd.named Bd.method).1
  have hret := Bd.returns
  have hlk : meth.locks = false := Bd.notSynchronized
  have X0 : Stand p l e ({ frames := 0, cells := 0, slots := 0, locals := 0 } : Room) s m #[(.ref b), (.int (Int32.ofNat n)), (.int (Int32.ofNat (n + d)))] below meth c s₁ [] 0 0 := Stand.of_body Bd
  have e0 : s₁.heap = h0 := by rw [← hh, Bd.state]; rfl
  have N0 := Fr.nil n0
  have K : Ctx1 p s m meth c Z a0 := ⟨hx, hZ, hw, hby, hml, hown, hret, hlk, hnm⟩
  show OwnGo p e below s ({ frames := 0, cells := 0, slots := 0, locals := 0 } : Room).cells ({ frames := 0, cells := 0, slots := 0, locals := 0 } : Room).slots (Q1 Z b vs kc n d res h0 n0) s₁ (entryFrame m #[(.ref b), (.int (Int32.ofNat n)), (.int (Int32.ofNat (n + d)))] 7)
  refine own_cast (own_ef_rm1 m b (Int32.ofNat n) (Int32.ofNat (n + d))) ?_
  show OwnGo p e below s _ _ _ s₁ (mkF m 0 #[.val (.ref b), .val (.int (Int32.ofNat n)), .val (.int (Int32.ofNat (n + d))), .unset, .unset, .unset, .unset] [])
  refine own_st (T' := s₁) (g' := (mkF m 8 #[.val (.ref b), .val (.int (Int32.ofNat n)), .val (.int (Int32.ofNat (n + d))), .val (.int (Int32.ofNat n)), .val (.int (0 : Int32)), .val (.int (Int32.ofNat n)), .unset] [])) (fun uT uK => ?_) ?_
  · show Steps p.tables e below (s₁.setTop (mkF m 0 #[.val (.ref b), .val (.int (Int32.ofNat n)), .val (.int (Int32.ofNat (n + d))), .unset, .unset, .unset, .unset] [])) _
    refine XS.iloadN X0.here hx rfl (hb hby d1_0) rfl ?_
    show Steps p.tables e below (s₁.setTop (mkF m 1 #[.val (.ref b), .val (.int (Int32.ofNat n)), .val (.int (Int32.ofNat (n + d))), .unset, .unset, .unset, .unset] [(.int (Int32.ofNat n))])) _
    refine XS.istoreN X0.here hx rfl (hb hby d1_1) rfl (l' := #[.val (.ref b), .val (.int (Int32.ofNat n)), .val (.int (Int32.ofNat (n + d))), .val (.int (Int32.ofNat n)), .unset, .unset, .unset]) rfl ?_
    show Steps p.tables e below (s₁.setTop (mkF m 2 #[.val (.ref b), .val (.int (Int32.ofNat n)), .val (.int (Int32.ofNat (n + d))), .val (.int (Int32.ofNat n)), .unset, .unset, .unset] [])) _
    refine XS.iconst X0.here hx rfl (hb hby d1_2) ?_
    show Steps p.tables e below (s₁.setTop (mkF m 3 #[.val (.ref b), .val (.int (Int32.ofNat n)), .val (.int (Int32.ofNat (n + d))), .val (.int (Int32.ofNat n)), .unset, .unset, .unset] [(.int (0 : Int32))])) _
    refine XS.istore X0.here hx rfl (hb hby d1_3) rfl (l' := #[.val (.ref b), .val (.int (Int32.ofNat n)), .val (.int (Int32.ofNat (n + d))), .val (.int (Int32.ofNat n)), .val (.int (0 : Int32)), .unset, .unset]) rfl ?_
    show Steps p.tables e below (s₁.setTop (mkF m 5 #[.val (.ref b), .val (.int (Int32.ofNat n)), .val (.int (Int32.ofNat (n + d))), .val (.int (Int32.ofNat n)), .val (.int (0 : Int32)), .unset, .unset] [])) _
    refine XS.iloadN X0.here hx rfl (hb hby d1_5) rfl ?_
    show Steps p.tables e below (s₁.setTop (mkF m 6 #[.val (.ref b), .val (.int (Int32.ofNat n)), .val (.int (Int32.ofNat (n + d))), .val (.int (Int32.ofNat n)), .val (.int (0 : Int32)), .unset, .unset] [(.int (Int32.ofNat n))])) _
    refine XS.istore X0.here hx rfl (hb hby d1_6) rfl (l' := #[.val (.ref b), .val (.int (Int32.ofNat n)), .val (.int (Int32.ofNat (n + d))), .val (.int (Int32.ofNat n)), .val (.int (0 : Int32)), .val (.int (Int32.ofNat n)), .unset]) rfl ?_
    exact uK
  exact own_loop1 b A_1 S_1 H_1 hlen (n + d) hle (Int32.ofNat n) res kc n d K N0 d n n false .unset s₁ rfl (Nat.le_refl _) (Or.inl rfl) X0 e0 (by have e : own_qof vs n n = 0 := by { rw [own_qof, if_pos rfl] }; rw [e]; exact hres)
def Q0 (Z : State) (p1 : Int32) (q2 : Int64) (p3 : Int32) (h0 : Heap) (n0 : Nat) (v : Option Value) (h : Heap) (L : List Loc) : Prop := v = some (.int 1) ∧ Fr n0 L
set_option maxRecDepth 65536 in
set_option maxHeartbeats 40000000 in
theorem own_t330 {p : Program} {l : Launch} {e : Env} {s : State} {m : MethodId} {args : Array Value} {below : List Frame} {meth : Method} {c : Code} {T : State} {locs : List Loc} {Z : State} {a0 : Array Value} {h : Heap} {n0 : Nat} (p1 p3 : Int32) (q2 : Int64) (b : Addr) (kc : ClassId) (at' : Nat) (pre S : List Int32) (h0 : Heap) (nb ln c1 : Int32) (s10 : Slot)
    (K : Ctx0 p s m meth c Z a0) (X : Stand p l e room_1 s m args below meth c T locs 1 16) (eT : T.heap = h) (N : Fr n0 locs) (Z0 : n0 ≤ h.size) (g_b : n0 ≤ b) (hat : at' ≤ 2) (B : own_buf Z h b kc at' pre S) (hs10 : own_one s10) (hf : own_fin S) (hbd : at' + S.length ≤ 15) :
    OwnGo p e below s room_1.cells room_1.slots (Q0 Z p1 q2 p3 h0 n0) T (mkF m 330 #[.val (.int p1), .val (.long q2), .second, .val (.int p3), .val (.ref b), .val (.int (Int32.ofNat at')), .val (.int (Int32.ofNat (at' + S.length))), .val (.int nb), .val (.int ln), .val (.int c1), s10, .unset, .unset] []) := by
  obtain ⟨hx, hZ, hw, hby, hml, hown, hret, hlk, hnm⟩ := id K
  refine own_st (T' := T) (g' := (mkF m 344 #[.val (.int p1), .val (.long q2), .second, .val (.int p3), .val (.ref b), .val (.int (Int32.ofNat at')), .val (.int (Int32.ofNat (at' + S.length))), .val (.int nb), .val (.int ln), .val (.int c1), .val (.int (Int32.ofNat (at' + S.length))), .unset, .unset] [(.int (((XT.ushrL q2 (40 : Int32)).toInt32).toInt8.toInt32)), (.int (Int32.ofNat (at' + S.length))), (.ref b)])) (fun uT uK => ?_) ?_
  · show Steps p.tables e below (T.setTop (mkF m 330 #[.val (.int p1), .val (.long q2), .second, .val (.int p3), .val (.ref b), .val (.int (Int32.ofNat at')), .val (.int (Int32.ofNat (at' + S.length))), .val (.int nb), .val (.int ln), .val (.int c1), s10, .unset, .unset] [])) _
    refine XS.iload X.here hx rfl (hb hby at_330) rfl ?_
    show Steps p.tables e below (T.setTop (mkF m 332 #[.val (.int p1), .val (.long q2), .second, .val (.int p3), .val (.ref b), .val (.int (Int32.ofNat at')), .val (.int (Int32.ofNat (at' + S.length))), .val (.int nb), .val (.int ln), .val (.int c1), s10, .unset, .unset] [(.int (Int32.ofNat (at' + S.length)))])) _
    refine XS.istore X.here hx rfl (hb hby at_332) rfl (l' := #[.val (.int p1), .val (.long q2), .second, .val (.int p3), .val (.ref b), .val (.int (Int32.ofNat at')), .val (.int (Int32.ofNat (at' + S.length))), .val (.int nb), .val (.int ln), .val (.int c1), .val (.int (Int32.ofNat (at' + S.length))), .unset, .unset]) (own_sto10 hs10) ?_
    show Steps p.tables e below (T.setTop (mkF m 334 #[.val (.int p1), .val (.long q2), .second, .val (.int p3), .val (.ref b), .val (.int (Int32.ofNat at')), .val (.int (Int32.ofNat (at' + S.length))), .val (.int nb), .val (.int ln), .val (.int c1), .val (.int (Int32.ofNat (at' + S.length))), .unset, .unset] [])) _
    refine XS.aload X.here hx rfl (hb hby at_334) rfl rfl ?_
    show Steps p.tables e below (T.setTop (mkF m 336 #[.val (.int p1), .val (.long q2), .second, .val (.int p3), .val (.ref b), .val (.int (Int32.ofNat at')), .val (.int (Int32.ofNat (at' + S.length))), .val (.int nb), .val (.int ln), .val (.int c1), .val (.int (Int32.ofNat (at' + S.length))), .unset, .unset] [(.ref b)])) _
    refine XS.iload X.here hx rfl (hb hby at_336) rfl ?_
    show Steps p.tables e below (T.setTop (mkF m 338 #[.val (.int p1), .val (.long q2), .second, .val (.int p3), .val (.ref b), .val (.int (Int32.ofNat at')), .val (.int (Int32.ofNat (at' + S.length))), .val (.int nb), .val (.int ln), .val (.int c1), .val (.int (Int32.ofNat (at' + S.length))), .unset, .unset] [(.int (Int32.ofNat (at' + S.length))), (.ref b)])) _
    refine XT.lloadN X.here hx rfl (hb hby at_338) rfl ?_
    show Steps p.tables e below (T.setTop (mkF m 339 #[.val (.int p1), .val (.long q2), .second, .val (.int p3), .val (.ref b), .val (.int (Int32.ofNat at')), .val (.int (Int32.ofNat (at' + S.length))), .val (.int nb), .val (.int ln), .val (.int c1), .val (.int (Int32.ofNat (at' + S.length))), .unset, .unset] [(.long q2), (.int (Int32.ofNat (at' + S.length))), (.ref b)])) _
    refine XS.bipush X.here hx rfl (hb hby at_339) ?_
    show Steps p.tables e below (T.setTop (mkF m 341 #[.val (.int p1), .val (.long q2), .second, .val (.int p3), .val (.ref b), .val (.int (Int32.ofNat at')), .val (.int (Int32.ofNat (at' + S.length))), .val (.int nb), .val (.int ln), .val (.int c1), .val (.int (Int32.ofNat (at' + S.length))), .unset, .unset] [(.int (40 : Int32)), (.long q2), (.int (Int32.ofNat (at' + S.length))), (.ref b)])) _
    refine XT.lushr X.here hx rfl (hb hby at_341) rfl ?_
    show Steps p.tables e below (T.setTop (mkF m 342 #[.val (.int p1), .val (.long q2), .second, .val (.int p3), .val (.ref b), .val (.int (Int32.ofNat at')), .val (.int (Int32.ofNat (at' + S.length))), .val (.int nb), .val (.int ln), .val (.int c1), .val (.int (Int32.ofNat (at' + S.length))), .unset, .unset] [(.long (XT.ushrL q2 (40 : Int32))), (.int (Int32.ofNat (at' + S.length))), (.ref b)])) _
    refine XT.l2i X.here hx rfl (hb hby at_342) rfl ?_
    show Steps p.tables e below (T.setTop (mkF m 343 #[.val (.int p1), .val (.long q2), .second, .val (.int p3), .val (.ref b), .val (.int (Int32.ofNat at')), .val (.int (Int32.ofNat (at' + S.length))), .val (.int nb), .val (.int ln), .val (.int c1), .val (.int (Int32.ofNat (at' + S.length))), .unset, .unset] [(.int ((XT.ushrL q2 (40 : Int32)).toInt32)), (.int (Int32.ofNat (at' + S.length))), (.ref b)])) _
    refine XT.i2b X.here hx rfl (hb hby at_343) rfl ?_
    exact uK
  obtain ⟨T1, h1, locs1, X1, e1, B1, N1, zz1, st1⟩ := own_stB X hx hZ eT B (by omega) (y := (((XT.ushrL q2 (40 : Int32)).toInt32).toInt8.toInt32)) (own_nb _) N g_b (g := (mkF m 344 #[.val (.int p1), .val (.long q2), .second, .val (.int p3), .val (.ref b), .val (.int (Int32.ofNat at')), .val (.int (Int32.ofNat (at' + S.length))), .val (.int nb), .val (.int ln), .val (.int c1), .val (.int (Int32.ofNat (at' + S.length))), .unset, .unset] [(.int (((XT.ushrL q2 (40 : Int32)).toInt32).toInt8.toInt32)), (.int (Int32.ofNat (at' + S.length))), (.ref b)])) rfl rfl (hb hby at_344)
  have Z1 : n0 ≤ h1.size := Nat.le_trans Z0 zz1
  refine own_st st1 ?_
  show OwnGo p e below s _ _ _ T1 (mkF m 345 #[.val (.int p1), .val (.long q2), .second, .val (.int p3), .val (.ref b), .val (.int (Int32.ofNat at')), .val (.int (Int32.ofNat (at' + S.length))), .val (.int nb), .val (.int ln), .val (.int c1), .val (.int (Int32.ofNat (at' + S.length))), .unset, .unset] [])
  refine own_st (T' := T1) (g' := (mkF m 358 #[.val (.int p1), .val (.long q2), .second, .val (.int p3), .val (.ref b), .val (.int (Int32.ofNat at')), .val (.int (Int32.ofNat (at' + S.length))), .val (.int nb), .val (.int ln), .val (.int c1), .val (.int (Int32.ofNat (at' + S.length))), .unset, .unset] [(.int ((Int32.ofNat at') + ((p3 &&& (2147483647 : Int32)) % ((17 : Int32) - (Int32.ofNat at')))))])) (fun uT uK => ?_) ?_
  · show Steps p.tables e below (T1.setTop (mkF m 345 #[.val (.int p1), .val (.long q2), .second, .val (.int p3), .val (.ref b), .val (.int (Int32.ofNat at')), .val (.int (Int32.ofNat (at' + S.length))), .val (.int nb), .val (.int ln), .val (.int c1), .val (.int (Int32.ofNat (at' + S.length))), .unset, .unset] [])) _
    refine XS.iload X1.here hx rfl (hb hby at_345) rfl ?_
    show Steps p.tables e below (T1.setTop (mkF m 347 #[.val (.int p1), .val (.long q2), .second, .val (.int p3), .val (.ref b), .val (.int (Int32.ofNat at')), .val (.int (Int32.ofNat (at' + S.length))), .val (.int nb), .val (.int ln), .val (.int c1), .val (.int (Int32.ofNat (at' + S.length))), .unset, .unset] [(.int (Int32.ofNat at'))])) _
    refine XS.iloadN X1.here hx rfl (hb hby at_347) rfl ?_
    show Steps p.tables e below (T1.setTop (mkF m 348 #[.val (.int p1), .val (.long q2), .second, .val (.int p3), .val (.ref b), .val (.int (Int32.ofNat at')), .val (.int (Int32.ofNat (at' + S.length))), .val (.int nb), .val (.int ln), .val (.int c1), .val (.int (Int32.ofNat (at' + S.length))), .unset, .unset] [(.int p3), (.int (Int32.ofNat at'))])) _
    refine X1.ldcInt hx hown (mvT hZ (hw _ (List.mem_of_getElem? (i := 1) rfl))) (g := (mkF m 348 #[.val (.int p1), .val (.long q2), .second, .val (.int p3), .val (.ref b), .val (.int (Int32.ofNat at')), .val (.int (Int32.ofNat (at' + S.length))), .val (.int nb), .val (.int ln), .val (.int c1), .val (.int (Int32.ofNat (at' + S.length))), .unset, .unset] [(.int p3), (.int (Int32.ofNat at'))])) rfl (hb hby at_348) _ ?_
    show Steps p.tables e below (T1.setTop (mkF m 350 #[.val (.int p1), .val (.long q2), .second, .val (.int p3), .val (.ref b), .val (.int (Int32.ofNat at')), .val (.int (Int32.ofNat (at' + S.length))), .val (.int nb), .val (.int ln), .val (.int c1), .val (.int (Int32.ofNat (at' + S.length))), .unset, .unset] [(.int (2147483647 : Int32)), (.int p3), (.int (Int32.ofNat at'))])) _
    refine XS.iand X1.here hx rfl (hb hby at_350) rfl ?_
    show Steps p.tables e below (T1.setTop (mkF m 351 #[.val (.int p1), .val (.long q2), .second, .val (.int p3), .val (.ref b), .val (.int (Int32.ofNat at')), .val (.int (Int32.ofNat (at' + S.length))), .val (.int nb), .val (.int ln), .val (.int c1), .val (.int (Int32.ofNat (at' + S.length))), .unset, .unset] [(.int (p3 &&& (2147483647 : Int32))), (.int (Int32.ofNat at'))])) _
    refine XS.bipush X1.here hx rfl (hb hby at_351) ?_
    show Steps p.tables e below (T1.setTop (mkF m 353 #[.val (.int p1), .val (.long q2), .second, .val (.int p3), .val (.ref b), .val (.int (Int32.ofNat at')), .val (.int (Int32.ofNat (at' + S.length))), .val (.int nb), .val (.int ln), .val (.int c1), .val (.int (Int32.ofNat (at' + S.length))), .unset, .unset] [(.int (17 : Int32)), (.int (p3 &&& (2147483647 : Int32))), (.int (Int32.ofNat at'))])) _
    refine XS.iload X1.here hx rfl (hb hby at_353) rfl ?_
    show Steps p.tables e below (T1.setTop (mkF m 355 #[.val (.int p1), .val (.long q2), .second, .val (.int p3), .val (.ref b), .val (.int (Int32.ofNat at')), .val (.int (Int32.ofNat (at' + S.length))), .val (.int nb), .val (.int ln), .val (.int c1), .val (.int (Int32.ofNat (at' + S.length))), .unset, .unset] [(.int (Int32.ofNat at')), (.int (17 : Int32)), (.int (p3 &&& (2147483647 : Int32))), (.int (Int32.ofNat at'))])) _
    refine XS.isub X1.here hx rfl (hb hby at_355) rfl ?_
    show Steps p.tables e below (T1.setTop (mkF m 356 #[.val (.int p1), .val (.long q2), .second, .val (.int p3), .val (.ref b), .val (.int (Int32.ofNat at')), .val (.int (Int32.ofNat (at' + S.length))), .val (.int nb), .val (.int ln), .val (.int c1), .val (.int (Int32.ofNat (at' + S.length))), .unset, .unset] [(.int ((17 : Int32) - (Int32.ofNat at'))), (.int (p3 &&& (2147483647 : Int32))), (.int (Int32.ofNat at'))])) _
    refine iremM X1 hx rfl (hb hby at_356) rfl (own_17n hat) ?_
    show Steps p.tables e below (T1.setTop (mkF m 357 #[.val (.int p1), .val (.long q2), .second, .val (.int p3), .val (.ref b), .val (.int (Int32.ofNat at')), .val (.int (Int32.ofNat (at' + S.length))), .val (.int nb), .val (.int ln), .val (.int c1), .val (.int (Int32.ofNat (at' + S.length))), .unset, .unset] [(.int ((p3 &&& (2147483647 : Int32)) % ((17 : Int32) - (Int32.ofNat at')))), (.int (Int32.ofNat at'))])) _
    refine XS.iadd X1.here hx rfl (hb hby at_357) rfl ?_
    exact uK
  obtain ⟨d, hd, hde⟩ := own_e p3 hat
  rw [hde]
  show OwnGo p e below s _ _ _ T1 (mkF m 358 #[.val (.int p1), .val (.long q2), .second, .val (.int p3), .val (.ref b), .val (.int (Int32.ofNat at')), .val (.int (Int32.ofNat (at' + S.length))), .val (.int nb), .val (.int ln), .val (.int c1), .val (.int (Int32.ofNat (at' + S.length))), .unset, .unset] [(.int (Int32.ofNat (at' + d)))])
  refine own_st (T' := T1) (g' := (mkF m 364 #[.val (.int p1), .val (.long q2), .second, .val (.int p3), .val (.ref b), .val (.int (Int32.ofNat at')), .val (.int (Int32.ofNat (at' + S.length))), .val (.int nb), .val (.int ln), .val (.int c1), .val (.int (Int32.ofNat (at' + S.length))), .val (.int (Int32.ofNat (at' + d))), .unset] [(.int (Int32.ofNat (at' + S.length))), (.int (Int32.ofNat (at' + d)))])) (fun uT uK => ?_) ?_
  · show Steps p.tables e below (T1.setTop (mkF m 358 #[.val (.int p1), .val (.long q2), .second, .val (.int p3), .val (.ref b), .val (.int (Int32.ofNat at')), .val (.int (Int32.ofNat (at' + S.length))), .val (.int nb), .val (.int ln), .val (.int c1), .val (.int (Int32.ofNat (at' + S.length))), .unset, .unset] [(.int (Int32.ofNat (at' + d)))])) _
    refine XS.istore X1.here hx rfl (hb hby at_358) rfl (l' := #[.val (.int p1), .val (.long q2), .second, .val (.int p3), .val (.ref b), .val (.int (Int32.ofNat at')), .val (.int (Int32.ofNat (at' + S.length))), .val (.int nb), .val (.int ln), .val (.int c1), .val (.int (Int32.ofNat (at' + S.length))), .val (.int (Int32.ofNat (at' + d))), .unset]) rfl ?_
    show Steps p.tables e below (T1.setTop (mkF m 360 #[.val (.int p1), .val (.long q2), .second, .val (.int p3), .val (.ref b), .val (.int (Int32.ofNat at')), .val (.int (Int32.ofNat (at' + S.length))), .val (.int nb), .val (.int ln), .val (.int c1), .val (.int (Int32.ofNat (at' + S.length))), .val (.int (Int32.ofNat (at' + d))), .unset] [])) _
    refine XS.iload X1.here hx rfl (hb hby at_360) rfl ?_
    show Steps p.tables e below (T1.setTop (mkF m 362 #[.val (.int p1), .val (.long q2), .second, .val (.int p3), .val (.ref b), .val (.int (Int32.ofNat at')), .val (.int (Int32.ofNat (at' + S.length))), .val (.int nb), .val (.int ln), .val (.int c1), .val (.int (Int32.ofNat (at' + S.length))), .val (.int (Int32.ofNat (at' + d))), .unset] [(.int (Int32.ofNat (at' + d)))])) _
    refine XS.iload X1.here hx rfl (hb hby at_362) rfl ?_
    exact uK
  by_cases hc364 : (Int32.ofNat (at' + d)) < (Int32.ofNat (at' + S.length))
  · refine own_st (T' := T1) (g' := (mkF m 381 #[.val (.int p1), .val (.long q2), .second, .val (.int p3), .val (.ref b), .val (.int (Int32.ofNat at')), .val (.int (Int32.ofNat (at' + S.length))), .val (.int nb), .val (.int ln), .val (.int c1), .val (.int (Int32.ofNat (at' + S.length))), .val (.int (Int32.ofNat (at' + d))), .val (.int (-1 : Int32))] [(.int (Int32.ofNat (at' + d))), (.int (Int32.ofNat at')), (.ref b)])) (fun uT uK => ?_) ?_
    · show Steps p.tables e below (T1.setTop (mkF m 364 #[.val (.int p1), .val (.long q2), .second, .val (.int p3), .val (.ref b), .val (.int (Int32.ofNat at')), .val (.int (Int32.ofNat (at' + S.length))), .val (.int nb), .val (.int ln), .val (.int c1), .val (.int (Int32.ofNat (at' + S.length))), .val (.int (Int32.ofNat (at' + d))), .unset] [(.int (Int32.ofNat (at' + S.length))), (.int (Int32.ofNat (at' + d)))])) _
      refine XS.icmpYes X1.here hx rfl (pc0 := 364) (pc' := 372) rfl (hb hby at_364) rfl (XT.ii_lt_t hc364) (by decide) (by decide) ?_
      show Steps p.tables e below (T1.setTop (mkF m 372 #[.val (.int p1), .val (.long q2), .second, .val (.int p3), .val (.ref b), .val (.int (Int32.ofNat at')), .val (.int (Int32.ofNat (at' + S.length))), .val (.int nb), .val (.int ln), .val (.int c1), .val (.int (Int32.ofNat (at' + S.length))), .val (.int (Int32.ofNat (at' + d))), .unset] [])) _
      refine XS.iconst X1.here hx rfl (hb hby at_372) ?_
      show Steps p.tables e below (T1.setTop (mkF m 373 #[.val (.int p1), .val (.long q2), .second, .val (.int p3), .val (.ref b), .val (.int (Int32.ofNat at')), .val (.int (Int32.ofNat (at' + S.length))), .val (.int nb), .val (.int ln), .val (.int c1), .val (.int (Int32.ofNat (at' + S.length))), .val (.int (Int32.ofNat (at' + d))), .unset] [(.int (-1 : Int32))])) _
      refine XS.istore X1.here hx rfl (hb hby at_373) rfl (l' := #[.val (.int p1), .val (.long q2), .second, .val (.int p3), .val (.ref b), .val (.int (Int32.ofNat at')), .val (.int (Int32.ofNat (at' + S.length))), .val (.int nb), .val (.int ln), .val (.int c1), .val (.int (Int32.ofNat (at' + S.length))), .val (.int (Int32.ofNat (at' + d))), .val (.int (-1 : Int32))]) rfl ?_
      show Steps p.tables e below (T1.setTop (mkF m 375 #[.val (.int p1), .val (.long q2), .second, .val (.int p3), .val (.ref b), .val (.int (Int32.ofNat at')), .val (.int (Int32.ofNat (at' + S.length))), .val (.int nb), .val (.int ln), .val (.int c1), .val (.int (Int32.ofNat (at' + S.length))), .val (.int (Int32.ofNat (at' + d))), .val (.int (-1 : Int32))] [])) _
      refine XS.aload X1.here hx rfl (hb hby at_375) rfl rfl ?_
      show Steps p.tables e below (T1.setTop (mkF m 377 #[.val (.int p1), .val (.long q2), .second, .val (.int p3), .val (.ref b), .val (.int (Int32.ofNat at')), .val (.int (Int32.ofNat (at' + S.length))), .val (.int nb), .val (.int ln), .val (.int c1), .val (.int (Int32.ofNat (at' + S.length))), .val (.int (Int32.ofNat (at' + d))), .val (.int (-1 : Int32))] [(.ref b)])) _
      refine XS.iload X1.here hx rfl (hb hby at_377) rfl ?_
      show Steps p.tables e below (T1.setTop (mkF m 379 #[.val (.int p1), .val (.long q2), .second, .val (.int p3), .val (.ref b), .val (.int (Int32.ofNat at')), .val (.int (Int32.ofNat (at' + S.length))), .val (.int nb), .val (.int ln), .val (.int c1), .val (.int (Int32.ofNat (at' + S.length))), .val (.int (Int32.ofNat (at' + d))), .val (.int (-1 : Int32))] [(.int (Int32.ofNat at')), (.ref b)])) _
      refine XS.iload X1.here hx rfl (hb hby at_379) rfl ?_
      exact uK
    obtain ⟨r, hr1, hr2, V⟩ := B1
    obtain ⟨_, _, ⟨T2, L2, k2, n2⟩, -, X2, ⟨Lc2, hQ2, l2, y2, z2⟩, st2⟩ := Jvm.LawKit.callS X1 hx (y := (⟨"com/example/tallybox/tallybox/RequestHead", "end", "([BII)I"⟩ : MethodName)) hown (mvT hZ (hw _ (List.mem_of_getElem? (i := 2) rfl))) (mvT hZ (hw _ (List.mem_of_getElem? (i := 3) rfl))) (mvT hZ (hw _ (List.mem_of_getElem? (i := 4) rfl))) (mvT hZ (hw _ (List.mem_of_getElem? (i := 5) rfl))) (by decide) (backOf (W := 0) (rm1 l Z a0 hw [] b (pre ++ (S ++ [(((XT.ushrL q2 (40 : Int32)).toInt32).toInt8.toInt32)]) ++ r) kc at' d (-1 : Int32) h1 n0 Z1 V (by rw [List.length_append, List.length_append, hr1]; exact hr2) hd (own_final hr1 hf (by rw [own_ltN (by omega) (by omega)] at hc364; rw [if_neg (by omega)]))) hZ (hw _ (List.mem_of_getElem? (i := 5) rfl)) (hw _ (List.mem_of_getElem? (i := 4) rfl)) (by decide) (by decide)) (g := (mkF m 381 #[.val (.int p1), .val (.long q2), .second, .val (.int p3), .val (.ref b), .val (.int (Int32.ofNat at')), .val (.int (Int32.ofNat (at' + S.length))), .val (.int nb), .val (.int ln), .val (.int c1), .val (.int (Int32.ofNat (at' + S.length))), .val (.int (Int32.ofNat (at' + d))), .val (.int (-1 : Int32))] [(.int (Int32.ofNat (at' + d))), (.int (Int32.ofNat at')), (.ref b)])) rfl (by rw [hml]; rfl) (argsL := [(.ref b), (.int (Int32.ofNat at')), (.int (Int32.ofNat (at' + d)))]) (rest := []) (lenOf own_pd0 rfl) rfl (by show 2 * 0 + _ ≤ _; exact Nat.le_of_eq rfl) (hb hby at_381) (fun _ _ => ⟨rfl, e1, (by decide : 1 + 0 ≤ _), (by decide : 16 + 0 ≤ _)⟩)
    dsimp only [Pt.U, Pt.locs, Pt.cells, Pt.slots] at X2 l2 y2 z2 st2 hQ2
    subst l2 y2 z2
    obtain ⟨rfl, Nq2, e2⟩ := hQ2
    have N2 := Fr.app N1 Nq2
    refine own_st st2 ?_
    show OwnGo p e below s _ _ _ T2 (mkF m 384 #[.val (.int p1), .val (.long q2), .second, .val (.int p3), .val (.ref b), .val (.int (Int32.ofNat at')), .val (.int (Int32.ofNat (at' + S.length))), .val (.int nb), .val (.int ln), .val (.int c1), .val (.int (Int32.ofNat (at' + S.length))), .val (.int (Int32.ofNat (at' + d))), .val (.int (-1 : Int32))] [(.int (-1 : Int32))])
    refine own_st (T' := T2) (g' := (mkF m 394 #[.val (.int p1), .val (.long q2), .second, .val (.int p3), .val (.ref b), .val (.int (Int32.ofNat at')), .val (.int (Int32.ofNat (at' + S.length))), .val (.int nb), .val (.int ln), .val (.int c1), .val (.int (Int32.ofNat (at' + S.length))), .val (.int (Int32.ofNat (at' + d))), .val (.int (-1 : Int32))] [(.int (1 : Int32))])) (fun uT uK => ?_) ?_
    · show Steps p.tables e below (T2.setTop (mkF m 384 #[.val (.int p1), .val (.long q2), .second, .val (.int p3), .val (.ref b), .val (.int (Int32.ofNat at')), .val (.int (Int32.ofNat (at' + S.length))), .val (.int nb), .val (.int ln), .val (.int c1), .val (.int (Int32.ofNat (at' + S.length))), .val (.int (Int32.ofNat (at' + d))), .val (.int (-1 : Int32))] [(.int (-1 : Int32))])) _
      refine XS.iload X2.here hx rfl (hb hby at_384) rfl ?_
      show Steps p.tables e below (T2.setTop (mkF m 386 #[.val (.int p1), .val (.long q2), .second, .val (.int p3), .val (.ref b), .val (.int (Int32.ofNat at')), .val (.int (Int32.ofNat (at' + S.length))), .val (.int nb), .val (.int ln), .val (.int c1), .val (.int (Int32.ofNat (at' + S.length))), .val (.int (Int32.ofNat (at' + d))), .val (.int (-1 : Int32))] [(.int (-1 : Int32)), (.int (-1 : Int32))])) _
      refine XS.icmpNo X2.here hx rfl (hb hby at_386) rfl (XT.ii_ne_f rfl) ?_
      show Steps p.tables e below (T2.setTop (mkF m 389 #[.val (.int p1), .val (.long q2), .second, .val (.int p3), .val (.ref b), .val (.int (Int32.ofNat at')), .val (.int (Int32.ofNat (at' + S.length))), .val (.int nb), .val (.int ln), .val (.int c1), .val (.int (Int32.ofNat (at' + S.length))), .val (.int (Int32.ofNat (at' + d))), .val (.int (-1 : Int32))] [])) _
      refine XS.iconst X2.here hx rfl (hb hby at_389) ?_
      show Steps p.tables e below (T2.setTop (mkF m 390 #[.val (.int p1), .val (.long q2), .second, .val (.int p3), .val (.ref b), .val (.int (Int32.ofNat at')), .val (.int (Int32.ofNat (at' + S.length))), .val (.int nb), .val (.int ln), .val (.int c1), .val (.int (Int32.ofNat (at' + S.length))), .val (.int (Int32.ofNat (at' + d))), .val (.int (-1 : Int32))] [(.int (1 : Int32))])) _
      refine XS.goto X2.here hx rfl (pc0 := 390) (pc' := 394) rfl (hb hby at_390) (by decide) (by decide) ?_
      exact uK
    exact own_ret (v := some (.int (1 : Int32))) X2 hlk (fun h => by rw [hret] at h; cases h) (fun fs hr => retOut X2 hx hret rfl (Or.inl ⟨rfl, by simp, _, rfl⟩) (hb hby at_394) hr) ⟨rfl, N2⟩ (by decide) (by decide)
  · refine own_st (T' := T1) (g' := (mkF m 381 #[.val (.int p1), .val (.long q2), .second, .val (.int p3), .val (.ref b), .val (.int (Int32.ofNat at')), .val (.int (Int32.ofNat (at' + S.length))), .val (.int nb), .val (.int ln), .val (.int c1), .val (.int (Int32.ofNat (at' + S.length))), .val (.int (Int32.ofNat (at' + d))), .val (.int (Int32.ofNat (at' + S.length)))] [(.int (Int32.ofNat (at' + d))), (.int (Int32.ofNat at')), (.ref b)])) (fun uT uK => ?_) ?_
    · show Steps p.tables e below (T1.setTop (mkF m 364 #[.val (.int p1), .val (.long q2), .second, .val (.int p3), .val (.ref b), .val (.int (Int32.ofNat at')), .val (.int (Int32.ofNat (at' + S.length))), .val (.int nb), .val (.int ln), .val (.int c1), .val (.int (Int32.ofNat (at' + S.length))), .val (.int (Int32.ofNat (at' + d))), .unset] [(.int (Int32.ofNat (at' + S.length))), (.int (Int32.ofNat (at' + d)))])) _
      refine XS.icmpNo X1.here hx rfl (hb hby at_364) rfl (XT.ii_lt_f hc364) ?_
      show Steps p.tables e below (T1.setTop (mkF m 367 #[.val (.int p1), .val (.long q2), .second, .val (.int p3), .val (.ref b), .val (.int (Int32.ofNat at')), .val (.int (Int32.ofNat (at' + S.length))), .val (.int nb), .val (.int ln), .val (.int c1), .val (.int (Int32.ofNat (at' + S.length))), .val (.int (Int32.ofNat (at' + d))), .unset] [])) _
      refine XS.iload X1.here hx rfl (hb hby at_367) rfl ?_
      show Steps p.tables e below (T1.setTop (mkF m 369 #[.val (.int p1), .val (.long q2), .second, .val (.int p3), .val (.ref b), .val (.int (Int32.ofNat at')), .val (.int (Int32.ofNat (at' + S.length))), .val (.int nb), .val (.int ln), .val (.int c1), .val (.int (Int32.ofNat (at' + S.length))), .val (.int (Int32.ofNat (at' + d))), .unset] [(.int (Int32.ofNat (at' + S.length)))])) _
      refine XS.goto X1.here hx rfl (pc0 := 369) (pc' := 373) rfl (hb hby at_369) (by decide) (by decide) ?_
      show Steps p.tables e below (T1.setTop (mkF m 373 #[.val (.int p1), .val (.long q2), .second, .val (.int p3), .val (.ref b), .val (.int (Int32.ofNat at')), .val (.int (Int32.ofNat (at' + S.length))), .val (.int nb), .val (.int ln), .val (.int c1), .val (.int (Int32.ofNat (at' + S.length))), .val (.int (Int32.ofNat (at' + d))), .unset] [(.int (Int32.ofNat (at' + S.length)))])) _
      refine XS.istore X1.here hx rfl (hb hby at_373) rfl (l' := #[.val (.int p1), .val (.long q2), .second, .val (.int p3), .val (.ref b), .val (.int (Int32.ofNat at')), .val (.int (Int32.ofNat (at' + S.length))), .val (.int nb), .val (.int ln), .val (.int c1), .val (.int (Int32.ofNat (at' + S.length))), .val (.int (Int32.ofNat (at' + d))), .val (.int (Int32.ofNat (at' + S.length)))]) rfl ?_
      show Steps p.tables e below (T1.setTop (mkF m 375 #[.val (.int p1), .val (.long q2), .second, .val (.int p3), .val (.ref b), .val (.int (Int32.ofNat at')), .val (.int (Int32.ofNat (at' + S.length))), .val (.int nb), .val (.int ln), .val (.int c1), .val (.int (Int32.ofNat (at' + S.length))), .val (.int (Int32.ofNat (at' + d))), .val (.int (Int32.ofNat (at' + S.length)))] [])) _
      refine XS.aload X1.here hx rfl (hb hby at_375) rfl rfl ?_
      show Steps p.tables e below (T1.setTop (mkF m 377 #[.val (.int p1), .val (.long q2), .second, .val (.int p3), .val (.ref b), .val (.int (Int32.ofNat at')), .val (.int (Int32.ofNat (at' + S.length))), .val (.int nb), .val (.int ln), .val (.int c1), .val (.int (Int32.ofNat (at' + S.length))), .val (.int (Int32.ofNat (at' + d))), .val (.int (Int32.ofNat (at' + S.length)))] [(.ref b)])) _
      refine XS.iload X1.here hx rfl (hb hby at_377) rfl ?_
      show Steps p.tables e below (T1.setTop (mkF m 379 #[.val (.int p1), .val (.long q2), .second, .val (.int p3), .val (.ref b), .val (.int (Int32.ofNat at')), .val (.int (Int32.ofNat (at' + S.length))), .val (.int nb), .val (.int ln), .val (.int c1), .val (.int (Int32.ofNat (at' + S.length))), .val (.int (Int32.ofNat (at' + d))), .val (.int (Int32.ofNat (at' + S.length)))] [(.int (Int32.ofNat at')), (.ref b)])) _
      refine XS.iload X1.here hx rfl (hb hby at_379) rfl ?_
      exact uK
    obtain ⟨r, hr1, hr2, V⟩ := B1
    obtain ⟨_, _, ⟨T3, L3, k3, n3⟩, -, X3, ⟨Lc3, hQ3, l3, y3, z3⟩, st3⟩ := Jvm.LawKit.callS X1 hx (y := (⟨"com/example/tallybox/tallybox/RequestHead", "end", "([BII)I"⟩ : MethodName)) hown (mvT hZ (hw _ (List.mem_of_getElem? (i := 2) rfl))) (mvT hZ (hw _ (List.mem_of_getElem? (i := 3) rfl))) (mvT hZ (hw _ (List.mem_of_getElem? (i := 4) rfl))) (mvT hZ (hw _ (List.mem_of_getElem? (i := 5) rfl))) (by decide) (backOf (W := 0) (rm1 l Z a0 hw [] b (pre ++ (S ++ [(((XT.ushrL q2 (40 : Int32)).toInt32).toInt8.toInt32)]) ++ r) kc at' d (Int32.ofNat (at' + S.length)) h1 n0 Z1 V (by rw [List.length_append, List.length_append, hr1]; exact hr2) hd (own_final hr1 hf (by rw [own_ltN (by omega) (by omega)] at hc364; rw [if_pos (by omega)]))) hZ (hw _ (List.mem_of_getElem? (i := 5) rfl)) (hw _ (List.mem_of_getElem? (i := 4) rfl)) (by decide) (by decide)) (g := (mkF m 381 #[.val (.int p1), .val (.long q2), .second, .val (.int p3), .val (.ref b), .val (.int (Int32.ofNat at')), .val (.int (Int32.ofNat (at' + S.length))), .val (.int nb), .val (.int ln), .val (.int c1), .val (.int (Int32.ofNat (at' + S.length))), .val (.int (Int32.ofNat (at' + d))), .val (.int (Int32.ofNat (at' + S.length)))] [(.int (Int32.ofNat (at' + d))), (.int (Int32.ofNat at')), (.ref b)])) rfl (by rw [hml]; rfl) (argsL := [(.ref b), (.int (Int32.ofNat at')), (.int (Int32.ofNat (at' + d)))]) (rest := []) (lenOf own_pd0 rfl) rfl (by show 2 * 0 + _ ≤ _; exact Nat.le_of_eq rfl) (hb hby at_381) (fun _ _ => ⟨rfl, e1, (by decide : 1 + 0 ≤ _), (by decide : 16 + 0 ≤ _)⟩)
    dsimp only [Pt.U, Pt.locs, Pt.cells, Pt.slots] at X3 l3 y3 z3 st3 hQ3
    subst l3 y3 z3
    obtain ⟨rfl, Nq3, e3⟩ := hQ3
    have N3 := Fr.app N1 Nq3
    refine own_st st3 ?_
    show OwnGo p e below s _ _ _ T3 (mkF m 384 #[.val (.int p1), .val (.long q2), .second, .val (.int p3), .val (.ref b), .val (.int (Int32.ofNat at')), .val (.int (Int32.ofNat (at' + S.length))), .val (.int nb), .val (.int ln), .val (.int c1), .val (.int (Int32.ofNat (at' + S.length))), .val (.int (Int32.ofNat (at' + d))), .val (.int (Int32.ofNat (at' + S.length)))] [(.int (Int32.ofNat (at' + S.length)))])
    refine own_st (T' := T3) (g' := (mkF m 394 #[.val (.int p1), .val (.long q2), .second, .val (.int p3), .val (.ref b), .val (.int (Int32.ofNat at')), .val (.int (Int32.ofNat (at' + S.length))), .val (.int nb), .val (.int ln), .val (.int c1), .val (.int (Int32.ofNat (at' + S.length))), .val (.int (Int32.ofNat (at' + d))), .val (.int (Int32.ofNat (at' + S.length)))] [(.int (1 : Int32))])) (fun uT uK => ?_) ?_
    · show Steps p.tables e below (T3.setTop (mkF m 384 #[.val (.int p1), .val (.long q2), .second, .val (.int p3), .val (.ref b), .val (.int (Int32.ofNat at')), .val (.int (Int32.ofNat (at' + S.length))), .val (.int nb), .val (.int ln), .val (.int c1), .val (.int (Int32.ofNat (at' + S.length))), .val (.int (Int32.ofNat (at' + d))), .val (.int (Int32.ofNat (at' + S.length)))] [(.int (Int32.ofNat (at' + S.length)))])) _
      refine XS.iload X3.here hx rfl (hb hby at_384) rfl ?_
      show Steps p.tables e below (T3.setTop (mkF m 386 #[.val (.int p1), .val (.long q2), .second, .val (.int p3), .val (.ref b), .val (.int (Int32.ofNat at')), .val (.int (Int32.ofNat (at' + S.length))), .val (.int nb), .val (.int ln), .val (.int c1), .val (.int (Int32.ofNat (at' + S.length))), .val (.int (Int32.ofNat (at' + d))), .val (.int (Int32.ofNat (at' + S.length)))] [(.int (Int32.ofNat (at' + S.length))), (.int (Int32.ofNat (at' + S.length)))])) _
      refine XS.icmpNo X3.here hx rfl (hb hby at_386) rfl (XT.ii_ne_f rfl) ?_
      show Steps p.tables e below (T3.setTop (mkF m 389 #[.val (.int p1), .val (.long q2), .second, .val (.int p3), .val (.ref b), .val (.int (Int32.ofNat at')), .val (.int (Int32.ofNat (at' + S.length))), .val (.int nb), .val (.int ln), .val (.int c1), .val (.int (Int32.ofNat (at' + S.length))), .val (.int (Int32.ofNat (at' + d))), .val (.int (Int32.ofNat (at' + S.length)))] [])) _
      refine XS.iconst X3.here hx rfl (hb hby at_389) ?_
      show Steps p.tables e below (T3.setTop (mkF m 390 #[.val (.int p1), .val (.long q2), .second, .val (.int p3), .val (.ref b), .val (.int (Int32.ofNat at')), .val (.int (Int32.ofNat (at' + S.length))), .val (.int nb), .val (.int ln), .val (.int c1), .val (.int (Int32.ofNat (at' + S.length))), .val (.int (Int32.ofNat (at' + d))), .val (.int (Int32.ofNat (at' + S.length)))] [(.int (1 : Int32))])) _
      refine XS.goto X3.here hx rfl (pc0 := 390) (pc' := 394) rfl (hb hby at_390) (by decide) (by decide) ?_
      exact uK
    exact own_ret (v := some (.int (1 : Int32))) X3 hlk (fun h => by rw [hret] at h; cases h) (fun fs hr => retOut X3 hx hret rfl (Or.inl ⟨rfl, by simp, _, rfl⟩) (hb hby at_394) hr) ⟨rfl, N3⟩ (by decide) (by decide)
set_option maxRecDepth 65536 in
set_option maxHeartbeats 40000000 in
theorem own_t320 {p : Program} {l : Launch} {e : Env} {s : State} {m : MethodId} {args : Array Value} {below : List Frame} {meth : Method} {c : Code} {T : State} {locs : List Loc} {Z : State} {a0 : Array Value} {h : Heap} {n0 : Nat} (p1 p3 : Int32) (q2 : Int64) (b : Addr) (kc : ClassId) (at' : Nat) (pre S : List Int32) (h0 : Heap) (nb ln c1 : Int32) (s10 : Slot) (q : Nat)
    (K : Ctx0 p s m meth c Z a0) (X : Stand p l e room_1 s m args below meth c T locs 1 16) (eT : T.heap = h) (N : Fr n0 locs) (Z0 : n0 ≤ h.size) (g_b : n0 ≤ b) (hat : at' ≤ 2) (B : own_buf Z h b kc at' pre S) (hs10 : own_one s10) (hp : own_pass S q true) (hq : q < 2) (hbd : at' + S.length ≤ 14) :
    OwnGo p e below s room_1.cells room_1.slots (Q0 Z p1 q2 p3 h0 n0) T (mkF m 320 #[.val (.int p1), .val (.long q2), .second, .val (.int p3), .val (.ref b), .val (.int (Int32.ofNat at')), .val (.int (Int32.ofNat (at' + S.length))), .val (.int nb), .val (.int ln), .val (.int c1), s10, .unset, .unset] []) := by
  obtain ⟨hx, hZ, hw, hby, hml, hown, hret, hlk, hnm⟩ := id K
  refine own_st (T' := T) (g' := (mkF m 329 #[.val (.int p1), .val (.long q2), .second, .val (.int p3), .val (.ref b), .val (.int (Int32.ofNat at')), .val (.int ((Int32.ofNat (at' + S.length)) + (1 : Int32))), .val (.int nb), .val (.int ln), .val (.int c1), s10, .unset, .unset] [(.int (10 : Int32)), (.int (Int32.ofNat (at' + S.length))), (.ref b)])) (fun uT uK => ?_) ?_
  · show Steps p.tables e below (T.setTop (mkF m 320 #[.val (.int p1), .val (.long q2), .second, .val (.int p3), .val (.ref b), .val (.int (Int32.ofNat at')), .val (.int (Int32.ofNat (at' + S.length))), .val (.int nb), .val (.int ln), .val (.int c1), s10, .unset, .unset] [])) _
    refine XS.aload X.here hx rfl (hb hby at_320) rfl rfl ?_
    show Steps p.tables e below (T.setTop (mkF m 322 #[.val (.int p1), .val (.long q2), .second, .val (.int p3), .val (.ref b), .val (.int (Int32.ofNat at')), .val (.int (Int32.ofNat (at' + S.length))), .val (.int nb), .val (.int ln), .val (.int c1), s10, .unset, .unset] [(.ref b)])) _
    refine XS.iload X.here hx rfl (hb hby at_322) rfl ?_
    show Steps p.tables e below (T.setTop (mkF m 324 #[.val (.int p1), .val (.long q2), .second, .val (.int p3), .val (.ref b), .val (.int (Int32.ofNat at')), .val (.int (Int32.ofNat (at' + S.length))), .val (.int nb), .val (.int ln), .val (.int c1), s10, .unset, .unset] [(.int (Int32.ofNat (at' + S.length))), (.ref b)])) _
    refine XS.iinc X.here hx rfl (hb hby at_324) rfl (l' := #[.val (.int p1), .val (.long q2), .second, .val (.int p3), .val (.ref b), .val (.int (Int32.ofNat at')), .val (.int ((Int32.ofNat (at' + S.length)) + (1 : Int32))), .val (.int nb), .val (.int ln), .val (.int c1), s10, .unset, .unset]) rfl ?_
    show Steps p.tables e below (T.setTop (mkF m 327 #[.val (.int p1), .val (.long q2), .second, .val (.int p3), .val (.ref b), .val (.int (Int32.ofNat at')), .val (.int ((Int32.ofNat (at' + S.length)) + (1 : Int32))), .val (.int nb), .val (.int ln), .val (.int c1), s10, .unset, .unset] [(.int (Int32.ofNat (at' + S.length))), (.ref b)])) _
    refine XS.bipush X.here hx rfl (hb hby at_327) ?_
    exact uK
  obtain ⟨T1, h1, locs1, X1, e1, B1, N1, zz1, st1⟩ := own_stB X hx hZ eT B (by omega) (y := 10) (by decide) N g_b (g := (mkF m 329 #[.val (.int p1), .val (.long q2), .second, .val (.int p3), .val (.ref b), .val (.int (Int32.ofNat at')), .val (.int ((Int32.ofNat (at' + S.length)) + (1 : Int32))), .val (.int nb), .val (.int ln), .val (.int c1), s10, .unset, .unset] [(.int (10 : Int32)), (.int (Int32.ofNat (at' + S.length))), (.ref b)])) rfl rfl (hb hby at_329)
  have Z1 : n0 ≤ h1.size := Nat.le_trans Z0 zz1
  refine own_st st1 ?_
  show OwnGo p e below s _ _ _ T1 (mkF m 330 #[.val (.int p1), .val (.long q2), .second, .val (.int p3), .val (.ref b), .val (.int (Int32.ofNat at')), .val (.int ((Int32.ofNat (at' + S.length)) + (1 : Int32))), .val (.int nb), .val (.int ln), .val (.int c1), s10, .unset, .unset] [])
  rw [own_next at' S 10]
  show OwnGo p e below s _ _ _ T1 (mkF m 330 #[.val (.int p1), .val (.long q2), .second, .val (.int p3), .val (.ref b), .val (.int (Int32.ofNat at')), .val (.int (Int32.ofNat (at' + (S ++ [10]).length))), .val (.int nb), .val (.int ln), .val (.int c1), s10, .unset, .unset] [])
  exact own_t330 p1 p3 q2 b kc at' pre (S ++ [10]) h0 nb ln c1 (s10) K X1 e1 N1 Z1 g_b hat B1 hs10 (own_pass_end hp hq) (by simp only [own_len1]; omega)
set_option maxRecDepth 65536 in
set_option maxHeartbeats 40000000 in
theorem own_t301 {p : Program} {l : Launch} {e : Env} {s : State} {m : MethodId} {args : Array Value} {below : List Frame} {meth : Method} {c : Code} {T : State} {locs : List Loc} {Z : State} {a0 : Array Value} {h : Heap} {n0 : Nat} (p1 p3 : Int32) (q2 : Int64) (b : Addr) (kc : ClassId) (at' : Nat) (pre S : List Int32) (h0 : Heap) (nb ln c1 : Int32) (s10 : Slot)
    (K : Ctx0 p s m meth c Z a0) (X : Stand p l e room_1 s m args below meth c T locs 1 16) (eT : T.heap = h) (N : Fr n0 locs) (Z0 : n0 ≤ h.size) (g_b : n0 ≤ b) (hat : at' ≤ 2) (B : own_buf Z h b kc at' pre S) (hs10 : own_one s10) (hp : own_pass S 0 true) (hbd : at' + S.length ≤ 13) :
    OwnGo p e below s room_1.cells room_1.slots (Q0 Z p1 q2 p3 h0 n0) T (mkF m 301 #[.val (.int p1), .val (.long q2), .second, .val (.int p3), .val (.ref b), .val (.int (Int32.ofNat at')), .val (.int (Int32.ofNat (at' + S.length))), .val (.int nb), .val (.int ln), .val (.int c1), s10, .unset, .unset] []) := by
  obtain ⟨hx, hZ, hw, hby, hml, hown, hret, hlk, hnm⟩ := id K
  refine own_st (T' := T) (g' := (mkF m 307 #[.val (.int p1), .val (.long q2), .second, .val (.int p3), .val (.ref b), .val (.int (Int32.ofNat at')), .val (.int (Int32.ofNat (at' + S.length))), .val (.int nb), .val (.int ln), .val (.int c1), s10, .unset, .unset] [(.int ((XT.ushr p1 (10 : Int32)) &&& (1 : Int32)))])) (fun uT uK => ?_) ?_
  · show Steps p.tables e below (T.setTop (mkF m 301 #[.val (.int p1), .val (.long q2), .second, .val (.int p3), .val (.ref b), .val (.int (Int32.ofNat at')), .val (.int (Int32.ofNat (at' + S.length))), .val (.int nb), .val (.int ln), .val (.int c1), s10, .unset, .unset] [])) _
    refine XS.iloadN X.here hx rfl (hb hby at_301) rfl ?_
    show Steps p.tables e below (T.setTop (mkF m 302 #[.val (.int p1), .val (.long q2), .second, .val (.int p3), .val (.ref b), .val (.int (Int32.ofNat at')), .val (.int (Int32.ofNat (at' + S.length))), .val (.int nb), .val (.int ln), .val (.int c1), s10, .unset, .unset] [(.int p1)])) _
    refine XS.bipush X.here hx rfl (hb hby at_302) ?_
    show Steps p.tables e below (T.setTop (mkF m 304 #[.val (.int p1), .val (.long q2), .second, .val (.int p3), .val (.ref b), .val (.int (Int32.ofNat at')), .val (.int (Int32.ofNat (at' + S.length))), .val (.int nb), .val (.int ln), .val (.int c1), s10, .unset, .unset] [(.int (10 : Int32)), (.int p1)])) _
    refine XT.iushr X.here hx rfl (hb hby at_304) rfl ?_
    show Steps p.tables e below (T.setTop (mkF m 305 #[.val (.int p1), .val (.long q2), .second, .val (.int p3), .val (.ref b), .val (.int (Int32.ofNat at')), .val (.int (Int32.ofNat (at' + S.length))), .val (.int nb), .val (.int ln), .val (.int c1), s10, .unset, .unset] [(.int (XT.ushr p1 (10 : Int32)))])) _
    refine XS.iconst X.here hx rfl (hb hby at_305) ?_
    show Steps p.tables e below (T.setTop (mkF m 306 #[.val (.int p1), .val (.long q2), .second, .val (.int p3), .val (.ref b), .val (.int (Int32.ofNat at')), .val (.int (Int32.ofNat (at' + S.length))), .val (.int nb), .val (.int ln), .val (.int c1), s10, .unset, .unset] [(.int (1 : Int32)), (.int (XT.ushr p1 (10 : Int32)))])) _
    refine XS.iand X.here hx rfl (hb hby at_306) rfl ?_
    exact uK
  by_cases hc307 : ((XT.ushr p1 (10 : Int32)) &&& (1 : Int32)) = (0 : Int32)
  · refine own_st (T' := T) (g' := (mkF m 320 #[.val (.int p1), .val (.long q2), .second, .val (.int p3), .val (.ref b), .val (.int (Int32.ofNat at')), .val (.int (Int32.ofNat (at' + S.length))), .val (.int nb), .val (.int ln), .val (.int c1), s10, .unset, .unset] [])) (fun uT uK => ?_) ?_
    · show Steps p.tables e below (T.setTop (mkF m 307 #[.val (.int p1), .val (.long q2), .second, .val (.int p3), .val (.ref b), .val (.int (Int32.ofNat at')), .val (.int (Int32.ofNat (at' + S.length))), .val (.int nb), .val (.int ln), .val (.int c1), s10, .unset, .unset] [(.int ((XT.ushr p1 (10 : Int32)) &&& (1 : Int32)))])) _
      refine XS.ifYes X.here hx rfl (pc0 := 307) (pc' := 320) rfl (hb hby at_307) rfl (XT.i0_eq_t hc307) (by decide) (by decide) ?_
      exact uK
    exact own_t320 p1 p3 q2 b kc at' pre S h0 nb ln c1 (s10) 0 K X eT N Z0 g_b hat B hs10 hp (by decide) (by omega)
  · refine own_st (T' := T) (g' := (mkF m 319 #[.val (.int p1), .val (.long q2), .second, .val (.int p3), .val (.ref b), .val (.int (Int32.ofNat at')), .val (.int ((Int32.ofNat (at' + S.length)) + (1 : Int32))), .val (.int nb), .val (.int ln), .val (.int c1), s10, .unset, .unset] [(.int (13 : Int32)), (.int (Int32.ofNat (at' + S.length))), (.ref b)])) (fun uT uK => ?_) ?_
    · show Steps p.tables e below (T.setTop (mkF m 307 #[.val (.int p1), .val (.long q2), .second, .val (.int p3), .val (.ref b), .val (.int (Int32.ofNat at')), .val (.int (Int32.ofNat (at' + S.length))), .val (.int nb), .val (.int ln), .val (.int c1), s10, .unset, .unset] [(.int ((XT.ushr p1 (10 : Int32)) &&& (1 : Int32)))])) _
      refine XS.ifNo X.here hx rfl (hb hby at_307) rfl (XT.i0_eq_f hc307) ?_
      show Steps p.tables e below (T.setTop (mkF m 310 #[.val (.int p1), .val (.long q2), .second, .val (.int p3), .val (.ref b), .val (.int (Int32.ofNat at')), .val (.int (Int32.ofNat (at' + S.length))), .val (.int nb), .val (.int ln), .val (.int c1), s10, .unset, .unset] [])) _
      refine XS.aload X.here hx rfl (hb hby at_310) rfl rfl ?_
      show Steps p.tables e below (T.setTop (mkF m 312 #[.val (.int p1), .val (.long q2), .second, .val (.int p3), .val (.ref b), .val (.int (Int32.ofNat at')), .val (.int (Int32.ofNat (at' + S.length))), .val (.int nb), .val (.int ln), .val (.int c1), s10, .unset, .unset] [(.ref b)])) _
      refine XS.iload X.here hx rfl (hb hby at_312) rfl ?_
      show Steps p.tables e below (T.setTop (mkF m 314 #[.val (.int p1), .val (.long q2), .second, .val (.int p3), .val (.ref b), .val (.int (Int32.ofNat at')), .val (.int (Int32.ofNat (at' + S.length))), .val (.int nb), .val (.int ln), .val (.int c1), s10, .unset, .unset] [(.int (Int32.ofNat (at' + S.length))), (.ref b)])) _
      refine XS.iinc X.here hx rfl (hb hby at_314) rfl (l' := #[.val (.int p1), .val (.long q2), .second, .val (.int p3), .val (.ref b), .val (.int (Int32.ofNat at')), .val (.int ((Int32.ofNat (at' + S.length)) + (1 : Int32))), .val (.int nb), .val (.int ln), .val (.int c1), s10, .unset, .unset]) rfl ?_
      show Steps p.tables e below (T.setTop (mkF m 317 #[.val (.int p1), .val (.long q2), .second, .val (.int p3), .val (.ref b), .val (.int (Int32.ofNat at')), .val (.int ((Int32.ofNat (at' + S.length)) + (1 : Int32))), .val (.int nb), .val (.int ln), .val (.int c1), s10, .unset, .unset] [(.int (Int32.ofNat (at' + S.length))), (.ref b)])) _
      refine XS.bipush X.here hx rfl (hb hby at_317) ?_
      exact uK
    obtain ⟨T1, h1, locs1, X1, e1, B1, N1, zz1, st1⟩ := own_stB X hx hZ eT B (by omega) (y := 13) (by decide) N g_b (g := (mkF m 319 #[.val (.int p1), .val (.long q2), .second, .val (.int p3), .val (.ref b), .val (.int (Int32.ofNat at')), .val (.int ((Int32.ofNat (at' + S.length)) + (1 : Int32))), .val (.int nb), .val (.int ln), .val (.int c1), s10, .unset, .unset] [(.int (13 : Int32)), (.int (Int32.ofNat (at' + S.length))), (.ref b)])) rfl rfl (hb hby at_319)
    have Z1 : n0 ≤ h1.size := Nat.le_trans Z0 zz1
    refine own_st st1 ?_
    show OwnGo p e below s _ _ _ T1 (mkF m 320 #[.val (.int p1), .val (.long q2), .second, .val (.int p3), .val (.ref b), .val (.int (Int32.ofNat at')), .val (.int ((Int32.ofNat (at' + S.length)) + (1 : Int32))), .val (.int nb), .val (.int ln), .val (.int c1), s10, .unset, .unset] [])
    rw [own_next at' S 13]
    show OwnGo p e below s _ _ _ T1 (mkF m 320 #[.val (.int p1), .val (.long q2), .second, .val (.int p3), .val (.ref b), .val (.int (Int32.ofNat at')), .val (.int (Int32.ofNat (at' + (S ++ [13]).length))), .val (.int nb), .val (.int ln), .val (.int c1), s10, .unset, .unset] [])
    exact own_t320 p1 p3 q2 b kc at' pre (S ++ [13]) h0 nb ln c1 (s10) 1 K X1 e1 N1 Z1 g_b hat B1 hs10 (own_pass_cr0 hp) (by decide) (by simp only [own_len1]; omega)
set_option maxRecDepth 65536 in
set_option maxHeartbeats 40000000 in
theorem own_t291 {p : Program} {l : Launch} {e : Env} {s : State} {m : MethodId} {args : Array Value} {below : List Frame} {meth : Method} {c : Code} {T : State} {locs : List Loc} {Z : State} {a0 : Array Value} {h : Heap} {n0 : Nat} (p1 p3 : Int32) (q2 : Int64) (b : Addr) (kc : ClassId) (at' : Nat) (pre S : List Int32) (h0 : Heap) (nb ln c1 : Int32) (s10 : Slot)
    (K : Ctx0 p s m meth c Z a0) (X : Stand p l e room_1 s m args below meth c T locs 1 16) (eT : T.heap = h) (N : Fr n0 locs) (Z0 : n0 ≤ h.size) (g_b : n0 ≤ b) (hat : at' ≤ 2) (B : own_buf Z h b kc at' pre S) (hs10 : own_one s10) (hp : own_pass S 2 true) (hbd : at' + S.length ≤ 12) :
    OwnGo p e below s room_1.cells room_1.slots (Q0 Z p1 q2 p3 h0 n0) T (mkF m 291 #[.val (.int p1), .val (.long q2), .second, .val (.int p3), .val (.ref b), .val (.int (Int32.ofNat at')), .val (.int (Int32.ofNat (at' + S.length))), .val (.int nb), .val (.int ln), .val (.int c1), s10, .unset, .unset] []) := by
  obtain ⟨hx, hZ, hw, hby, hml, hown, hret, hlk, hnm⟩ := id K
  refine own_st (T' := T) (g' := (mkF m 300 #[.val (.int p1), .val (.long q2), .second, .val (.int p3), .val (.ref b), .val (.int (Int32.ofNat at')), .val (.int ((Int32.ofNat (at' + S.length)) + (1 : Int32))), .val (.int nb), .val (.int ln), .val (.int c1), s10, .unset, .unset] [(.int (10 : Int32)), (.int (Int32.ofNat (at' + S.length))), (.ref b)])) (fun uT uK => ?_) ?_
  · show Steps p.tables e below (T.setTop (mkF m 291 #[.val (.int p1), .val (.long q2), .second, .val (.int p3), .val (.ref b), .val (.int (Int32.ofNat at')), .val (.int (Int32.ofNat (at' + S.length))), .val (.int nb), .val (.int ln), .val (.int c1), s10, .unset, .unset] [])) _
    refine XS.aload X.here hx rfl (hb hby at_291) rfl rfl ?_
    show Steps p.tables e below (T.setTop (mkF m 293 #[.val (.int p1), .val (.long q2), .second, .val (.int p3), .val (.ref b), .val (.int (Int32.ofNat at')), .val (.int (Int32.ofNat (at' + S.length))), .val (.int nb), .val (.int ln), .val (.int c1), s10, .unset, .unset] [(.ref b)])) _
    refine XS.iload X.here hx rfl (hb hby at_293) rfl ?_
    show Steps p.tables e below (T.setTop (mkF m 295 #[.val (.int p1), .val (.long q2), .second, .val (.int p3), .val (.ref b), .val (.int (Int32.ofNat at')), .val (.int (Int32.ofNat (at' + S.length))), .val (.int nb), .val (.int ln), .val (.int c1), s10, .unset, .unset] [(.int (Int32.ofNat (at' + S.length))), (.ref b)])) _
    refine XS.iinc X.here hx rfl (hb hby at_295) rfl (l' := #[.val (.int p1), .val (.long q2), .second, .val (.int p3), .val (.ref b), .val (.int (Int32.ofNat at')), .val (.int ((Int32.ofNat (at' + S.length)) + (1 : Int32))), .val (.int nb), .val (.int ln), .val (.int c1), s10, .unset, .unset]) rfl ?_
    show Steps p.tables e below (T.setTop (mkF m 298 #[.val (.int p1), .val (.long q2), .second, .val (.int p3), .val (.ref b), .val (.int (Int32.ofNat at')), .val (.int ((Int32.ofNat (at' + S.length)) + (1 : Int32))), .val (.int nb), .val (.int ln), .val (.int c1), s10, .unset, .unset] [(.int (Int32.ofNat (at' + S.length))), (.ref b)])) _
    refine XS.bipush X.here hx rfl (hb hby at_298) ?_
    exact uK
  obtain ⟨T1, h1, locs1, X1, e1, B1, N1, zz1, st1⟩ := own_stB X hx hZ eT B (by omega) (y := 10) (by decide) N g_b (g := (mkF m 300 #[.val (.int p1), .val (.long q2), .second, .val (.int p3), .val (.ref b), .val (.int (Int32.ofNat at')), .val (.int ((Int32.ofNat (at' + S.length)) + (1 : Int32))), .val (.int nb), .val (.int ln), .val (.int c1), s10, .unset, .unset] [(.int (10 : Int32)), (.int (Int32.ofNat (at' + S.length))), (.ref b)])) rfl rfl (hb hby at_300)
  have Z1 : n0 ≤ h1.size := Nat.le_trans Z0 zz1
  refine own_st st1 ?_
  show OwnGo p e below s _ _ _ T1 (mkF m 301 #[.val (.int p1), .val (.long q2), .second, .val (.int p3), .val (.ref b), .val (.int (Int32.ofNat at')), .val (.int ((Int32.ofNat (at' + S.length)) + (1 : Int32))), .val (.int nb), .val (.int ln), .val (.int c1), s10, .unset, .unset] [])
  rw [own_next at' S 10]
  show OwnGo p e below s _ _ _ T1 (mkF m 301 #[.val (.int p1), .val (.long q2), .second, .val (.int p3), .val (.ref b), .val (.int (Int32.ofNat at')), .val (.int (Int32.ofNat (at' + (S ++ [10]).length))), .val (.int nb), .val (.int ln), .val (.int c1), s10, .unset, .unset] [])
  exact own_t301 p1 p3 q2 b kc at' pre (S ++ [10]) h0 nb ln c1 (s10) K X1 e1 N1 Z1 g_b hat B1 hs10 (own_pass_text hp) (by simp only [own_len1]; omega)
set_option maxRecDepth 65536 in
set_option maxHeartbeats 40000000 in
theorem own_t262 {p : Program} {l : Launch} {e : Env} {s : State} {m : MethodId} {args : Array Value} {below : List Frame} {meth : Method} {c : Code} {T : State} {locs : List Loc} {Z : State} {a0 : Array Value} {h : Heap} {n0 : Nat} (p1 p3 : Int32) (q2 : Int64) (b : Addr) (kc : ClassId) (at' : Nat) (pre S : List Int32) (h0 : Heap) (nb ln c1 c3 : Int32)
    (K : Ctx0 p s m meth c Z a0) (X : Stand p l e room_1 s m args below meth c T locs 1 16) (eT : T.heap = h) (N : Fr n0 locs) (Z0 : n0 ≤ h.size) (g_b : n0 ≤ b) (hat : at' ≤ 2) (B : own_buf Z h b kc at' pre S) (hn3 : nar .byte c3 = c3) (h10 : ¬ c3 = 10) (h13 : ¬ c3 = 13) (hp : own_pass S 0 true) (hbd : at' + S.length ≤ 10) :
    OwnGo p e below s room_1.cells room_1.slots (Q0 Z p1 q2 p3 h0 n0) T (mkF m 262 #[.val (.int p1), .val (.long q2), .second, .val (.int p3), .val (.ref b), .val (.int (Int32.ofNat at')), .val (.int (Int32.ofNat (at' + S.length))), .val (.int nb), .val (.int ln), .val (.int c1), .val (.int c3), .unset, .unset] []) := by
  obtain ⟨hx, hZ, hw, hby, hml, hown, hret, hlk, hnm⟩ := id K
  refine own_st (T' := T) (g' := (mkF m 271 #[.val (.int p1), .val (.long q2), .second, .val (.int p3), .val (.ref b), .val (.int (Int32.ofNat at')), .val (.int ((Int32.ofNat (at' + S.length)) + (1 : Int32))), .val (.int nb), .val (.int ln), .val (.int c1), .val (.int c3), .unset, .unset] [(.int c3), (.int (Int32.ofNat (at' + S.length))), (.ref b)])) (fun uT uK => ?_) ?_
  · show Steps p.tables e below (T.setTop (mkF m 262 #[.val (.int p1), .val (.long q2), .second, .val (.int p3), .val (.ref b), .val (.int (Int32.ofNat at')), .val (.int (Int32.ofNat (at' + S.length))), .val (.int nb), .val (.int ln), .val (.int c1), .val (.int c3), .unset, .unset] [])) _
    refine XS.aload X.here hx rfl (hb hby at_262) rfl rfl ?_
    show Steps p.tables e below (T.setTop (mkF m 264 #[.val (.int p1), .val (.long q2), .second, .val (.int p3), .val (.ref b), .val (.int (Int32.ofNat at')), .val (.int (Int32.ofNat (at' + S.length))), .val (.int nb), .val (.int ln), .val (.int c1), .val (.int c3), .unset, .unset] [(.ref b)])) _
    refine XS.iload X.here hx rfl (hb hby at_264) rfl ?_
    show Steps p.tables e below (T.setTop (mkF m 266 #[.val (.int p1), .val (.long q2), .second, .val (.int p3), .val (.ref b), .val (.int (Int32.ofNat at')), .val (.int (Int32.ofNat (at' + S.length))), .val (.int nb), .val (.int ln), .val (.int c1), .val (.int c3), .unset, .unset] [(.int (Int32.ofNat (at' + S.length))), (.ref b)])) _
    refine XS.iinc X.here hx rfl (hb hby at_266) rfl (l' := #[.val (.int p1), .val (.long q2), .second, .val (.int p3), .val (.ref b), .val (.int (Int32.ofNat at')), .val (.int ((Int32.ofNat (at' + S.length)) + (1 : Int32))), .val (.int nb), .val (.int ln), .val (.int c1), .val (.int c3), .unset, .unset]) rfl ?_
    show Steps p.tables e below (T.setTop (mkF m 269 #[.val (.int p1), .val (.long q2), .second, .val (.int p3), .val (.ref b), .val (.int (Int32.ofNat at')), .val (.int ((Int32.ofNat (at' + S.length)) + (1 : Int32))), .val (.int nb), .val (.int ln), .val (.int c1), .val (.int c3), .unset, .unset] [(.int (Int32.ofNat (at' + S.length))), (.ref b)])) _
    refine XS.iload X.here hx rfl (hb hby at_269) rfl ?_
    exact uK
  obtain ⟨T1, h1, locs1, X1, e1, B1, N1, zz1, st1⟩ := own_stB X hx hZ eT B (by omega) (y := c3) hn3 N g_b (g := (mkF m 271 #[.val (.int p1), .val (.long q2), .second, .val (.int p3), .val (.ref b), .val (.int (Int32.ofNat at')), .val (.int ((Int32.ofNat (at' + S.length)) + (1 : Int32))), .val (.int nb), .val (.int ln), .val (.int c1), .val (.int c3), .unset, .unset] [(.int c3), (.int (Int32.ofNat (at' + S.length))), (.ref b)])) rfl rfl (hb hby at_271)
  have Z1 : n0 ≤ h1.size := Nat.le_trans Z0 zz1
  refine own_st st1 ?_
  show OwnGo p e below s _ _ _ T1 (mkF m 272 #[.val (.int p1), .val (.long q2), .second, .val (.int p3), .val (.ref b), .val (.int (Int32.ofNat at')), .val (.int ((Int32.ofNat (at' + S.length)) + (1 : Int32))), .val (.int nb), .val (.int ln), .val (.int c1), .val (.int c3), .unset, .unset] [])
  rw [own_next at' S c3]
  show OwnGo p e below s _ _ _ T1 (mkF m 272 #[.val (.int p1), .val (.long q2), .second, .val (.int p3), .val (.ref b), .val (.int (Int32.ofNat at')), .val (.int (Int32.ofNat (at' + (S ++ [c3]).length))), .val (.int nb), .val (.int ln), .val (.int c1), .val (.int c3), .unset, .unset] [])
  refine own_st (T' := T1) (g' := (mkF m 278 #[.val (.int p1), .val (.long q2), .second, .val (.int p3), .val (.ref b), .val (.int (Int32.ofNat at')), .val (.int (Int32.ofNat (at' + (S ++ [c3]).length))), .val (.int nb), .val (.int ln), .val (.int c1), .val (.int c3), .unset, .unset] [(.int ((XT.ushr p1 (9 : Int32)) &&& (1 : Int32)))])) (fun uT uK => ?_) ?_
  · show Steps p.tables e below (T1.setTop (mkF m 272 #[.val (.int p1), .val (.long q2), .second, .val (.int p3), .val (.ref b), .val (.int (Int32.ofNat at')), .val (.int (Int32.ofNat (at' + (S ++ [c3]).length))), .val (.int nb), .val (.int ln), .val (.int c1), .val (.int c3), .unset, .unset] [])) _
    refine XS.iloadN X1.here hx rfl (hb hby at_272) rfl ?_
    show Steps p.tables e below (T1.setTop (mkF m 273 #[.val (.int p1), .val (.long q2), .second, .val (.int p3), .val (.ref b), .val (.int (Int32.ofNat at')), .val (.int (Int32.ofNat (at' + (S ++ [c3]).length))), .val (.int nb), .val (.int ln), .val (.int c1), .val (.int c3), .unset, .unset] [(.int p1)])) _
    refine XS.bipush X1.here hx rfl (hb hby at_273) ?_
    show Steps p.tables e below (T1.setTop (mkF m 275 #[.val (.int p1), .val (.long q2), .second, .val (.int p3), .val (.ref b), .val (.int (Int32.ofNat at')), .val (.int (Int32.ofNat (at' + (S ++ [c3]).length))), .val (.int nb), .val (.int ln), .val (.int c1), .val (.int c3), .unset, .unset] [(.int (9 : Int32)), (.int p1)])) _
    refine XT.iushr X1.here hx rfl (hb hby at_275) rfl ?_
    show Steps p.tables e below (T1.setTop (mkF m 276 #[.val (.int p1), .val (.long q2), .second, .val (.int p3), .val (.ref b), .val (.int (Int32.ofNat at')), .val (.int (Int32.ofNat (at' + (S ++ [c3]).length))), .val (.int nb), .val (.int ln), .val (.int c1), .val (.int c3), .unset, .unset] [(.int (XT.ushr p1 (9 : Int32)))])) _
    refine XS.iconst X1.here hx rfl (hb hby at_276) ?_
    show Steps p.tables e below (T1.setTop (mkF m 277 #[.val (.int p1), .val (.long q2), .second, .val (.int p3), .val (.ref b), .val (.int (Int32.ofNat at')), .val (.int (Int32.ofNat (at' + (S ++ [c3]).length))), .val (.int nb), .val (.int ln), .val (.int c1), .val (.int c3), .unset, .unset] [(.int (1 : Int32)), (.int (XT.ushr p1 (9 : Int32)))])) _
    refine XS.iand X1.here hx rfl (hb hby at_277) rfl ?_
    exact uK
  by_cases hc278 : ((XT.ushr p1 (9 : Int32)) &&& (1 : Int32)) = (0 : Int32)
  · refine own_st (T' := T1) (g' := (mkF m 291 #[.val (.int p1), .val (.long q2), .second, .val (.int p3), .val (.ref b), .val (.int (Int32.ofNat at')), .val (.int (Int32.ofNat (at' + (S ++ [c3]).length))), .val (.int nb), .val (.int ln), .val (.int c1), .val (.int c3), .unset, .unset] [])) (fun uT uK => ?_) ?_
    · show Steps p.tables e below (T1.setTop (mkF m 278 #[.val (.int p1), .val (.long q2), .second, .val (.int p3), .val (.ref b), .val (.int (Int32.ofNat at')), .val (.int (Int32.ofNat (at' + (S ++ [c3]).length))), .val (.int nb), .val (.int ln), .val (.int c1), .val (.int c3), .unset, .unset] [(.int ((XT.ushr p1 (9 : Int32)) &&& (1 : Int32)))])) _
      refine XS.ifYes X1.here hx rfl (pc0 := 278) (pc' := 291) rfl (hb hby at_278) rfl (XT.i0_eq_t hc278) (by decide) (by decide) ?_
      exact uK
    exact own_t291 p1 p3 q2 b kc at' pre (S ++ [c3]) h0 nb ln c1 (.val (.int c3)) K X1 e1 N1 Z1 g_b hat B1 (Or.inr ⟨_, rfl⟩) (own_pass_ch2 hp h10 (by rw [own_q, if_pos rfl, if_neg h13])) (by simp only [own_len1]; omega)
  · refine own_st (T' := T1) (g' := (mkF m 290 #[.val (.int p1), .val (.long q2), .second, .val (.int p3), .val (.ref b), .val (.int (Int32.ofNat at')), .val (.int ((Int32.ofNat (at' + (S ++ [c3]).length)) + (1 : Int32))), .val (.int nb), .val (.int ln), .val (.int c1), .val (.int c3), .unset, .unset] [(.int (13 : Int32)), (.int (Int32.ofNat (at' + (S ++ [c3]).length))), (.ref b)])) (fun uT uK => ?_) ?_
    · show Steps p.tables e below (T1.setTop (mkF m 278 #[.val (.int p1), .val (.long q2), .second, .val (.int p3), .val (.ref b), .val (.int (Int32.ofNat at')), .val (.int (Int32.ofNat (at' + (S ++ [c3]).length))), .val (.int nb), .val (.int ln), .val (.int c1), .val (.int c3), .unset, .unset] [(.int ((XT.ushr p1 (9 : Int32)) &&& (1 : Int32)))])) _
      refine XS.ifNo X1.here hx rfl (hb hby at_278) rfl (XT.i0_eq_f hc278) ?_
      show Steps p.tables e below (T1.setTop (mkF m 281 #[.val (.int p1), .val (.long q2), .second, .val (.int p3), .val (.ref b), .val (.int (Int32.ofNat at')), .val (.int (Int32.ofNat (at' + (S ++ [c3]).length))), .val (.int nb), .val (.int ln), .val (.int c1), .val (.int c3), .unset, .unset] [])) _
      refine XS.aload X1.here hx rfl (hb hby at_281) rfl rfl ?_
      show Steps p.tables e below (T1.setTop (mkF m 283 #[.val (.int p1), .val (.long q2), .second, .val (.int p3), .val (.ref b), .val (.int (Int32.ofNat at')), .val (.int (Int32.ofNat (at' + (S ++ [c3]).length))), .val (.int nb), .val (.int ln), .val (.int c1), .val (.int c3), .unset, .unset] [(.ref b)])) _
      refine XS.iload X1.here hx rfl (hb hby at_283) rfl ?_
      show Steps p.tables e below (T1.setTop (mkF m 285 #[.val (.int p1), .val (.long q2), .second, .val (.int p3), .val (.ref b), .val (.int (Int32.ofNat at')), .val (.int (Int32.ofNat (at' + (S ++ [c3]).length))), .val (.int nb), .val (.int ln), .val (.int c1), .val (.int c3), .unset, .unset] [(.int (Int32.ofNat (at' + (S ++ [c3]).length))), (.ref b)])) _
      refine XS.iinc X1.here hx rfl (hb hby at_285) rfl (l' := #[.val (.int p1), .val (.long q2), .second, .val (.int p3), .val (.ref b), .val (.int (Int32.ofNat at')), .val (.int ((Int32.ofNat (at' + (S ++ [c3]).length)) + (1 : Int32))), .val (.int nb), .val (.int ln), .val (.int c1), .val (.int c3), .unset, .unset]) rfl ?_
      show Steps p.tables e below (T1.setTop (mkF m 288 #[.val (.int p1), .val (.long q2), .second, .val (.int p3), .val (.ref b), .val (.int (Int32.ofNat at')), .val (.int ((Int32.ofNat (at' + (S ++ [c3]).length)) + (1 : Int32))), .val (.int nb), .val (.int ln), .val (.int c1), .val (.int c3), .unset, .unset] [(.int (Int32.ofNat (at' + (S ++ [c3]).length))), (.ref b)])) _
      refine XS.bipush X1.here hx rfl (hb hby at_288) ?_
      exact uK
    obtain ⟨T2, h2, locs2, X2, e2, B2, N2, zz2, st2⟩ := own_stB X1 hx hZ e1 B1 (by simp only [own_len1]; omega) (y := 13) (by decide) N1 g_b (g := (mkF m 290 #[.val (.int p1), .val (.long q2), .second, .val (.int p3), .val (.ref b), .val (.int (Int32.ofNat at')), .val (.int ((Int32.ofNat (at' + (S ++ [c3]).length)) + (1 : Int32))), .val (.int nb), .val (.int ln), .val (.int c1), .val (.int c3), .unset, .unset] [(.int (13 : Int32)), (.int (Int32.ofNat (at' + (S ++ [c3]).length))), (.ref b)])) rfl rfl (hb hby at_290)
    have Z2 : n0 ≤ h2.size := Nat.le_trans Z1 zz2
    refine own_st st2 ?_
    show OwnGo p e below s _ _ _ T2 (mkF m 291 #[.val (.int p1), .val (.long q2), .second, .val (.int p3), .val (.ref b), .val (.int (Int32.ofNat at')), .val (.int ((Int32.ofNat (at' + (S ++ [c3]).length)) + (1 : Int32))), .val (.int nb), .val (.int ln), .val (.int c1), .val (.int c3), .unset, .unset] [])
    rw [own_next at' (S ++ [c3]) 13]
    show OwnGo p e below s _ _ _ T2 (mkF m 291 #[.val (.int p1), .val (.long q2), .second, .val (.int p3), .val (.ref b), .val (.int (Int32.ofNat at')), .val (.int (Int32.ofNat (at' + ((S ++ [c3]) ++ [13]).length))), .val (.int nb), .val (.int ln), .val (.int c1), .val (.int c3), .unset, .unset] [])
    exact own_t291 p1 p3 q2 b kc at' pre ((S ++ [c3]) ++ [13]) h0 nb ln c1 (.val (.int c3)) K X2 e2 N2 Z2 g_b hat B2 (Or.inr ⟨_, rfl⟩) (own_pass_ch2 (own_pass_ch2 hp h10 (by rw [own_q, if_pos rfl, if_neg h13])) (by decide) rfl) (by simp only [own_len1]; omega)
set_option maxRecDepth 65536 in
set_option maxHeartbeats 40000000 in
theorem own_t227 {p : Program} {l : Launch} {e : Env} {s : State} {m : MethodId} {args : Array Value} {below : List Frame} {meth : Method} {c : Code} {T : State} {locs : List Loc} {Z : State} {a0 : Array Value} {h : Heap} {n0 : Nat} (p1 p3 : Int32) (q2 : Int64) (b : Addr) (kc : ClassId) (at' : Nat) (pre S : List Int32) (h0 : Heap) (nb ln c1 : Int32) (s10 : Slot)
    (K : Ctx0 p s m meth c Z a0) (X : Stand p l e room_1 s m args below meth c T locs 1 16) (eT : T.heap = h) (N : Fr n0 locs) (Z0 : n0 ≤ h.size) (g_b : n0 ≤ b) (hat : at' ≤ 2) (B : own_buf Z h b kc at' pre S) (hs10 : own_one s10) (hp : own_pass S 0 true) (hbd : at' + S.length ≤ 10) :
    OwnGo p e below s room_1.cells room_1.slots (Q0 Z p1 q2 p3 h0 n0) T (mkF m 227 #[.val (.int p1), .val (.long q2), .second, .val (.int p3), .val (.ref b), .val (.int (Int32.ofNat at')), .val (.int (Int32.ofNat (at' + S.length))), .val (.int nb), .val (.int ln), .val (.int c1), s10, .unset, .unset] []) := by
  obtain ⟨hx, hZ, hw, hby, hml, hown, hret, hlk, hnm⟩ := id K
  refine own_st (T' := T) (g' := (mkF m 233 #[.val (.int p1), .val (.long q2), .second, .val (.int p3), .val (.ref b), .val (.int (Int32.ofNat at')), .val (.int (Int32.ofNat (at' + S.length))), .val (.int nb), .val (.int ln), .val (.int c1), s10, .unset, .unset] [(.int ((XT.ushr p1 (8 : Int32)) &&& (1 : Int32)))])) (fun uT uK => ?_) ?_
  · show Steps p.tables e below (T.setTop (mkF m 227 #[.val (.int p1), .val (.long q2), .second, .val (.int p3), .val (.ref b), .val (.int (Int32.ofNat at')), .val (.int (Int32.ofNat (at' + S.length))), .val (.int nb), .val (.int ln), .val (.int c1), s10, .unset, .unset] [])) _
    refine XS.iloadN X.here hx rfl (hb hby at_227) rfl ?_
    show Steps p.tables e below (T.setTop (mkF m 228 #[.val (.int p1), .val (.long q2), .second, .val (.int p3), .val (.ref b), .val (.int (Int32.ofNat at')), .val (.int (Int32.ofNat (at' + S.length))), .val (.int nb), .val (.int ln), .val (.int c1), s10, .unset, .unset] [(.int p1)])) _
    refine XS.bipush X.here hx rfl (hb hby at_228) ?_
    show Steps p.tables e below (T.setTop (mkF m 230 #[.val (.int p1), .val (.long q2), .second, .val (.int p3), .val (.ref b), .val (.int (Int32.ofNat at')), .val (.int (Int32.ofNat (at' + S.length))), .val (.int nb), .val (.int ln), .val (.int c1), s10, .unset, .unset] [(.int (8 : Int32)), (.int p1)])) _
    refine XT.iushr X.here hx rfl (hb hby at_230) rfl ?_
    show Steps p.tables e below (T.setTop (mkF m 231 #[.val (.int p1), .val (.long q2), .second, .val (.int p3), .val (.ref b), .val (.int (Int32.ofNat at')), .val (.int (Int32.ofNat (at' + S.length))), .val (.int nb), .val (.int ln), .val (.int c1), s10, .unset, .unset] [(.int (XT.ushr p1 (8 : Int32)))])) _
    refine XS.iconst X.here hx rfl (hb hby at_231) ?_
    show Steps p.tables e below (T.setTop (mkF m 232 #[.val (.int p1), .val (.long q2), .second, .val (.int p3), .val (.ref b), .val (.int (Int32.ofNat at')), .val (.int (Int32.ofNat (at' + S.length))), .val (.int nb), .val (.int ln), .val (.int c1), s10, .unset, .unset] [(.int (1 : Int32)), (.int (XT.ushr p1 (8 : Int32)))])) _
    refine XS.iand X.here hx rfl (hb hby at_232) rfl ?_
    exact uK
  by_cases hc233 : ((XT.ushr p1 (8 : Int32)) &&& (1 : Int32)) = (0 : Int32)
  · refine own_st (T' := T) (g' := (mkF m 301 #[.val (.int p1), .val (.long q2), .second, .val (.int p3), .val (.ref b), .val (.int (Int32.ofNat at')), .val (.int (Int32.ofNat (at' + S.length))), .val (.int nb), .val (.int ln), .val (.int c1), s10, .unset, .unset] [])) (fun uT uK => ?_) ?_
    · show Steps p.tables e below (T.setTop (mkF m 233 #[.val (.int p1), .val (.long q2), .second, .val (.int p3), .val (.ref b), .val (.int (Int32.ofNat at')), .val (.int (Int32.ofNat (at' + S.length))), .val (.int nb), .val (.int ln), .val (.int c1), s10, .unset, .unset] [(.int ((XT.ushr p1 (8 : Int32)) &&& (1 : Int32)))])) _
      refine XS.ifYes X.here hx rfl (pc0 := 233) (pc' := 301) rfl (hb hby at_233) rfl (XT.i0_eq_t hc233) (by decide) (by decide) ?_
      exact uK
    exact own_t301 p1 p3 q2 b kc at' pre S h0 nb ln c1 (s10) K X eT N Z0 g_b hat B hs10 hp (by omega)
  · refine own_st (T' := T) (g' := (mkF m 248 #[.val (.int p1), .val (.long q2), .second, .val (.int p3), .val (.ref b), .val (.int (Int32.ofNat at')), .val (.int (Int32.ofNat (at' + S.length))), .val (.int nb), .val (.int ln), .val (.int c1), .val (.int (((XT.ushrL q2 (32 : Int32)).toInt32).toInt8.toInt32)), .unset, .unset] [(.int (10 : Int32)), (.int (((XT.ushrL q2 (32 : Int32)).toInt32).toInt8.toInt32))])) (fun uT uK => ?_) ?_
    · show Steps p.tables e below (T.setTop (mkF m 233 #[.val (.int p1), .val (.long q2), .second, .val (.int p3), .val (.ref b), .val (.int (Int32.ofNat at')), .val (.int (Int32.ofNat (at' + S.length))), .val (.int nb), .val (.int ln), .val (.int c1), s10, .unset, .unset] [(.int ((XT.ushr p1 (8 : Int32)) &&& (1 : Int32)))])) _
      refine XS.ifNo X.here hx rfl (hb hby at_233) rfl (XT.i0_eq_f hc233) ?_
      show Steps p.tables e below (T.setTop (mkF m 236 #[.val (.int p1), .val (.long q2), .second, .val (.int p3), .val (.ref b), .val (.int (Int32.ofNat at')), .val (.int (Int32.ofNat (at' + S.length))), .val (.int nb), .val (.int ln), .val (.int c1), s10, .unset, .unset] [])) _
      refine XT.lloadN X.here hx rfl (hb hby at_236) rfl ?_
      show Steps p.tables e below (T.setTop (mkF m 237 #[.val (.int p1), .val (.long q2), .second, .val (.int p3), .val (.ref b), .val (.int (Int32.ofNat at')), .val (.int (Int32.ofNat (at' + S.length))), .val (.int nb), .val (.int ln), .val (.int c1), s10, .unset, .unset] [(.long q2)])) _
      refine XS.bipush X.here hx rfl (hb hby at_237) ?_
      show Steps p.tables e below (T.setTop (mkF m 239 #[.val (.int p1), .val (.long q2), .second, .val (.int p3), .val (.ref b), .val (.int (Int32.ofNat at')), .val (.int (Int32.ofNat (at' + S.length))), .val (.int nb), .val (.int ln), .val (.int c1), s10, .unset, .unset] [(.int (32 : Int32)), (.long q2)])) _
      refine XT.lushr X.here hx rfl (hb hby at_239) rfl ?_
      show Steps p.tables e below (T.setTop (mkF m 240 #[.val (.int p1), .val (.long q2), .second, .val (.int p3), .val (.ref b), .val (.int (Int32.ofNat at')), .val (.int (Int32.ofNat (at' + S.length))), .val (.int nb), .val (.int ln), .val (.int c1), s10, .unset, .unset] [(.long (XT.ushrL q2 (32 : Int32)))])) _
      refine XT.l2i X.here hx rfl (hb hby at_240) rfl ?_
      show Steps p.tables e below (T.setTop (mkF m 241 #[.val (.int p1), .val (.long q2), .second, .val (.int p3), .val (.ref b), .val (.int (Int32.ofNat at')), .val (.int (Int32.ofNat (at' + S.length))), .val (.int nb), .val (.int ln), .val (.int c1), s10, .unset, .unset] [(.int ((XT.ushrL q2 (32 : Int32)).toInt32))])) _
      refine XT.i2b X.here hx rfl (hb hby at_241) rfl ?_
      show Steps p.tables e below (T.setTop (mkF m 242 #[.val (.int p1), .val (.long q2), .second, .val (.int p3), .val (.ref b), .val (.int (Int32.ofNat at')), .val (.int (Int32.ofNat (at' + S.length))), .val (.int nb), .val (.int ln), .val (.int c1), s10, .unset, .unset] [(.int (((XT.ushrL q2 (32 : Int32)).toInt32).toInt8.toInt32))])) _
      refine XS.istore X.here hx rfl (hb hby at_242) rfl (l' := #[.val (.int p1), .val (.long q2), .second, .val (.int p3), .val (.ref b), .val (.int (Int32.ofNat at')), .val (.int (Int32.ofNat (at' + S.length))), .val (.int nb), .val (.int ln), .val (.int c1), .val (.int (((XT.ushrL q2 (32 : Int32)).toInt32).toInt8.toInt32)), .unset, .unset]) (own_sto10 hs10) ?_
      show Steps p.tables e below (T.setTop (mkF m 244 #[.val (.int p1), .val (.long q2), .second, .val (.int p3), .val (.ref b), .val (.int (Int32.ofNat at')), .val (.int (Int32.ofNat (at' + S.length))), .val (.int nb), .val (.int ln), .val (.int c1), .val (.int (((XT.ushrL q2 (32 : Int32)).toInt32).toInt8.toInt32)), .unset, .unset] [])) _
      refine XS.iload X.here hx rfl (hb hby at_244) rfl ?_
      show Steps p.tables e below (T.setTop (mkF m 246 #[.val (.int p1), .val (.long q2), .second, .val (.int p3), .val (.ref b), .val (.int (Int32.ofNat at')), .val (.int (Int32.ofNat (at' + S.length))), .val (.int nb), .val (.int ln), .val (.int c1), .val (.int (((XT.ushrL q2 (32 : Int32)).toInt32).toInt8.toInt32)), .unset, .unset] [(.int (((XT.ushrL q2 (32 : Int32)).toInt32).toInt8.toInt32))])) _
      refine XS.bipush X.here hx rfl (hb hby at_246) ?_
      exact uK
    by_cases hc248 : (((XT.ushrL q2 (32 : Int32)).toInt32).toInt8.toInt32) = (10 : Int32)
    · refine own_st (T' := T) (g' := (mkF m 262 #[.val (.int p1), .val (.long q2), .second, .val (.int p3), .val (.ref b), .val (.int (Int32.ofNat at')), .val (.int (Int32.ofNat (at' + S.length))), .val (.int nb), .val (.int ln), .val (.int c1), .val (.int (122 : Int32)), .unset, .unset] [])) (fun uT uK => ?_) ?_
      · show Steps p.tables e below (T.setTop (mkF m 248 #[.val (.int p1), .val (.long q2), .second, .val (.int p3), .val (.ref b), .val (.int (Int32.ofNat at')), .val (.int (Int32.ofNat (at' + S.length))), .val (.int nb), .val (.int ln), .val (.int c1), .val (.int (((XT.ushrL q2 (32 : Int32)).toInt32).toInt8.toInt32)), .unset, .unset] [(.int (10 : Int32)), (.int (((XT.ushrL q2 (32 : Int32)).toInt32).toInt8.toInt32))])) _
        refine XS.icmpYes X.here hx rfl (pc0 := 248) (pc' := 258) rfl (hb hby at_248) rfl (XT.ii_eq_t hc248) (by decide) (by decide) ?_
        show Steps p.tables e below (T.setTop (mkF m 258 #[.val (.int p1), .val (.long q2), .second, .val (.int p3), .val (.ref b), .val (.int (Int32.ofNat at')), .val (.int (Int32.ofNat (at' + S.length))), .val (.int nb), .val (.int ln), .val (.int c1), .val (.int (((XT.ushrL q2 (32 : Int32)).toInt32).toInt8.toInt32)), .unset, .unset] [])) _
        refine XS.bipush X.here hx rfl (hb hby at_258) ?_
        show Steps p.tables e below (T.setTop (mkF m 260 #[.val (.int p1), .val (.long q2), .second, .val (.int p3), .val (.ref b), .val (.int (Int32.ofNat at')), .val (.int (Int32.ofNat (at' + S.length))), .val (.int nb), .val (.int ln), .val (.int c1), .val (.int (((XT.ushrL q2 (32 : Int32)).toInt32).toInt8.toInt32)), .unset, .unset] [(.int (122 : Int32))])) _
        refine XS.istore X.here hx rfl (hb hby at_260) rfl (l' := #[.val (.int p1), .val (.long q2), .second, .val (.int p3), .val (.ref b), .val (.int (Int32.ofNat at')), .val (.int (Int32.ofNat (at' + S.length))), .val (.int nb), .val (.int ln), .val (.int c1), .val (.int (122 : Int32)), .unset, .unset]) rfl ?_
        exact uK
      exact own_t262 p1 p3 q2 b kc at' pre S h0 nb ln c1 (122 : Int32) K X eT N Z0 g_b hat B (by decide) (by decide) (by decide) hp (by omega)
    · refine own_st (T' := T) (g' := (mkF m 255 #[.val (.int p1), .val (.long q2), .second, .val (.int p3), .val (.ref b), .val (.int (Int32.ofNat at')), .val (.int (Int32.ofNat (at' + S.length))), .val (.int nb), .val (.int ln), .val (.int c1), .val (.int (((XT.ushrL q2 (32 : Int32)).toInt32).toInt8.toInt32)), .unset, .unset] [(.int (13 : Int32)), (.int (((XT.ushrL q2 (32 : Int32)).toInt32).toInt8.toInt32))])) (fun uT uK => ?_) ?_
      · show Steps p.tables e below (T.setTop (mkF m 248 #[.val (.int p1), .val (.long q2), .second, .val (.int p3), .val (.ref b), .val (.int (Int32.ofNat at')), .val (.int (Int32.ofNat (at' + S.length))), .val (.int nb), .val (.int ln), .val (.int c1), .val (.int (((XT.ushrL q2 (32 : Int32)).toInt32).toInt8.toInt32)), .unset, .unset] [(.int (10 : Int32)), (.int (((XT.ushrL q2 (32 : Int32)).toInt32).toInt8.toInt32))])) _
        refine XS.icmpNo X.here hx rfl (hb hby at_248) rfl (XT.ii_eq_f hc248) ?_
        show Steps p.tables e below (T.setTop (mkF m 251 #[.val (.int p1), .val (.long q2), .second, .val (.int p3), .val (.ref b), .val (.int (Int32.ofNat at')), .val (.int (Int32.ofNat (at' + S.length))), .val (.int nb), .val (.int ln), .val (.int c1), .val (.int (((XT.ushrL q2 (32 : Int32)).toInt32).toInt8.toInt32)), .unset, .unset] [])) _
        refine XS.iload X.here hx rfl (hb hby at_251) rfl ?_
        show Steps p.tables e below (T.setTop (mkF m 253 #[.val (.int p1), .val (.long q2), .second, .val (.int p3), .val (.ref b), .val (.int (Int32.ofNat at')), .val (.int (Int32.ofNat (at' + S.length))), .val (.int nb), .val (.int ln), .val (.int c1), .val (.int (((XT.ushrL q2 (32 : Int32)).toInt32).toInt8.toInt32)), .unset, .unset] [(.int (((XT.ushrL q2 (32 : Int32)).toInt32).toInt8.toInt32))])) _
        refine XS.bipush X.here hx rfl (hb hby at_253) ?_
        exact uK
      by_cases hc255 : (((XT.ushrL q2 (32 : Int32)).toInt32).toInt8.toInt32) = (13 : Int32)
      · refine own_st (T' := T) (g' := (mkF m 262 #[.val (.int p1), .val (.long q2), .second, .val (.int p3), .val (.ref b), .val (.int (Int32.ofNat at')), .val (.int (Int32.ofNat (at' + S.length))), .val (.int nb), .val (.int ln), .val (.int c1), .val (.int (122 : Int32)), .unset, .unset] [])) (fun uT uK => ?_) ?_
        · show Steps p.tables e below (T.setTop (mkF m 255 #[.val (.int p1), .val (.long q2), .second, .val (.int p3), .val (.ref b), .val (.int (Int32.ofNat at')), .val (.int (Int32.ofNat (at' + S.length))), .val (.int nb), .val (.int ln), .val (.int c1), .val (.int (((XT.ushrL q2 (32 : Int32)).toInt32).toInt8.toInt32)), .unset, .unset] [(.int (13 : Int32)), (.int (((XT.ushrL q2 (32 : Int32)).toInt32).toInt8.toInt32))])) _
          refine XS.icmpNo X.here hx rfl (hb hby at_255) rfl (XT.ii_ne_f hc255) ?_
          show Steps p.tables e below (T.setTop (mkF m 258 #[.val (.int p1), .val (.long q2), .second, .val (.int p3), .val (.ref b), .val (.int (Int32.ofNat at')), .val (.int (Int32.ofNat (at' + S.length))), .val (.int nb), .val (.int ln), .val (.int c1), .val (.int (((XT.ushrL q2 (32 : Int32)).toInt32).toInt8.toInt32)), .unset, .unset] [])) _
          refine XS.bipush X.here hx rfl (hb hby at_258) ?_
          show Steps p.tables e below (T.setTop (mkF m 260 #[.val (.int p1), .val (.long q2), .second, .val (.int p3), .val (.ref b), .val (.int (Int32.ofNat at')), .val (.int (Int32.ofNat (at' + S.length))), .val (.int nb), .val (.int ln), .val (.int c1), .val (.int (((XT.ushrL q2 (32 : Int32)).toInt32).toInt8.toInt32)), .unset, .unset] [(.int (122 : Int32))])) _
          refine XS.istore X.here hx rfl (hb hby at_260) rfl (l' := #[.val (.int p1), .val (.long q2), .second, .val (.int p3), .val (.ref b), .val (.int (Int32.ofNat at')), .val (.int (Int32.ofNat (at' + S.length))), .val (.int nb), .val (.int ln), .val (.int c1), .val (.int (122 : Int32)), .unset, .unset]) rfl ?_
          exact uK
        exact own_t262 p1 p3 q2 b kc at' pre S h0 nb ln c1 (122 : Int32) K X eT N Z0 g_b hat B (by decide) (by decide) (by decide) hp (by omega)
      · refine own_st (T' := T) (g' := (mkF m 262 #[.val (.int p1), .val (.long q2), .second, .val (.int p3), .val (.ref b), .val (.int (Int32.ofNat at')), .val (.int (Int32.ofNat (at' + S.length))), .val (.int nb), .val (.int ln), .val (.int c1), .val (.int (((XT.ushrL q2 (32 : Int32)).toInt32).toInt8.toInt32)), .unset, .unset] [])) (fun uT uK => ?_) ?_
        · show Steps p.tables e below (T.setTop (mkF m 255 #[.val (.int p1), .val (.long q2), .second, .val (.int p3), .val (.ref b), .val (.int (Int32.ofNat at')), .val (.int (Int32.ofNat (at' + S.length))), .val (.int nb), .val (.int ln), .val (.int c1), .val (.int (((XT.ushrL q2 (32 : Int32)).toInt32).toInt8.toInt32)), .unset, .unset] [(.int (13 : Int32)), (.int (((XT.ushrL q2 (32 : Int32)).toInt32).toInt8.toInt32))])) _
          refine XS.icmpYes X.here hx rfl (pc0 := 255) (pc' := 262) rfl (hb hby at_255) rfl (XT.ii_ne_t hc255) (by decide) (by decide) ?_
          exact uK
        exact own_t262 p1 p3 q2 b kc at' pre S h0 nb ln c1 (((XT.ushrL q2 (32 : Int32)).toInt32).toInt8.toInt32) K X eT N Z0 g_b hat B (own_nb _) hc248 hc255 hp (by omega)
set_option maxRecDepth 65536 in
set_option maxHeartbeats 40000000 in
theorem own_t217 {p : Program} {l : Launch} {e : Env} {s : State} {m : MethodId} {args : Array Value} {below : List Frame} {meth : Method} {c : Code} {T : State} {locs : List Loc} {Z : State} {a0 : Array Value} {h : Heap} {n0 : Nat} (p1 p3 : Int32) (q2 : Int64) (b : Addr) (kc : ClassId) (at' : Nat) (pre S : List Int32) (h0 : Heap) (nb ln c1 : Int32) (s10 : Slot)
    (K : Ctx0 p s m meth c Z a0) (X : Stand p l e room_1 s m args below meth c T locs 1 16) (eT : T.heap = h) (N : Fr n0 locs) (Z0 : n0 ≤ h.size) (g_b : n0 ≤ b) (hat : at' ≤ 2) (B : own_buf Z h b kc at' pre S) (hs10 : own_one s10) (hp : own_pass S 2 false) (hbd : at' + S.length ≤ 9) :
    OwnGo p e below s room_1.cells room_1.slots (Q0 Z p1 q2 p3 h0 n0) T (mkF m 217 #[.val (.int p1), .val (.long q2), .second, .val (.int p3), .val (.ref b), .val (.int (Int32.ofNat at')), .val (.int (Int32.ofNat (at' + S.length))), .val (.int nb), .val (.int ln), .val (.int c1), s10, .unset, .unset] []) := by
  obtain ⟨hx, hZ, hw, hby, hml, hown, hret, hlk, hnm⟩ := id K
  refine own_st (T' := T) (g' := (mkF m 226 #[.val (.int p1), .val (.long q2), .second, .val (.int p3), .val (.ref b), .val (.int (Int32.ofNat at')), .val (.int ((Int32.ofNat (at' + S.length)) + (1 : Int32))), .val (.int nb), .val (.int ln), .val (.int c1), s10, .unset, .unset] [(.int (10 : Int32)), (.int (Int32.ofNat (at' + S.length))), (.ref b)])) (fun uT uK => ?_) ?_
  · show Steps p.tables e below (T.setTop (mkF m 217 #[.val (.int p1), .val (.long q2), .second, .val (.int p3), .val (.ref b), .val (.int (Int32.ofNat at')), .val (.int (Int32.ofNat (at' + S.length))), .val (.int nb), .val (.int ln), .val (.int c1), s10, .unset, .unset] [])) _
    refine XS.aload X.here hx rfl (hb hby at_217) rfl rfl ?_
    show Steps p.tables e below (T.setTop (mkF m 219 #[.val (.int p1), .val (.long q2), .second, .val (.int p3), .val (.ref b), .val (.int (Int32.ofNat at')), .val (.int (Int32.ofNat (at' + S.length))), .val (.int nb), .val (.int ln), .val (.int c1), s10, .unset, .unset] [(.ref b)])) _
    refine XS.iload X.here hx rfl (hb hby at_219) rfl ?_
    show Steps p.tables e below (T.setTop (mkF m 221 #[.val (.int p1), .val (.long q2), .second, .val (.int p3), .val (.ref b), .val (.int (Int32.ofNat at')), .val (.int (Int32.ofNat (at' + S.length))), .val (.int nb), .val (.int ln), .val (.int c1), s10, .unset, .unset] [(.int (Int32.ofNat (at' + S.length))), (.ref b)])) _
    refine XS.iinc X.here hx rfl (hb hby at_221) rfl (l' := #[.val (.int p1), .val (.long q2), .second, .val (.int p3), .val (.ref b), .val (.int (Int32.ofNat at')), .val (.int ((Int32.ofNat (at' + S.length)) + (1 : Int32))), .val (.int nb), .val (.int ln), .val (.int c1), s10, .unset, .unset]) rfl ?_
    show Steps p.tables e below (T.setTop (mkF m 224 #[.val (.int p1), .val (.long q2), .second, .val (.int p3), .val (.ref b), .val (.int (Int32.ofNat at')), .val (.int ((Int32.ofNat (at' + S.length)) + (1 : Int32))), .val (.int nb), .val (.int ln), .val (.int c1), s10, .unset, .unset] [(.int (Int32.ofNat (at' + S.length))), (.ref b)])) _
    refine XS.bipush X.here hx rfl (hb hby at_224) ?_
    exact uK
  obtain ⟨T1, h1, locs1, X1, e1, B1, N1, zz1, st1⟩ := own_stB X hx hZ eT B (by omega) (y := 10) (by decide) N g_b (g := (mkF m 226 #[.val (.int p1), .val (.long q2), .second, .val (.int p3), .val (.ref b), .val (.int (Int32.ofNat at')), .val (.int ((Int32.ofNat (at' + S.length)) + (1 : Int32))), .val (.int nb), .val (.int ln), .val (.int c1), s10, .unset, .unset] [(.int (10 : Int32)), (.int (Int32.ofNat (at' + S.length))), (.ref b)])) rfl rfl (hb hby at_226)
  have Z1 : n0 ≤ h1.size := Nat.le_trans Z0 zz1
  refine own_st st1 ?_
  show OwnGo p e below s _ _ _ T1 (mkF m 227 #[.val (.int p1), .val (.long q2), .second, .val (.int p3), .val (.ref b), .val (.int (Int32.ofNat at')), .val (.int ((Int32.ofNat (at' + S.length)) + (1 : Int32))), .val (.int nb), .val (.int ln), .val (.int c1), s10, .unset, .unset] [])
  rw [own_next at' S 10]
  show OwnGo p e below s _ _ _ T1 (mkF m 227 #[.val (.int p1), .val (.long q2), .second, .val (.int p3), .val (.ref b), .val (.int (Int32.ofNat at')), .val (.int (Int32.ofNat (at' + (S ++ [10]).length))), .val (.int nb), .val (.int ln), .val (.int c1), s10, .unset, .unset] [])
  exact own_t227 p1 p3 q2 b kc at' pre (S ++ [10]) h0 nb ln c1 (s10) K X1 e1 N1 Z1 g_b hat B1 hs10 (own_pass_text hp) (by simp only [own_len1]; omega)
set_option maxRecDepth 65536 in
set_option maxHeartbeats 40000000 in
theorem own_t198 {p : Program} {l : Launch} {e : Env} {s : State} {m : MethodId} {args : Array Value} {below : List Frame} {meth : Method} {c : Code} {T : State} {locs : List Loc} {Z : State} {a0 : Array Value} {h : Heap} {n0 : Nat} (p1 p3 : Int32) (q2 : Int64) (b : Addr) (kc : ClassId) (at' : Nat) (pre S : List Int32) (h0 : Heap) (nb ln c1 : Int32) (s10 : Slot)
    (K : Ctx0 p s m meth c Z a0) (X : Stand p l e room_1 s m args below meth c T locs 1 16) (eT : T.heap = h) (N : Fr n0 locs) (Z0 : n0 ≤ h.size) (g_b : n0 ≤ b) (hat : at' ≤ 2) (B : own_buf Z h b kc at' pre S) (hs10 : own_one s10) (hp : own_pass S 2 false) (hbd : at' + S.length ≤ 8) :
    OwnGo p e below s room_1.cells room_1.slots (Q0 Z p1 q2 p3 h0 n0) T (mkF m 198 #[.val (.int p1), .val (.long q2), .second, .val (.int p3), .val (.ref b), .val (.int (Int32.ofNat at')), .val (.int (Int32.ofNat (at' + S.length))), .val (.int nb), .val (.int ln), .val (.int c1), s10, .unset, .unset] []) := by
  obtain ⟨hx, hZ, hw, hby, hml, hown, hret, hlk, hnm⟩ := id K
  refine own_st (T' := T) (g' := (mkF m 204 #[.val (.int p1), .val (.long q2), .second, .val (.int p3), .val (.ref b), .val (.int (Int32.ofNat at')), .val (.int (Int32.ofNat (at' + S.length))), .val (.int nb), .val (.int ln), .val (.int c1), s10, .unset, .unset] [(.int ((XT.ushr p1 (7 : Int32)) &&& (1 : Int32)))])) (fun uT uK => ?_) ?_
  · show Steps p.tables e below (T.setTop (mkF m 198 #[.val (.int p1), .val (.long q2), .second, .val (.int p3), .val (.ref b), .val (.int (Int32.ofNat at')), .val (.int (Int32.ofNat (at' + S.length))), .val (.int nb), .val (.int ln), .val (.int c1), s10, .unset, .unset] [])) _
    refine XS.iloadN X.here hx rfl (hb hby at_198) rfl ?_
    show Steps p.tables e below (T.setTop (mkF m 199 #[.val (.int p1), .val (.long q2), .second, .val (.int p3), .val (.ref b), .val (.int (Int32.ofNat at')), .val (.int (Int32.ofNat (at' + S.length))), .val (.int nb), .val (.int ln), .val (.int c1), s10, .unset, .unset] [(.int p1)])) _
    refine XS.bipush X.here hx rfl (hb hby at_199) ?_
    show Steps p.tables e below (T.setTop (mkF m 201 #[.val (.int p1), .val (.long q2), .second, .val (.int p3), .val (.ref b), .val (.int (Int32.ofNat at')), .val (.int (Int32.ofNat (at' + S.length))), .val (.int nb), .val (.int ln), .val (.int c1), s10, .unset, .unset] [(.int (7 : Int32)), (.int p1)])) _
    refine XT.iushr X.here hx rfl (hb hby at_201) rfl ?_
    show Steps p.tables e below (T.setTop (mkF m 202 #[.val (.int p1), .val (.long q2), .second, .val (.int p3), .val (.ref b), .val (.int (Int32.ofNat at')), .val (.int (Int32.ofNat (at' + S.length))), .val (.int nb), .val (.int ln), .val (.int c1), s10, .unset, .unset] [(.int (XT.ushr p1 (7 : Int32)))])) _
    refine XS.iconst X.here hx rfl (hb hby at_202) ?_
    show Steps p.tables e below (T.setTop (mkF m 203 #[.val (.int p1), .val (.long q2), .second, .val (.int p3), .val (.ref b), .val (.int (Int32.ofNat at')), .val (.int (Int32.ofNat (at' + S.length))), .val (.int nb), .val (.int ln), .val (.int c1), s10, .unset, .unset] [(.int (1 : Int32)), (.int (XT.ushr p1 (7 : Int32)))])) _
    refine XS.iand X.here hx rfl (hb hby at_203) rfl ?_
    exact uK
  by_cases hc204 : ((XT.ushr p1 (7 : Int32)) &&& (1 : Int32)) = (0 : Int32)
  · refine own_st (T' := T) (g' := (mkF m 217 #[.val (.int p1), .val (.long q2), .second, .val (.int p3), .val (.ref b), .val (.int (Int32.ofNat at')), .val (.int (Int32.ofNat (at' + S.length))), .val (.int nb), .val (.int ln), .val (.int c1), s10, .unset, .unset] [])) (fun uT uK => ?_) ?_
    · show Steps p.tables e below (T.setTop (mkF m 204 #[.val (.int p1), .val (.long q2), .second, .val (.int p3), .val (.ref b), .val (.int (Int32.ofNat at')), .val (.int (Int32.ofNat (at' + S.length))), .val (.int nb), .val (.int ln), .val (.int c1), s10, .unset, .unset] [(.int ((XT.ushr p1 (7 : Int32)) &&& (1 : Int32)))])) _
      refine XS.ifYes X.here hx rfl (pc0 := 204) (pc' := 217) rfl (hb hby at_204) rfl (XT.i0_eq_t hc204) (by decide) (by decide) ?_
      exact uK
    exact own_t217 p1 p3 q2 b kc at' pre S h0 nb ln c1 (s10) K X eT N Z0 g_b hat B hs10 hp (by omega)
  · refine own_st (T' := T) (g' := (mkF m 216 #[.val (.int p1), .val (.long q2), .second, .val (.int p3), .val (.ref b), .val (.int (Int32.ofNat at')), .val (.int ((Int32.ofNat (at' + S.length)) + (1 : Int32))), .val (.int nb), .val (.int ln), .val (.int c1), s10, .unset, .unset] [(.int (13 : Int32)), (.int (Int32.ofNat (at' + S.length))), (.ref b)])) (fun uT uK => ?_) ?_
    · show Steps p.tables e below (T.setTop (mkF m 204 #[.val (.int p1), .val (.long q2), .second, .val (.int p3), .val (.ref b), .val (.int (Int32.ofNat at')), .val (.int (Int32.ofNat (at' + S.length))), .val (.int nb), .val (.int ln), .val (.int c1), s10, .unset, .unset] [(.int ((XT.ushr p1 (7 : Int32)) &&& (1 : Int32)))])) _
      refine XS.ifNo X.here hx rfl (hb hby at_204) rfl (XT.i0_eq_f hc204) ?_
      show Steps p.tables e below (T.setTop (mkF m 207 #[.val (.int p1), .val (.long q2), .second, .val (.int p3), .val (.ref b), .val (.int (Int32.ofNat at')), .val (.int (Int32.ofNat (at' + S.length))), .val (.int nb), .val (.int ln), .val (.int c1), s10, .unset, .unset] [])) _
      refine XS.aload X.here hx rfl (hb hby at_207) rfl rfl ?_
      show Steps p.tables e below (T.setTop (mkF m 209 #[.val (.int p1), .val (.long q2), .second, .val (.int p3), .val (.ref b), .val (.int (Int32.ofNat at')), .val (.int (Int32.ofNat (at' + S.length))), .val (.int nb), .val (.int ln), .val (.int c1), s10, .unset, .unset] [(.ref b)])) _
      refine XS.iload X.here hx rfl (hb hby at_209) rfl ?_
      show Steps p.tables e below (T.setTop (mkF m 211 #[.val (.int p1), .val (.long q2), .second, .val (.int p3), .val (.ref b), .val (.int (Int32.ofNat at')), .val (.int (Int32.ofNat (at' + S.length))), .val (.int nb), .val (.int ln), .val (.int c1), s10, .unset, .unset] [(.int (Int32.ofNat (at' + S.length))), (.ref b)])) _
      refine XS.iinc X.here hx rfl (hb hby at_211) rfl (l' := #[.val (.int p1), .val (.long q2), .second, .val (.int p3), .val (.ref b), .val (.int (Int32.ofNat at')), .val (.int ((Int32.ofNat (at' + S.length)) + (1 : Int32))), .val (.int nb), .val (.int ln), .val (.int c1), s10, .unset, .unset]) rfl ?_
      show Steps p.tables e below (T.setTop (mkF m 214 #[.val (.int p1), .val (.long q2), .second, .val (.int p3), .val (.ref b), .val (.int (Int32.ofNat at')), .val (.int ((Int32.ofNat (at' + S.length)) + (1 : Int32))), .val (.int nb), .val (.int ln), .val (.int c1), s10, .unset, .unset] [(.int (Int32.ofNat (at' + S.length))), (.ref b)])) _
      refine XS.bipush X.here hx rfl (hb hby at_214) ?_
      exact uK
    obtain ⟨T1, h1, locs1, X1, e1, B1, N1, zz1, st1⟩ := own_stB X hx hZ eT B (by omega) (y := 13) (by decide) N g_b (g := (mkF m 216 #[.val (.int p1), .val (.long q2), .second, .val (.int p3), .val (.ref b), .val (.int (Int32.ofNat at')), .val (.int ((Int32.ofNat (at' + S.length)) + (1 : Int32))), .val (.int nb), .val (.int ln), .val (.int c1), s10, .unset, .unset] [(.int (13 : Int32)), (.int (Int32.ofNat (at' + S.length))), (.ref b)])) rfl rfl (hb hby at_216)
    have Z1 : n0 ≤ h1.size := Nat.le_trans Z0 zz1
    refine own_st st1 ?_
    show OwnGo p e below s _ _ _ T1 (mkF m 217 #[.val (.int p1), .val (.long q2), .second, .val (.int p3), .val (.ref b), .val (.int (Int32.ofNat at')), .val (.int ((Int32.ofNat (at' + S.length)) + (1 : Int32))), .val (.int nb), .val (.int ln), .val (.int c1), s10, .unset, .unset] [])
    rw [own_next at' S 13]
    show OwnGo p e below s _ _ _ T1 (mkF m 217 #[.val (.int p1), .val (.long q2), .second, .val (.int p3), .val (.ref b), .val (.int (Int32.ofNat at')), .val (.int (Int32.ofNat (at' + (S ++ [13]).length))), .val (.int nb), .val (.int ln), .val (.int c1), s10, .unset, .unset] [])
    exact own_t217 p1 p3 q2 b kc at' pre (S ++ [13]) h0 nb ln c1 (s10) K X1 e1 N1 Z1 g_b hat B1 hs10 (own_pass_ch2 hp (by decide) rfl) (by simp only [own_len1]; omega)
set_option maxRecDepth 65536 in
set_option maxHeartbeats 40000000 in
theorem own_t188 {p : Program} {l : Launch} {e : Env} {s : State} {m : MethodId} {args : Array Value} {below : List Frame} {meth : Method} {c : Code} {T : State} {locs : List Loc} {Z : State} {a0 : Array Value} {h : Heap} {n0 : Nat} (p1 p3 : Int32) (q2 : Int64) (b : Addr) (kc : ClassId) (at' : Nat) (pre S : List Int32) (h0 : Heap) (nb ln c1 c2 : Int32) (q : Nat)
    (K : Ctx0 p s m meth c Z a0) (X : Stand p l e room_1 s m args below meth c T locs 1 16) (eT : T.heap = h) (N : Fr n0 locs) (Z0 : n0 ≤ h.size) (g_b : n0 ≤ b) (hat : at' ≤ 2) (B : own_buf Z h b kc at' pre S) (hn2 : nar .byte c2 = c2) (h10 : ¬ c2 = 10) (hp : own_pass S q false) (hq2 : own_q q c2 = 2) (hbd : at' + S.length ≤ 7) :
    OwnGo p e below s room_1.cells room_1.slots (Q0 Z p1 q2 p3 h0 n0) T (mkF m 188 #[.val (.int p1), .val (.long q2), .second, .val (.int p3), .val (.ref b), .val (.int (Int32.ofNat at')), .val (.int (Int32.ofNat (at' + S.length))), .val (.int nb), .val (.int ln), .val (.int c1), .val (.int c2), .unset, .unset] []) := by
  obtain ⟨hx, hZ, hw, hby, hml, hown, hret, hlk, hnm⟩ := id K
  refine own_st (T' := T) (g' := (mkF m 197 #[.val (.int p1), .val (.long q2), .second, .val (.int p3), .val (.ref b), .val (.int (Int32.ofNat at')), .val (.int ((Int32.ofNat (at' + S.length)) + (1 : Int32))), .val (.int nb), .val (.int ln), .val (.int c1), .val (.int c2), .unset, .unset] [(.int c2), (.int (Int32.ofNat (at' + S.length))), (.ref b)])) (fun uT uK => ?_) ?_
  · show Steps p.tables e below (T.setTop (mkF m 188 #[.val (.int p1), .val (.long q2), .second, .val (.int p3), .val (.ref b), .val (.int (Int32.ofNat at')), .val (.int (Int32.ofNat (at' + S.length))), .val (.int nb), .val (.int ln), .val (.int c1), .val (.int c2), .unset, .unset] [])) _
    refine XS.aload X.here hx rfl (hb hby at_188) rfl rfl ?_
    show Steps p.tables e below (T.setTop (mkF m 190 #[.val (.int p1), .val (.long q2), .second, .val (.int p3), .val (.ref b), .val (.int (Int32.ofNat at')), .val (.int (Int32.ofNat (at' + S.length))), .val (.int nb), .val (.int ln), .val (.int c1), .val (.int c2), .unset, .unset] [(.ref b)])) _
    refine XS.iload X.here hx rfl (hb hby at_190) rfl ?_
    show Steps p.tables e below (T.setTop (mkF m 192 #[.val (.int p1), .val (.long q2), .second, .val (.int p3), .val (.ref b), .val (.int (Int32.ofNat at')), .val (.int (Int32.ofNat (at' + S.length))), .val (.int nb), .val (.int ln), .val (.int c1), .val (.int c2), .unset, .unset] [(.int (Int32.ofNat (at' + S.length))), (.ref b)])) _
    refine XS.iinc X.here hx rfl (hb hby at_192) rfl (l' := #[.val (.int p1), .val (.long q2), .second, .val (.int p3), .val (.ref b), .val (.int (Int32.ofNat at')), .val (.int ((Int32.ofNat (at' + S.length)) + (1 : Int32))), .val (.int nb), .val (.int ln), .val (.int c1), .val (.int c2), .unset, .unset]) rfl ?_
    show Steps p.tables e below (T.setTop (mkF m 195 #[.val (.int p1), .val (.long q2), .second, .val (.int p3), .val (.ref b), .val (.int (Int32.ofNat at')), .val (.int ((Int32.ofNat (at' + S.length)) + (1 : Int32))), .val (.int nb), .val (.int ln), .val (.int c1), .val (.int c2), .unset, .unset] [(.int (Int32.ofNat (at' + S.length))), (.ref b)])) _
    refine XS.iload X.here hx rfl (hb hby at_195) rfl ?_
    exact uK
  obtain ⟨T1, h1, locs1, X1, e1, B1, N1, zz1, st1⟩ := own_stB X hx hZ eT B (by omega) (y := c2) hn2 N g_b (g := (mkF m 197 #[.val (.int p1), .val (.long q2), .second, .val (.int p3), .val (.ref b), .val (.int (Int32.ofNat at')), .val (.int ((Int32.ofNat (at' + S.length)) + (1 : Int32))), .val (.int nb), .val (.int ln), .val (.int c1), .val (.int c2), .unset, .unset] [(.int c2), (.int (Int32.ofNat (at' + S.length))), (.ref b)])) rfl rfl (hb hby at_197)
  have Z1 : n0 ≤ h1.size := Nat.le_trans Z0 zz1
  refine own_st st1 ?_
  show OwnGo p e below s _ _ _ T1 (mkF m 198 #[.val (.int p1), .val (.long q2), .second, .val (.int p3), .val (.ref b), .val (.int (Int32.ofNat at')), .val (.int ((Int32.ofNat (at' + S.length)) + (1 : Int32))), .val (.int nb), .val (.int ln), .val (.int c1), .val (.int c2), .unset, .unset] [])
  rw [own_next at' S c2]
  show OwnGo p e below s _ _ _ T1 (mkF m 198 #[.val (.int p1), .val (.long q2), .second, .val (.int p3), .val (.ref b), .val (.int (Int32.ofNat at')), .val (.int (Int32.ofNat (at' + (S ++ [c2]).length))), .val (.int nb), .val (.int ln), .val (.int c1), .val (.int c2), .unset, .unset] [])
  exact own_t198 p1 p3 q2 b kc at' pre (S ++ [c2]) h0 nb ln c1 (.val (.int c2)) K X1 e1 N1 Z1 g_b hat B1 (Or.inr ⟨_, rfl⟩) (own_pass_ch2 hp h10 hq2) (by simp only [own_len1]; omega)
set_option maxRecDepth 65536 in
set_option maxHeartbeats 40000000 in
theorem own_t153 {p : Program} {l : Launch} {e : Env} {s : State} {m : MethodId} {args : Array Value} {below : List Frame} {meth : Method} {c : Code} {T : State} {locs : List Loc} {Z : State} {a0 : Array Value} {h : Heap} {n0 : Nat} (p1 p3 : Int32) (q2 : Int64) (b : Addr) (kc : ClassId) (at' : Nat) (pre S : List Int32) (h0 : Heap) (nb ln c1 : Int32)
    (K : Ctx0 p s m meth c Z a0) (X : Stand p l e room_1 s m args below meth c T locs 1 16) (eT : T.heap = h) (N : Fr n0 locs) (Z0 : n0 ≤ h.size) (g_b : n0 ≤ b) (hat : at' ≤ 2) (B : own_buf Z h b kc at' pre S) (hn1 : nar .byte c1 = c1) (h10 : ¬ c1 = 10) (hl : ln = 2 ∨ ¬ c1 = 13) (hp : own_pass S 0 false) (hbd : at' + S.length ≤ 6) :
    OwnGo p e below s room_1.cells room_1.slots (Q0 Z p1 q2 p3 h0 n0) T (mkF m 153 #[.val (.int p1), .val (.long q2), .second, .val (.int p3), .val (.ref b), .val (.int (Int32.ofNat at')), .val (.int (Int32.ofNat (at' + S.length))), .val (.int nb), .val (.int ln), .val (.int c1), .unset, .unset, .unset] []) := by
  obtain ⟨hx, hZ, hw, hby, hml, hown, hret, hlk, hnm⟩ := id K
  refine own_st (T' := T) (g' := (mkF m 162 #[.val (.int p1), .val (.long q2), .second, .val (.int p3), .val (.ref b), .val (.int (Int32.ofNat at')), .val (.int ((Int32.ofNat (at' + S.length)) + (1 : Int32))), .val (.int nb), .val (.int ln), .val (.int c1), .unset, .unset, .unset] [(.int c1), (.int (Int32.ofNat (at' + S.length))), (.ref b)])) (fun uT uK => ?_) ?_
  · show Steps p.tables e below (T.setTop (mkF m 153 #[.val (.int p1), .val (.long q2), .second, .val (.int p3), .val (.ref b), .val (.int (Int32.ofNat at')), .val (.int (Int32.ofNat (at' + S.length))), .val (.int nb), .val (.int ln), .val (.int c1), .unset, .unset, .unset] [])) _
    refine XS.aload X.here hx rfl (hb hby at_153) rfl rfl ?_
    show Steps p.tables e below (T.setTop (mkF m 155 #[.val (.int p1), .val (.long q2), .second, .val (.int p3), .val (.ref b), .val (.int (Int32.ofNat at')), .val (.int (Int32.ofNat (at' + S.length))), .val (.int nb), .val (.int ln), .val (.int c1), .unset, .unset, .unset] [(.ref b)])) _
    refine XS.iload X.here hx rfl (hb hby at_155) rfl ?_
    show Steps p.tables e below (T.setTop (mkF m 157 #[.val (.int p1), .val (.long q2), .second, .val (.int p3), .val (.ref b), .val (.int (Int32.ofNat at')), .val (.int (Int32.ofNat (at' + S.length))), .val (.int nb), .val (.int ln), .val (.int c1), .unset, .unset, .unset] [(.int (Int32.ofNat (at' + S.length))), (.ref b)])) _
    refine XS.iinc X.here hx rfl (hb hby at_157) rfl (l' := #[.val (.int p1), .val (.long q2), .second, .val (.int p3), .val (.ref b), .val (.int (Int32.ofNat at')), .val (.int ((Int32.ofNat (at' + S.length)) + (1 : Int32))), .val (.int nb), .val (.int ln), .val (.int c1), .unset, .unset, .unset]) rfl ?_
    show Steps p.tables e below (T.setTop (mkF m 160 #[.val (.int p1), .val (.long q2), .second, .val (.int p3), .val (.ref b), .val (.int (Int32.ofNat at')), .val (.int ((Int32.ofNat (at' + S.length)) + (1 : Int32))), .val (.int nb), .val (.int ln), .val (.int c1), .unset, .unset, .unset] [(.int (Int32.ofNat (at' + S.length))), (.ref b)])) _
    refine XS.iload X.here hx rfl (hb hby at_160) rfl ?_
    exact uK
  obtain ⟨T1, h1, locs1, X1, e1, B1, N1, zz1, st1⟩ := own_stB X hx hZ eT B (by omega) (y := c1) hn1 N g_b (g := (mkF m 162 #[.val (.int p1), .val (.long q2), .second, .val (.int p3), .val (.ref b), .val (.int (Int32.ofNat at')), .val (.int ((Int32.ofNat (at' + S.length)) + (1 : Int32))), .val (.int nb), .val (.int ln), .val (.int c1), .unset, .unset, .unset] [(.int c1), (.int (Int32.ofNat (at' + S.length))), (.ref b)])) rfl rfl (hb hby at_162)
  have Z1 : n0 ≤ h1.size := Nat.le_trans Z0 zz1
  refine own_st st1 ?_
  show OwnGo p e below s _ _ _ T1 (mkF m 163 #[.val (.int p1), .val (.long q2), .second, .val (.int p3), .val (.ref b), .val (.int (Int32.ofNat at')), .val (.int ((Int32.ofNat (at' + S.length)) + (1 : Int32))), .val (.int nb), .val (.int ln), .val (.int c1), .unset, .unset, .unset] [])
  rw [own_next at' S c1]
  show OwnGo p e below s _ _ _ T1 (mkF m 163 #[.val (.int p1), .val (.long q2), .second, .val (.int p3), .val (.ref b), .val (.int (Int32.ofNat at')), .val (.int (Int32.ofNat (at' + (S ++ [c1]).length))), .val (.int nb), .val (.int ln), .val (.int c1), .unset, .unset, .unset] [])
  refine own_st (T' := T1) (g' := (mkF m 166 #[.val (.int p1), .val (.long q2), .second, .val (.int p3), .val (.ref b), .val (.int (Int32.ofNat at')), .val (.int (Int32.ofNat (at' + (S ++ [c1]).length))), .val (.int nb), .val (.int ln), .val (.int c1), .unset, .unset, .unset] [(.int (2 : Int32)), (.int ln)])) (fun uT uK => ?_) ?_
  · show Steps p.tables e below (T1.setTop (mkF m 163 #[.val (.int p1), .val (.long q2), .second, .val (.int p3), .val (.ref b), .val (.int (Int32.ofNat at')), .val (.int (Int32.ofNat (at' + (S ++ [c1]).length))), .val (.int nb), .val (.int ln), .val (.int c1), .unset, .unset, .unset] [])) _
    refine XS.iload X1.here hx rfl (hb hby at_163) rfl ?_
    show Steps p.tables e below (T1.setTop (mkF m 165 #[.val (.int p1), .val (.long q2), .second, .val (.int p3), .val (.ref b), .val (.int (Int32.ofNat at')), .val (.int (Int32.ofNat (at' + (S ++ [c1]).length))), .val (.int nb), .val (.int ln), .val (.int c1), .unset, .unset, .unset] [(.int ln)])) _
    refine XS.iconst X1.here hx rfl (hb hby at_165) ?_
    exact uK
  by_cases hc166 : ln = (2 : Int32)
  · refine own_st (T' := T1) (g' := (mkF m 181 #[.val (.int p1), .val (.long q2), .second, .val (.int p3), .val (.ref b), .val (.int (Int32.ofNat at')), .val (.int (Int32.ofNat (at' + (S ++ [c1]).length))), .val (.int nb), .val (.int ln), .val (.int c1), .val (.int (((XT.ushrL q2 (24 : Int32)).toInt32).toInt8.toInt32)), .unset, .unset] [(.int (10 : Int32)), (.int (((XT.ushrL q2 (24 : Int32)).toInt32).toInt8.toInt32))])) (fun uT uK => ?_) ?_
    · show Steps p.tables e below (T1.setTop (mkF m 166 #[.val (.int p1), .val (.long q2), .second, .val (.int p3), .val (.ref b), .val (.int (Int32.ofNat at')), .val (.int (Int32.ofNat (at' + (S ++ [c1]).length))), .val (.int nb), .val (.int ln), .val (.int c1), .unset, .unset, .unset] [(.int (2 : Int32)), (.int ln)])) _
      refine XS.icmpNo X1.here hx rfl (hb hby at_166) rfl (XT.ii_ne_f hc166) ?_
      show Steps p.tables e below (T1.setTop (mkF m 169 #[.val (.int p1), .val (.long q2), .second, .val (.int p3), .val (.ref b), .val (.int (Int32.ofNat at')), .val (.int (Int32.ofNat (at' + (S ++ [c1]).length))), .val (.int nb), .val (.int ln), .val (.int c1), .unset, .unset, .unset] [])) _
      refine XT.lloadN X1.here hx rfl (hb hby at_169) rfl ?_
      show Steps p.tables e below (T1.setTop (mkF m 170 #[.val (.int p1), .val (.long q2), .second, .val (.int p3), .val (.ref b), .val (.int (Int32.ofNat at')), .val (.int (Int32.ofNat (at' + (S ++ [c1]).length))), .val (.int nb), .val (.int ln), .val (.int c1), .unset, .unset, .unset] [(.long q2)])) _
      refine XS.bipush X1.here hx rfl (hb hby at_170) ?_
      show Steps p.tables e below (T1.setTop (mkF m 172 #[.val (.int p1), .val (.long q2), .second, .val (.int p3), .val (.ref b), .val (.int (Int32.ofNat at')), .val (.int (Int32.ofNat (at' + (S ++ [c1]).length))), .val (.int nb), .val (.int ln), .val (.int c1), .unset, .unset, .unset] [(.int (24 : Int32)), (.long q2)])) _
      refine XT.lushr X1.here hx rfl (hb hby at_172) rfl ?_
      show Steps p.tables e below (T1.setTop (mkF m 173 #[.val (.int p1), .val (.long q2), .second, .val (.int p3), .val (.ref b), .val (.int (Int32.ofNat at')), .val (.int (Int32.ofNat (at' + (S ++ [c1]).length))), .val (.int nb), .val (.int ln), .val (.int c1), .unset, .unset, .unset] [(.long (XT.ushrL q2 (24 : Int32)))])) _
      refine XT.l2i X1.here hx rfl (hb hby at_173) rfl ?_
      show Steps p.tables e below (T1.setTop (mkF m 174 #[.val (.int p1), .val (.long q2), .second, .val (.int p3), .val (.ref b), .val (.int (Int32.ofNat at')), .val (.int (Int32.ofNat (at' + (S ++ [c1]).length))), .val (.int nb), .val (.int ln), .val (.int c1), .unset, .unset, .unset] [(.int ((XT.ushrL q2 (24 : Int32)).toInt32))])) _
      refine XT.i2b X1.here hx rfl (hb hby at_174) rfl ?_
      show Steps p.tables e below (T1.setTop (mkF m 175 #[.val (.int p1), .val (.long q2), .second, .val (.int p3), .val (.ref b), .val (.int (Int32.ofNat at')), .val (.int (Int32.ofNat (at' + (S ++ [c1]).length))), .val (.int nb), .val (.int ln), .val (.int c1), .unset, .unset, .unset] [(.int (((XT.ushrL q2 (24 : Int32)).toInt32).toInt8.toInt32))])) _
      refine XS.istore X1.here hx rfl (hb hby at_175) rfl (l' := #[.val (.int p1), .val (.long q2), .second, .val (.int p3), .val (.ref b), .val (.int (Int32.ofNat at')), .val (.int (Int32.ofNat (at' + (S ++ [c1]).length))), .val (.int nb), .val (.int ln), .val (.int c1), .val (.int (((XT.ushrL q2 (24 : Int32)).toInt32).toInt8.toInt32)), .unset, .unset]) rfl ?_
      show Steps p.tables e below (T1.setTop (mkF m 177 #[.val (.int p1), .val (.long q2), .second, .val (.int p3), .val (.ref b), .val (.int (Int32.ofNat at')), .val (.int (Int32.ofNat (at' + (S ++ [c1]).length))), .val (.int nb), .val (.int ln), .val (.int c1), .val (.int (((XT.ushrL q2 (24 : Int32)).toInt32).toInt8.toInt32)), .unset, .unset] [])) _
      refine XS.iload X1.here hx rfl (hb hby at_177) rfl ?_
      show Steps p.tables e below (T1.setTop (mkF m 179 #[.val (.int p1), .val (.long q2), .second, .val (.int p3), .val (.ref b), .val (.int (Int32.ofNat at')), .val (.int (Int32.ofNat (at' + (S ++ [c1]).length))), .val (.int nb), .val (.int ln), .val (.int c1), .val (.int (((XT.ushrL q2 (24 : Int32)).toInt32).toInt8.toInt32)), .unset, .unset] [(.int (((XT.ushrL q2 (24 : Int32)).toInt32).toInt8.toInt32))])) _
      refine XS.bipush X1.here hx rfl (hb hby at_179) ?_
      exact uK
    by_cases hc181 : (((XT.ushrL q2 (24 : Int32)).toInt32).toInt8.toInt32) = (10 : Int32)
    · refine own_st (T' := T1) (g' := (mkF m 188 #[.val (.int p1), .val (.long q2), .second, .val (.int p3), .val (.ref b), .val (.int (Int32.ofNat at')), .val (.int (Int32.ofNat (at' + (S ++ [c1]).length))), .val (.int nb), .val (.int ln), .val (.int c1), .val (.int (121 : Int32)), .unset, .unset] [])) (fun uT uK => ?_) ?_
      · show Steps p.tables e below (T1.setTop (mkF m 181 #[.val (.int p1), .val (.long q2), .second, .val (.int p3), .val (.ref b), .val (.int (Int32.ofNat at')), .val (.int (Int32.ofNat (at' + (S ++ [c1]).length))), .val (.int nb), .val (.int ln), .val (.int c1), .val (.int (((XT.ushrL q2 (24 : Int32)).toInt32).toInt8.toInt32)), .unset, .unset] [(.int (10 : Int32)), (.int (((XT.ushrL q2 (24 : Int32)).toInt32).toInt8.toInt32))])) _
        refine XS.icmpNo X1.here hx rfl (hb hby at_181) rfl (XT.ii_ne_f hc181) ?_
        show Steps p.tables e below (T1.setTop (mkF m 184 #[.val (.int p1), .val (.long q2), .second, .val (.int p3), .val (.ref b), .val (.int (Int32.ofNat at')), .val (.int (Int32.ofNat (at' + (S ++ [c1]).length))), .val (.int nb), .val (.int ln), .val (.int c1), .val (.int (((XT.ushrL q2 (24 : Int32)).toInt32).toInt8.toInt32)), .unset, .unset] [])) _
        refine XS.bipush X1.here hx rfl (hb hby at_184) ?_
        show Steps p.tables e below (T1.setTop (mkF m 186 #[.val (.int p1), .val (.long q2), .second, .val (.int p3), .val (.ref b), .val (.int (Int32.ofNat at')), .val (.int (Int32.ofNat (at' + (S ++ [c1]).length))), .val (.int nb), .val (.int ln), .val (.int c1), .val (.int (((XT.ushrL q2 (24 : Int32)).toInt32).toInt8.toInt32)), .unset, .unset] [(.int (121 : Int32))])) _
        refine XS.istore X1.here hx rfl (hb hby at_186) rfl (l' := #[.val (.int p1), .val (.long q2), .second, .val (.int p3), .val (.ref b), .val (.int (Int32.ofNat at')), .val (.int (Int32.ofNat (at' + (S ++ [c1]).length))), .val (.int nb), .val (.int ln), .val (.int c1), .val (.int (121 : Int32)), .unset, .unset]) rfl ?_
        exact uK
      exact own_t188 p1 p3 q2 b kc at' pre (S ++ [c1]) h0 nb ln c1 (121 : Int32) (own_q 0 c1) K X1 e1 N1 Z1 g_b hat B1 (by decide) (by decide) (own_pass_ch hp h10) (by rw [own_q, if_neg (by rw [own_q, if_pos rfl]; by_cases y : c1 = 13 <;> simp [y])]) (by simp only [own_len1]; omega)
    · refine own_st (T' := T1) (g' := (mkF m 188 #[.val (.int p1), .val (.long q2), .second, .val (.int p3), .val (.ref b), .val (.int (Int32.ofNat at')), .val (.int (Int32.ofNat (at' + (S ++ [c1]).length))), .val (.int nb), .val (.int ln), .val (.int c1), .val (.int (((XT.ushrL q2 (24 : Int32)).toInt32).toInt8.toInt32)), .unset, .unset] [])) (fun uT uK => ?_) ?_
      · show Steps p.tables e below (T1.setTop (mkF m 181 #[.val (.int p1), .val (.long q2), .second, .val (.int p3), .val (.ref b), .val (.int (Int32.ofNat at')), .val (.int (Int32.ofNat (at' + (S ++ [c1]).length))), .val (.int nb), .val (.int ln), .val (.int c1), .val (.int (((XT.ushrL q2 (24 : Int32)).toInt32).toInt8.toInt32)), .unset, .unset] [(.int (10 : Int32)), (.int (((XT.ushrL q2 (24 : Int32)).toInt32).toInt8.toInt32))])) _
        refine XS.icmpYes X1.here hx rfl (pc0 := 181) (pc' := 188) rfl (hb hby at_181) rfl (XT.ii_ne_t hc181) (by decide) (by decide) ?_
        exact uK
      exact own_t188 p1 p3 q2 b kc at' pre (S ++ [c1]) h0 nb ln c1 (((XT.ushrL q2 (24 : Int32)).toInt32).toInt8.toInt32) (own_q 0 c1) K X1 e1 N1 Z1 g_b hat B1 (own_nb _) hc181 (own_pass_ch hp h10) (by rw [own_q, if_neg (by rw [own_q, if_pos rfl]; by_cases y : c1 = 13 <;> simp [y])]) (by simp only [own_len1]; omega)
  · refine own_st (T' := T1) (g' := (mkF m 198 #[.val (.int p1), .val (.long q2), .second, .val (.int p3), .val (.ref b), .val (.int (Int32.ofNat at')), .val (.int (Int32.ofNat (at' + (S ++ [c1]).length))), .val (.int nb), .val (.int ln), .val (.int c1), .unset, .unset, .unset] [])) (fun uT uK => ?_) ?_
    · show Steps p.tables e below (T1.setTop (mkF m 166 #[.val (.int p1), .val (.long q2), .second, .val (.int p3), .val (.ref b), .val (.int (Int32.ofNat at')), .val (.int (Int32.ofNat (at' + (S ++ [c1]).length))), .val (.int nb), .val (.int ln), .val (.int c1), .unset, .unset, .unset] [(.int (2 : Int32)), (.int ln)])) _
      refine XS.icmpYes X1.here hx rfl (pc0 := 166) (pc' := 198) rfl (hb hby at_166) rfl (XT.ii_ne_t hc166) (by decide) (by decide) ?_
      exact uK
    exact own_t198 p1 p3 q2 b kc at' pre (S ++ [c1]) h0 nb ln c1 (.unset) K X1 e1 N1 Z1 g_b hat B1 (Or.inl rfl) (own_pass_ch2 hp h10 (by rw [own_q, if_pos rfl, if_neg (hl.resolve_left hc166)])) (by simp only [own_len1]; omega)
set_option maxRecDepth 65536 in
set_option maxHeartbeats 40000000 in
theorem own_t111 {p : Program} {l : Launch} {e : Env} {s : State} {m : MethodId} {args : Array Value} {below : List Frame} {meth : Method} {c : Code} {T : State} {locs : List Loc} {Z : State} {a0 : Array Value} {h : Heap} {n0 : Nat} (p1 p3 : Int32) (q2 : Int64) (b : Addr) (kc : ClassId) (at' : Nat) (pre S : List Int32) (h0 : Heap) (nb : Int32)
    (K : Ctx0 p s m meth c Z a0) (X : Stand p l e room_1 s m args below meth c T locs 1 16) (eT : T.heap = h) (N : Fr n0 locs) (Z0 : n0 ≤ h.size) (g_b : n0 ≤ b) (hat : at' ≤ 2) (B : own_buf Z h b kc at' pre S) (hp : own_pass S 0 false) (hbd : at' + S.length ≤ 6) :
    OwnGo p e below s room_1.cells room_1.slots (Q0 Z p1 q2 p3 h0 n0) T (mkF m 111 #[.val (.int p1), .val (.long q2), .second, .val (.int p3), .val (.ref b), .val (.int (Int32.ofNat at')), .val (.int (Int32.ofNat (at' + S.length))), .val (.int nb), .unset, .unset, .unset, .unset, .unset] []) := by
  obtain ⟨hx, hZ, hw, hby, hml, hown, hret, hlk, hnm⟩ := id K
  refine own_st (T' := T) (g' := (mkF m 133 #[.val (.int p1), .val (.long q2), .second, .val (.int p3), .val (.ref b), .val (.int (Int32.ofNat at')), .val (.int (Int32.ofNat (at' + S.length))), .val (.int nb), .val (.int ((1 : Int32) + ((XT.ushr p1 (6 : Int32)) &&& (1 : Int32)))), .val (.int (((XT.ushrL q2 (16 : Int32)).toInt32).toInt8.toInt32)), .unset, .unset, .unset] [(.int (10 : Int32)), (.int (((XT.ushrL q2 (16 : Int32)).toInt32).toInt8.toInt32))])) (fun uT uK => ?_) ?_
  · show Steps p.tables e below (T.setTop (mkF m 111 #[.val (.int p1), .val (.long q2), .second, .val (.int p3), .val (.ref b), .val (.int (Int32.ofNat at')), .val (.int (Int32.ofNat (at' + S.length))), .val (.int nb), .unset, .unset, .unset, .unset, .unset] [])) _
    refine XS.iconst X.here hx rfl (hb hby at_111) ?_
    show Steps p.tables e below (T.setTop (mkF m 112 #[.val (.int p1), .val (.long q2), .second, .val (.int p3), .val (.ref b), .val (.int (Int32.ofNat at')), .val (.int (Int32.ofNat (at' + S.length))), .val (.int nb), .unset, .unset, .unset, .unset, .unset] [(.int (1 : Int32))])) _
    refine XS.iloadN X.here hx rfl (hb hby at_112) rfl ?_
    show Steps p.tables e below (T.setTop (mkF m 113 #[.val (.int p1), .val (.long q2), .second, .val (.int p3), .val (.ref b), .val (.int (Int32.ofNat at')), .val (.int (Int32.ofNat (at' + S.length))), .val (.int nb), .unset, .unset, .unset, .unset, .unset] [(.int p1), (.int (1 : Int32))])) _
    refine XS.bipush X.here hx rfl (hb hby at_113) ?_
    show Steps p.tables e below (T.setTop (mkF m 115 #[.val (.int p1), .val (.long q2), .second, .val (.int p3), .val (.ref b), .val (.int (Int32.ofNat at')), .val (.int (Int32.ofNat (at' + S.length))), .val (.int nb), .unset, .unset, .unset, .unset, .unset] [(.int (6 : Int32)), (.int p1), (.int (1 : Int32))])) _
    refine XT.iushr X.here hx rfl (hb hby at_115) rfl ?_
    show Steps p.tables e below (T.setTop (mkF m 116 #[.val (.int p1), .val (.long q2), .second, .val (.int p3), .val (.ref b), .val (.int (Int32.ofNat at')), .val (.int (Int32.ofNat (at' + S.length))), .val (.int nb), .unset, .unset, .unset, .unset, .unset] [(.int (XT.ushr p1 (6 : Int32))), (.int (1 : Int32))])) _
    refine XS.iconst X.here hx rfl (hb hby at_116) ?_
    show Steps p.tables e below (T.setTop (mkF m 117 #[.val (.int p1), .val (.long q2), .second, .val (.int p3), .val (.ref b), .val (.int (Int32.ofNat at')), .val (.int (Int32.ofNat (at' + S.length))), .val (.int nb), .unset, .unset, .unset, .unset, .unset] [(.int (1 : Int32)), (.int (XT.ushr p1 (6 : Int32))), (.int (1 : Int32))])) _
    refine XS.iand X.here hx rfl (hb hby at_117) rfl ?_
    show Steps p.tables e below (T.setTop (mkF m 118 #[.val (.int p1), .val (.long q2), .second, .val (.int p3), .val (.ref b), .val (.int (Int32.ofNat at')), .val (.int (Int32.ofNat (at' + S.length))), .val (.int nb), .unset, .unset, .unset, .unset, .unset] [(.int ((XT.ushr p1 (6 : Int32)) &&& (1 : Int32))), (.int (1 : Int32))])) _
    refine XS.iadd X.here hx rfl (hb hby at_118) rfl ?_
    show Steps p.tables e below (T.setTop (mkF m 119 #[.val (.int p1), .val (.long q2), .second, .val (.int p3), .val (.ref b), .val (.int (Int32.ofNat at')), .val (.int (Int32.ofNat (at' + S.length))), .val (.int nb), .unset, .unset, .unset, .unset, .unset] [(.int ((1 : Int32) + ((XT.ushr p1 (6 : Int32)) &&& (1 : Int32))))])) _
    refine XS.istore X.here hx rfl (hb hby at_119) rfl (l' := #[.val (.int p1), .val (.long q2), .second, .val (.int p3), .val (.ref b), .val (.int (Int32.ofNat at')), .val (.int (Int32.ofNat (at' + S.length))), .val (.int nb), .val (.int ((1 : Int32) + ((XT.ushr p1 (6 : Int32)) &&& (1 : Int32)))), .unset, .unset, .unset, .unset]) rfl ?_
    show Steps p.tables e below (T.setTop (mkF m 121 #[.val (.int p1), .val (.long q2), .second, .val (.int p3), .val (.ref b), .val (.int (Int32.ofNat at')), .val (.int (Int32.ofNat (at' + S.length))), .val (.int nb), .val (.int ((1 : Int32) + ((XT.ushr p1 (6 : Int32)) &&& (1 : Int32)))), .unset, .unset, .unset, .unset] [])) _
    refine XT.lloadN X.here hx rfl (hb hby at_121) rfl ?_
    show Steps p.tables e below (T.setTop (mkF m 122 #[.val (.int p1), .val (.long q2), .second, .val (.int p3), .val (.ref b), .val (.int (Int32.ofNat at')), .val (.int (Int32.ofNat (at' + S.length))), .val (.int nb), .val (.int ((1 : Int32) + ((XT.ushr p1 (6 : Int32)) &&& (1 : Int32)))), .unset, .unset, .unset, .unset] [(.long q2)])) _
    refine XS.bipush X.here hx rfl (hb hby at_122) ?_
    show Steps p.tables e below (T.setTop (mkF m 124 #[.val (.int p1), .val (.long q2), .second, .val (.int p3), .val (.ref b), .val (.int (Int32.ofNat at')), .val (.int (Int32.ofNat (at' + S.length))), .val (.int nb), .val (.int ((1 : Int32) + ((XT.ushr p1 (6 : Int32)) &&& (1 : Int32)))), .unset, .unset, .unset, .unset] [(.int (16 : Int32)), (.long q2)])) _
    refine XT.lushr X.here hx rfl (hb hby at_124) rfl ?_
    show Steps p.tables e below (T.setTop (mkF m 125 #[.val (.int p1), .val (.long q2), .second, .val (.int p3), .val (.ref b), .val (.int (Int32.ofNat at')), .val (.int (Int32.ofNat (at' + S.length))), .val (.int nb), .val (.int ((1 : Int32) + ((XT.ushr p1 (6 : Int32)) &&& (1 : Int32)))), .unset, .unset, .unset, .unset] [(.long (XT.ushrL q2 (16 : Int32)))])) _
    refine XT.l2i X.here hx rfl (hb hby at_125) rfl ?_
    show Steps p.tables e below (T.setTop (mkF m 126 #[.val (.int p1), .val (.long q2), .second, .val (.int p3), .val (.ref b), .val (.int (Int32.ofNat at')), .val (.int (Int32.ofNat (at' + S.length))), .val (.int nb), .val (.int ((1 : Int32) + ((XT.ushr p1 (6 : Int32)) &&& (1 : Int32)))), .unset, .unset, .unset, .unset] [(.int ((XT.ushrL q2 (16 : Int32)).toInt32))])) _
    refine XT.i2b X.here hx rfl (hb hby at_126) rfl ?_
    show Steps p.tables e below (T.setTop (mkF m 127 #[.val (.int p1), .val (.long q2), .second, .val (.int p3), .val (.ref b), .val (.int (Int32.ofNat at')), .val (.int (Int32.ofNat (at' + S.length))), .val (.int nb), .val (.int ((1 : Int32) + ((XT.ushr p1 (6 : Int32)) &&& (1 : Int32)))), .unset, .unset, .unset, .unset] [(.int (((XT.ushrL q2 (16 : Int32)).toInt32).toInt8.toInt32))])) _
    refine XS.istore X.here hx rfl (hb hby at_127) rfl (l' := #[.val (.int p1), .val (.long q2), .second, .val (.int p3), .val (.ref b), .val (.int (Int32.ofNat at')), .val (.int (Int32.ofNat (at' + S.length))), .val (.int nb), .val (.int ((1 : Int32) + ((XT.ushr p1 (6 : Int32)) &&& (1 : Int32)))), .val (.int (((XT.ushrL q2 (16 : Int32)).toInt32).toInt8.toInt32)), .unset, .unset, .unset]) rfl ?_
    show Steps p.tables e below (T.setTop (mkF m 129 #[.val (.int p1), .val (.long q2), .second, .val (.int p3), .val (.ref b), .val (.int (Int32.ofNat at')), .val (.int (Int32.ofNat (at' + S.length))), .val (.int nb), .val (.int ((1 : Int32) + ((XT.ushr p1 (6 : Int32)) &&& (1 : Int32)))), .val (.int (((XT.ushrL q2 (16 : Int32)).toInt32).toInt8.toInt32)), .unset, .unset, .unset] [])) _
    refine XS.iload X.here hx rfl (hb hby at_129) rfl ?_
    show Steps p.tables e below (T.setTop (mkF m 131 #[.val (.int p1), .val (.long q2), .second, .val (.int p3), .val (.ref b), .val (.int (Int32.ofNat at')), .val (.int (Int32.ofNat (at' + S.length))), .val (.int nb), .val (.int ((1 : Int32) + ((XT.ushr p1 (6 : Int32)) &&& (1 : Int32)))), .val (.int (((XT.ushrL q2 (16 : Int32)).toInt32).toInt8.toInt32)), .unset, .unset, .unset] [(.int (((XT.ushrL q2 (16 : Int32)).toInt32).toInt8.toInt32))])) _
    refine XS.bipush X.here hx rfl (hb hby at_131) ?_
    exact uK
  by_cases hc133 : (((XT.ushrL q2 (16 : Int32)).toInt32).toInt8.toInt32) = (10 : Int32)
  · refine own_st (T' := T) (g' := (mkF m 153 #[.val (.int p1), .val (.long q2), .second, .val (.int p3), .val (.ref b), .val (.int (Int32.ofNat at')), .val (.int (Int32.ofNat (at' + S.length))), .val (.int nb), .val (.int ((1 : Int32) + ((XT.ushr p1 (6 : Int32)) &&& (1 : Int32)))), .val (.int (120 : Int32)), .unset, .unset, .unset] [])) (fun uT uK => ?_) ?_
    · show Steps p.tables e below (T.setTop (mkF m 133 #[.val (.int p1), .val (.long q2), .second, .val (.int p3), .val (.ref b), .val (.int (Int32.ofNat at')), .val (.int (Int32.ofNat (at' + S.length))), .val (.int nb), .val (.int ((1 : Int32) + ((XT.ushr p1 (6 : Int32)) &&& (1 : Int32)))), .val (.int (((XT.ushrL q2 (16 : Int32)).toInt32).toInt8.toInt32)), .unset, .unset, .unset] [(.int (10 : Int32)), (.int (((XT.ushrL q2 (16 : Int32)).toInt32).toInt8.toInt32))])) _
      refine XS.icmpYes X.here hx rfl (pc0 := 133) (pc' := 149) rfl (hb hby at_133) rfl (XT.ii_eq_t hc133) (by decide) (by decide) ?_
      show Steps p.tables e below (T.setTop (mkF m 149 #[.val (.int p1), .val (.long q2), .second, .val (.int p3), .val (.ref b), .val (.int (Int32.ofNat at')), .val (.int (Int32.ofNat (at' + S.length))), .val (.int nb), .val (.int ((1 : Int32) + ((XT.ushr p1 (6 : Int32)) &&& (1 : Int32)))), .val (.int (((XT.ushrL q2 (16 : Int32)).toInt32).toInt8.toInt32)), .unset, .unset, .unset] [])) _
      refine XS.bipush X.here hx rfl (hb hby at_149) ?_
      show Steps p.tables e below (T.setTop (mkF m 151 #[.val (.int p1), .val (.long q2), .second, .val (.int p3), .val (.ref b), .val (.int (Int32.ofNat at')), .val (.int (Int32.ofNat (at' + S.length))), .val (.int nb), .val (.int ((1 : Int32) + ((XT.ushr p1 (6 : Int32)) &&& (1 : Int32)))), .val (.int (((XT.ushrL q2 (16 : Int32)).toInt32).toInt8.toInt32)), .unset, .unset, .unset] [(.int (120 : Int32))])) _
      refine XS.istore X.here hx rfl (hb hby at_151) rfl (l' := #[.val (.int p1), .val (.long q2), .second, .val (.int p3), .val (.ref b), .val (.int (Int32.ofNat at')), .val (.int (Int32.ofNat (at' + S.length))), .val (.int nb), .val (.int ((1 : Int32) + ((XT.ushr p1 (6 : Int32)) &&& (1 : Int32)))), .val (.int (120 : Int32)), .unset, .unset, .unset]) rfl ?_
      exact uK
    exact own_t153 p1 p3 q2 b kc at' pre S h0 nb ((1 : Int32) + ((XT.ushr p1 (6 : Int32)) &&& (1 : Int32))) (120 : Int32) K X eT N Z0 g_b hat B (by decide) (by decide) (Or.inr (by decide)) hp (by omega)
  · refine own_st (T' := T) (g' := (mkF m 139 #[.val (.int p1), .val (.long q2), .second, .val (.int p3), .val (.ref b), .val (.int (Int32.ofNat at')), .val (.int (Int32.ofNat (at' + S.length))), .val (.int nb), .val (.int ((1 : Int32) + ((XT.ushr p1 (6 : Int32)) &&& (1 : Int32)))), .val (.int (((XT.ushrL q2 (16 : Int32)).toInt32).toInt8.toInt32)), .unset, .unset, .unset] [(.int (1 : Int32)), (.int ((1 : Int32) + ((XT.ushr p1 (6 : Int32)) &&& (1 : Int32))))])) (fun uT uK => ?_) ?_
    · show Steps p.tables e below (T.setTop (mkF m 133 #[.val (.int p1), .val (.long q2), .second, .val (.int p3), .val (.ref b), .val (.int (Int32.ofNat at')), .val (.int (Int32.ofNat (at' + S.length))), .val (.int nb), .val (.int ((1 : Int32) + ((XT.ushr p1 (6 : Int32)) &&& (1 : Int32)))), .val (.int (((XT.ushrL q2 (16 : Int32)).toInt32).toInt8.toInt32)), .unset, .unset, .unset] [(.int (10 : Int32)), (.int (((XT.ushrL q2 (16 : Int32)).toInt32).toInt8.toInt32))])) _
      refine XS.icmpNo X.here hx rfl (hb hby at_133) rfl (XT.ii_eq_f hc133) ?_
      show Steps p.tables e below (T.setTop (mkF m 136 #[.val (.int p1), .val (.long q2), .second, .val (.int p3), .val (.ref b), .val (.int (Int32.ofNat at')), .val (.int (Int32.ofNat (at' + S.length))), .val (.int nb), .val (.int ((1 : Int32) + ((XT.ushr p1 (6 : Int32)) &&& (1 : Int32)))), .val (.int (((XT.ushrL q2 (16 : Int32)).toInt32).toInt8.toInt32)), .unset, .unset, .unset] [])) _
      refine XS.iload X.here hx rfl (hb hby at_136) rfl ?_
      show Steps p.tables e below (T.setTop (mkF m 138 #[.val (.int p1), .val (.long q2), .second, .val (.int p3), .val (.ref b), .val (.int (Int32.ofNat at')), .val (.int (Int32.ofNat (at' + S.length))), .val (.int nb), .val (.int ((1 : Int32) + ((XT.ushr p1 (6 : Int32)) &&& (1 : Int32)))), .val (.int (((XT.ushrL q2 (16 : Int32)).toInt32).toInt8.toInt32)), .unset, .unset, .unset] [(.int ((1 : Int32) + ((XT.ushr p1 (6 : Int32)) &&& (1 : Int32))))])) _
      refine XS.iconst X.here hx rfl (hb hby at_138) ?_
      exact uK
    by_cases hc139 : ((1 : Int32) + ((XT.ushr p1 (6 : Int32)) &&& (1 : Int32))) = (1 : Int32)
    · refine own_st (T' := T) (g' := (mkF m 146 #[.val (.int p1), .val (.long q2), .second, .val (.int p3), .val (.ref b), .val (.int (Int32.ofNat at')), .val (.int (Int32.ofNat (at' + S.length))), .val (.int nb), .val (.int ((1 : Int32) + ((XT.ushr p1 (6 : Int32)) &&& (1 : Int32)))), .val (.int (((XT.ushrL q2 (16 : Int32)).toInt32).toInt8.toInt32)), .unset, .unset, .unset] [(.int (13 : Int32)), (.int (((XT.ushrL q2 (16 : Int32)).toInt32).toInt8.toInt32))])) (fun uT uK => ?_) ?_
      · show Steps p.tables e below (T.setTop (mkF m 139 #[.val (.int p1), .val (.long q2), .second, .val (.int p3), .val (.ref b), .val (.int (Int32.ofNat at')), .val (.int (Int32.ofNat (at' + S.length))), .val (.int nb), .val (.int ((1 : Int32) + ((XT.ushr p1 (6 : Int32)) &&& (1 : Int32)))), .val (.int (((XT.ushrL q2 (16 : Int32)).toInt32).toInt8.toInt32)), .unset, .unset, .unset] [(.int (1 : Int32)), (.int ((1 : Int32) + ((XT.ushr p1 (6 : Int32)) &&& (1 : Int32))))])) _
        refine XS.icmpNo X.here hx rfl (hb hby at_139) rfl (XT.ii_ne_f hc139) ?_
        show Steps p.tables e below (T.setTop (mkF m 142 #[.val (.int p1), .val (.long q2), .second, .val (.int p3), .val (.ref b), .val (.int (Int32.ofNat at')), .val (.int (Int32.ofNat (at' + S.length))), .val (.int nb), .val (.int ((1 : Int32) + ((XT.ushr p1 (6 : Int32)) &&& (1 : Int32)))), .val (.int (((XT.ushrL q2 (16 : Int32)).toInt32).toInt8.toInt32)), .unset, .unset, .unset] [])) _
        refine XS.iload X.here hx rfl (hb hby at_142) rfl ?_
        show Steps p.tables e below (T.setTop (mkF m 144 #[.val (.int p1), .val (.long q2), .second, .val (.int p3), .val (.ref b), .val (.int (Int32.ofNat at')), .val (.int (Int32.ofNat (at' + S.length))), .val (.int nb), .val (.int ((1 : Int32) + ((XT.ushr p1 (6 : Int32)) &&& (1 : Int32)))), .val (.int (((XT.ushrL q2 (16 : Int32)).toInt32).toInt8.toInt32)), .unset, .unset, .unset] [(.int (((XT.ushrL q2 (16 : Int32)).toInt32).toInt8.toInt32))])) _
        refine XS.bipush X.here hx rfl (hb hby at_144) ?_
        exact uK
      by_cases hc146 : (((XT.ushrL q2 (16 : Int32)).toInt32).toInt8.toInt32) = (13 : Int32)
      · refine own_st (T' := T) (g' := (mkF m 153 #[.val (.int p1), .val (.long q2), .second, .val (.int p3), .val (.ref b), .val (.int (Int32.ofNat at')), .val (.int (Int32.ofNat (at' + S.length))), .val (.int nb), .val (.int ((1 : Int32) + ((XT.ushr p1 (6 : Int32)) &&& (1 : Int32)))), .val (.int (120 : Int32)), .unset, .unset, .unset] [])) (fun uT uK => ?_) ?_
        · show Steps p.tables e below (T.setTop (mkF m 146 #[.val (.int p1), .val (.long q2), .second, .val (.int p3), .val (.ref b), .val (.int (Int32.ofNat at')), .val (.int (Int32.ofNat (at' + S.length))), .val (.int nb), .val (.int ((1 : Int32) + ((XT.ushr p1 (6 : Int32)) &&& (1 : Int32)))), .val (.int (((XT.ushrL q2 (16 : Int32)).toInt32).toInt8.toInt32)), .unset, .unset, .unset] [(.int (13 : Int32)), (.int (((XT.ushrL q2 (16 : Int32)).toInt32).toInt8.toInt32))])) _
          refine XS.icmpNo X.here hx rfl (hb hby at_146) rfl (XT.ii_ne_f hc146) ?_
          show Steps p.tables e below (T.setTop (mkF m 149 #[.val (.int p1), .val (.long q2), .second, .val (.int p3), .val (.ref b), .val (.int (Int32.ofNat at')), .val (.int (Int32.ofNat (at' + S.length))), .val (.int nb), .val (.int ((1 : Int32) + ((XT.ushr p1 (6 : Int32)) &&& (1 : Int32)))), .val (.int (((XT.ushrL q2 (16 : Int32)).toInt32).toInt8.toInt32)), .unset, .unset, .unset] [])) _
          refine XS.bipush X.here hx rfl (hb hby at_149) ?_
          show Steps p.tables e below (T.setTop (mkF m 151 #[.val (.int p1), .val (.long q2), .second, .val (.int p3), .val (.ref b), .val (.int (Int32.ofNat at')), .val (.int (Int32.ofNat (at' + S.length))), .val (.int nb), .val (.int ((1 : Int32) + ((XT.ushr p1 (6 : Int32)) &&& (1 : Int32)))), .val (.int (((XT.ushrL q2 (16 : Int32)).toInt32).toInt8.toInt32)), .unset, .unset, .unset] [(.int (120 : Int32))])) _
          refine XS.istore X.here hx rfl (hb hby at_151) rfl (l' := #[.val (.int p1), .val (.long q2), .second, .val (.int p3), .val (.ref b), .val (.int (Int32.ofNat at')), .val (.int (Int32.ofNat (at' + S.length))), .val (.int nb), .val (.int ((1 : Int32) + ((XT.ushr p1 (6 : Int32)) &&& (1 : Int32)))), .val (.int (120 : Int32)), .unset, .unset, .unset]) rfl ?_
          exact uK
        exact own_t153 p1 p3 q2 b kc at' pre S h0 nb ((1 : Int32) + ((XT.ushr p1 (6 : Int32)) &&& (1 : Int32))) (120 : Int32) K X eT N Z0 g_b hat B (by decide) (by decide) (Or.inr (by decide)) hp (by omega)
      · refine own_st (T' := T) (g' := (mkF m 153 #[.val (.int p1), .val (.long q2), .second, .val (.int p3), .val (.ref b), .val (.int (Int32.ofNat at')), .val (.int (Int32.ofNat (at' + S.length))), .val (.int nb), .val (.int ((1 : Int32) + ((XT.ushr p1 (6 : Int32)) &&& (1 : Int32)))), .val (.int (((XT.ushrL q2 (16 : Int32)).toInt32).toInt8.toInt32)), .unset, .unset, .unset] [])) (fun uT uK => ?_) ?_
        · show Steps p.tables e below (T.setTop (mkF m 146 #[.val (.int p1), .val (.long q2), .second, .val (.int p3), .val (.ref b), .val (.int (Int32.ofNat at')), .val (.int (Int32.ofNat (at' + S.length))), .val (.int nb), .val (.int ((1 : Int32) + ((XT.ushr p1 (6 : Int32)) &&& (1 : Int32)))), .val (.int (((XT.ushrL q2 (16 : Int32)).toInt32).toInt8.toInt32)), .unset, .unset, .unset] [(.int (13 : Int32)), (.int (((XT.ushrL q2 (16 : Int32)).toInt32).toInt8.toInt32))])) _
          refine XS.icmpYes X.here hx rfl (pc0 := 146) (pc' := 153) rfl (hb hby at_146) rfl (XT.ii_ne_t hc146) (by decide) (by decide) ?_
          exact uK
        exact own_t153 p1 p3 q2 b kc at' pre S h0 nb ((1 : Int32) + ((XT.ushr p1 (6 : Int32)) &&& (1 : Int32))) (((XT.ushrL q2 (16 : Int32)).toInt32).toInt8.toInt32) K X eT N Z0 g_b hat B (own_nb _) hc133 (by first | exact Or.inr hc146 | exact Or.inl ((own_len p1).resolve_left hc139)) hp (by omega)
    · refine own_st (T' := T) (g' := (mkF m 153 #[.val (.int p1), .val (.long q2), .second, .val (.int p3), .val (.ref b), .val (.int (Int32.ofNat at')), .val (.int (Int32.ofNat (at' + S.length))), .val (.int nb), .val (.int ((1 : Int32) + ((XT.ushr p1 (6 : Int32)) &&& (1 : Int32)))), .val (.int (((XT.ushrL q2 (16 : Int32)).toInt32).toInt8.toInt32)), .unset, .unset, .unset] [])) (fun uT uK => ?_) ?_
      · show Steps p.tables e below (T.setTop (mkF m 139 #[.val (.int p1), .val (.long q2), .second, .val (.int p3), .val (.ref b), .val (.int (Int32.ofNat at')), .val (.int (Int32.ofNat (at' + S.length))), .val (.int nb), .val (.int ((1 : Int32) + ((XT.ushr p1 (6 : Int32)) &&& (1 : Int32)))), .val (.int (((XT.ushrL q2 (16 : Int32)).toInt32).toInt8.toInt32)), .unset, .unset, .unset] [(.int (1 : Int32)), (.int ((1 : Int32) + ((XT.ushr p1 (6 : Int32)) &&& (1 : Int32))))])) _
        refine XS.icmpYes X.here hx rfl (pc0 := 139) (pc' := 153) rfl (hb hby at_139) rfl (XT.ii_ne_t hc139) (by decide) (by decide) ?_
        exact uK
      exact own_t153 p1 p3 q2 b kc at' pre S h0 nb ((1 : Int32) + ((XT.ushr p1 (6 : Int32)) &&& (1 : Int32))) (((XT.ushrL q2 (16 : Int32)).toInt32).toInt8.toInt32) K X eT N Z0 g_b hat B (own_nb _) hc133 (by first | exact Or.inr hc146 | exact Or.inl ((own_len p1).resolve_left hc139)) hp (by omega)
set_option maxRecDepth 65536 in
set_option maxHeartbeats 40000000 in
theorem own_t101 {p : Program} {l : Launch} {e : Env} {s : State} {m : MethodId} {args : Array Value} {below : List Frame} {meth : Method} {c : Code} {T : State} {locs : List Loc} {Z : State} {a0 : Array Value} {h : Heap} {n0 : Nat} (p1 p3 : Int32) (q2 : Int64) (b : Addr) (kc : ClassId) (at' : Nat) (pre S : List Int32) (h0 : Heap) (nb : Int32) (q : Nat)
    (K : Ctx0 p s m meth c Z a0) (X : Stand p l e room_1 s m args below meth c T locs 1 16) (eT : T.heap = h) (N : Fr n0 locs) (Z0 : n0 ≤ h.size) (g_b : n0 ≤ b) (hat : at' ≤ 2) (B : own_buf Z h b kc at' pre S) (hp : own_pass S q false) (hq : q < 2) (hbd : at' + S.length ≤ 5) :
    OwnGo p e below s room_1.cells room_1.slots (Q0 Z p1 q2 p3 h0 n0) T (mkF m 101 #[.val (.int p1), .val (.long q2), .second, .val (.int p3), .val (.ref b), .val (.int (Int32.ofNat at')), .val (.int (Int32.ofNat (at' + S.length))), .val (.int nb), .unset, .unset, .unset, .unset, .unset] []) := by
  obtain ⟨hx, hZ, hw, hby, hml, hown, hret, hlk, hnm⟩ := id K
  refine own_st (T' := T) (g' := (mkF m 110 #[.val (.int p1), .val (.long q2), .second, .val (.int p3), .val (.ref b), .val (.int (Int32.ofNat at')), .val (.int ((Int32.ofNat (at' + S.length)) + (1 : Int32))), .val (.int nb), .unset, .unset, .unset, .unset, .unset] [(.int (10 : Int32)), (.int (Int32.ofNat (at' + S.length))), (.ref b)])) (fun uT uK => ?_) ?_
  · show Steps p.tables e below (T.setTop (mkF m 101 #[.val (.int p1), .val (.long q2), .second, .val (.int p3), .val (.ref b), .val (.int (Int32.ofNat at')), .val (.int (Int32.ofNat (at' + S.length))), .val (.int nb), .unset, .unset, .unset, .unset, .unset] [])) _
    refine XS.aload X.here hx rfl (hb hby at_101) rfl rfl ?_
    show Steps p.tables e below (T.setTop (mkF m 103 #[.val (.int p1), .val (.long q2), .second, .val (.int p3), .val (.ref b), .val (.int (Int32.ofNat at')), .val (.int (Int32.ofNat (at' + S.length))), .val (.int nb), .unset, .unset, .unset, .unset, .unset] [(.ref b)])) _
    refine XS.iload X.here hx rfl (hb hby at_103) rfl ?_
    show Steps p.tables e below (T.setTop (mkF m 105 #[.val (.int p1), .val (.long q2), .second, .val (.int p3), .val (.ref b), .val (.int (Int32.ofNat at')), .val (.int (Int32.ofNat (at' + S.length))), .val (.int nb), .unset, .unset, .unset, .unset, .unset] [(.int (Int32.ofNat (at' + S.length))), (.ref b)])) _
    refine XS.iinc X.here hx rfl (hb hby at_105) rfl (l' := #[.val (.int p1), .val (.long q2), .second, .val (.int p3), .val (.ref b), .val (.int (Int32.ofNat at')), .val (.int ((Int32.ofNat (at' + S.length)) + (1 : Int32))), .val (.int nb), .unset, .unset, .unset, .unset, .unset]) rfl ?_
    show Steps p.tables e below (T.setTop (mkF m 108 #[.val (.int p1), .val (.long q2), .second, .val (.int p3), .val (.ref b), .val (.int (Int32.ofNat at')), .val (.int ((Int32.ofNat (at' + S.length)) + (1 : Int32))), .val (.int nb), .unset, .unset, .unset, .unset, .unset] [(.int (Int32.ofNat (at' + S.length))), (.ref b)])) _
    refine XS.bipush X.here hx rfl (hb hby at_108) ?_
    exact uK
  obtain ⟨T1, h1, locs1, X1, e1, B1, N1, zz1, st1⟩ := own_stB X hx hZ eT B (by omega) (y := 10) (by decide) N g_b (g := (mkF m 110 #[.val (.int p1), .val (.long q2), .second, .val (.int p3), .val (.ref b), .val (.int (Int32.ofNat at')), .val (.int ((Int32.ofNat (at' + S.length)) + (1 : Int32))), .val (.int nb), .unset, .unset, .unset, .unset, .unset] [(.int (10 : Int32)), (.int (Int32.ofNat (at' + S.length))), (.ref b)])) rfl rfl (hb hby at_110)
  have Z1 : n0 ≤ h1.size := Nat.le_trans Z0 zz1
  refine own_st st1 ?_
  show OwnGo p e below s _ _ _ T1 (mkF m 111 #[.val (.int p1), .val (.long q2), .second, .val (.int p3), .val (.ref b), .val (.int (Int32.ofNat at')), .val (.int ((Int32.ofNat (at' + S.length)) + (1 : Int32))), .val (.int nb), .unset, .unset, .unset, .unset, .unset] [])
  rw [own_next at' S 10]
  show OwnGo p e below s _ _ _ T1 (mkF m 111 #[.val (.int p1), .val (.long q2), .second, .val (.int p3), .val (.ref b), .val (.int (Int32.ofNat at')), .val (.int (Int32.ofNat (at' + (S ++ [10]).length))), .val (.int nb), .unset, .unset, .unset, .unset, .unset] [])
  exact own_t111 p1 p3 q2 b kc at' pre (S ++ [10]) h0 nb K X1 e1 N1 Z1 g_b hat B1 (own_pass_blank hp hq) (by simp only [own_len1]; omega)
set_option maxRecDepth 65536 in
set_option maxHeartbeats 40000000 in
theorem own_t77 {p : Program} {l : Launch} {e : Env} {s : State} {m : MethodId} {args : Array Value} {below : List Frame} {meth : Method} {c : Code} {T : State} {locs : List Loc} {Z : State} {a0 : Array Value} {h : Heap} {n0 : Nat} (p1 p3 : Int32) (q2 : Int64) (b : Addr) (kc : ClassId) (at' : Nat) (pre S : List Int32) (h0 : Heap) (nb : Int32)
    (K : Ctx0 p s m meth c Z a0) (X : Stand p l e room_1 s m args below meth c T locs 1 16) (eT : T.heap = h) (N : Fr n0 locs) (Z0 : n0 ≤ h.size) (g_b : n0 ≤ b) (hat : at' ≤ 2) (B : own_buf Z h b kc at' pre S) (hp : own_pass S 0 false) (hbd : at' + S.length ≤ 4) :
    OwnGo p e below s room_1.cells room_1.slots (Q0 Z p1 q2 p3 h0 n0) T (mkF m 77 #[.val (.int p1), .val (.long q2), .second, .val (.int p3), .val (.ref b), .val (.int (Int32.ofNat at')), .val (.int (Int32.ofNat (at' + S.length))), .val (.int nb), .unset, .unset, .unset, .unset, .unset] []) := by
  obtain ⟨hx, hZ, hw, hby, hml, hown, hret, hlk, hnm⟩ := id K
  refine own_st (T' := T) (g' := (mkF m 80 #[.val (.int p1), .val (.long q2), .second, .val (.int p3), .val (.ref b), .val (.int (Int32.ofNat at')), .val (.int (Int32.ofNat (at' + S.length))), .val (.int nb), .unset, .unset, .unset, .unset, .unset] [(.int (2 : Int32)), (.int nb)])) (fun uT uK => ?_) ?_
  · show Steps p.tables e below (T.setTop (mkF m 77 #[.val (.int p1), .val (.long q2), .second, .val (.int p3), .val (.ref b), .val (.int (Int32.ofNat at')), .val (.int (Int32.ofNat (at' + S.length))), .val (.int nb), .unset, .unset, .unset, .unset, .unset] [])) _
    refine XS.iload X.here hx rfl (hb hby at_77) rfl ?_
    show Steps p.tables e below (T.setTop (mkF m 79 #[.val (.int p1), .val (.long q2), .second, .val (.int p3), .val (.ref b), .val (.int (Int32.ofNat at')), .val (.int (Int32.ofNat (at' + S.length))), .val (.int nb), .unset, .unset, .unset, .unset, .unset] [(.int nb)])) _
    refine XS.iconst X.here hx rfl (hb hby at_79) ?_
    exact uK
  by_cases hc80 : nb < (2 : Int32)
  · refine own_st (T' := T) (g' := (mkF m 111 #[.val (.int p1), .val (.long q2), .second, .val (.int p3), .val (.ref b), .val (.int (Int32.ofNat at')), .val (.int (Int32.ofNat (at' + S.length))), .val (.int nb), .unset, .unset, .unset, .unset, .unset] [])) (fun uT uK => ?_) ?_
    · show Steps p.tables e below (T.setTop (mkF m 80 #[.val (.int p1), .val (.long q2), .second, .val (.int p3), .val (.ref b), .val (.int (Int32.ofNat at')), .val (.int (Int32.ofNat (at' + S.length))), .val (.int nb), .unset, .unset, .unset, .unset, .unset] [(.int (2 : Int32)), (.int nb)])) _
      refine XS.icmpYes X.here hx rfl (pc0 := 80) (pc' := 111) rfl (hb hby at_80) rfl (XT.ii_lt_t hc80) (by decide) (by decide) ?_
      exact uK
    exact own_t111 p1 p3 q2 b kc at' pre S h0 nb K X eT N Z0 g_b hat B hp (by omega)
  · refine own_st (T' := T) (g' := (mkF m 88 #[.val (.int p1), .val (.long q2), .second, .val (.int p3), .val (.ref b), .val (.int (Int32.ofNat at')), .val (.int (Int32.ofNat (at' + S.length))), .val (.int nb), .unset, .unset, .unset, .unset, .unset] [(.int ((XT.ushr p1 (5 : Int32)) &&& (1 : Int32)))])) (fun uT uK => ?_) ?_
    · show Steps p.tables e below (T.setTop (mkF m 80 #[.val (.int p1), .val (.long q2), .second, .val (.int p3), .val (.ref b), .val (.int (Int32.ofNat at')), .val (.int (Int32.ofNat (at' + S.length))), .val (.int nb), .unset, .unset, .unset, .unset, .unset] [(.int (2 : Int32)), (.int nb)])) _
      refine XS.icmpNo X.here hx rfl (hb hby at_80) rfl (XT.ii_lt_f hc80) ?_
      show Steps p.tables e below (T.setTop (mkF m 83 #[.val (.int p1), .val (.long q2), .second, .val (.int p3), .val (.ref b), .val (.int (Int32.ofNat at')), .val (.int (Int32.ofNat (at' + S.length))), .val (.int nb), .unset, .unset, .unset, .unset, .unset] [])) _
      refine XS.iloadN X.here hx rfl (hb hby at_83) rfl ?_
      show Steps p.tables e below (T.setTop (mkF m 84 #[.val (.int p1), .val (.long q2), .second, .val (.int p3), .val (.ref b), .val (.int (Int32.ofNat at')), .val (.int (Int32.ofNat (at' + S.length))), .val (.int nb), .unset, .unset, .unset, .unset, .unset] [(.int p1)])) _
      refine XS.iconst X.here hx rfl (hb hby at_84) ?_
      show Steps p.tables e below (T.setTop (mkF m 85 #[.val (.int p1), .val (.long q2), .second, .val (.int p3), .val (.ref b), .val (.int (Int32.ofNat at')), .val (.int (Int32.ofNat (at' + S.length))), .val (.int nb), .unset, .unset, .unset, .unset, .unset] [(.int (5 : Int32)), (.int p1)])) _
      refine XT.iushr X.here hx rfl (hb hby at_85) rfl ?_
      show Steps p.tables e below (T.setTop (mkF m 86 #[.val (.int p1), .val (.long q2), .second, .val (.int p3), .val (.ref b), .val (.int (Int32.ofNat at')), .val (.int (Int32.ofNat (at' + S.length))), .val (.int nb), .unset, .unset, .unset, .unset, .unset] [(.int (XT.ushr p1 (5 : Int32)))])) _
      refine XS.iconst X.here hx rfl (hb hby at_86) ?_
      show Steps p.tables e below (T.setTop (mkF m 87 #[.val (.int p1), .val (.long q2), .second, .val (.int p3), .val (.ref b), .val (.int (Int32.ofNat at')), .val (.int (Int32.ofNat (at' + S.length))), .val (.int nb), .unset, .unset, .unset, .unset, .unset] [(.int (1 : Int32)), (.int (XT.ushr p1 (5 : Int32)))])) _
      refine XS.iand X.here hx rfl (hb hby at_87) rfl ?_
      exact uK
    by_cases hc88 : ((XT.ushr p1 (5 : Int32)) &&& (1 : Int32)) = (0 : Int32)
    · refine own_st (T' := T) (g' := (mkF m 101 #[.val (.int p1), .val (.long q2), .second, .val (.int p3), .val (.ref b), .val (.int (Int32.ofNat at')), .val (.int (Int32.ofNat (at' + S.length))), .val (.int nb), .unset, .unset, .unset, .unset, .unset] [])) (fun uT uK => ?_) ?_
      · show Steps p.tables e below (T.setTop (mkF m 88 #[.val (.int p1), .val (.long q2), .second, .val (.int p3), .val (.ref b), .val (.int (Int32.ofNat at')), .val (.int (Int32.ofNat (at' + S.length))), .val (.int nb), .unset, .unset, .unset, .unset, .unset] [(.int ((XT.ushr p1 (5 : Int32)) &&& (1 : Int32)))])) _
        refine XS.ifYes X.here hx rfl (pc0 := 88) (pc' := 101) rfl (hb hby at_88) rfl (XT.i0_eq_t hc88) (by decide) (by decide) ?_
        exact uK
      exact own_t101 p1 p3 q2 b kc at' pre S h0 nb 0 K X eT N Z0 g_b hat B hp (by decide) (by omega)
    · refine own_st (T' := T) (g' := (mkF m 100 #[.val (.int p1), .val (.long q2), .second, .val (.int p3), .val (.ref b), .val (.int (Int32.ofNat at')), .val (.int ((Int32.ofNat (at' + S.length)) + (1 : Int32))), .val (.int nb), .unset, .unset, .unset, .unset, .unset] [(.int (13 : Int32)), (.int (Int32.ofNat (at' + S.length))), (.ref b)])) (fun uT uK => ?_) ?_
      · show Steps p.tables e below (T.setTop (mkF m 88 #[.val (.int p1), .val (.long q2), .second, .val (.int p3), .val (.ref b), .val (.int (Int32.ofNat at')), .val (.int (Int32.ofNat (at' + S.length))), .val (.int nb), .unset, .unset, .unset, .unset, .unset] [(.int ((XT.ushr p1 (5 : Int32)) &&& (1 : Int32)))])) _
        refine XS.ifNo X.here hx rfl (hb hby at_88) rfl (XT.i0_eq_f hc88) ?_
        show Steps p.tables e below (T.setTop (mkF m 91 #[.val (.int p1), .val (.long q2), .second, .val (.int p3), .val (.ref b), .val (.int (Int32.ofNat at')), .val (.int (Int32.ofNat (at' + S.length))), .val (.int nb), .unset, .unset, .unset, .unset, .unset] [])) _
        refine XS.aload X.here hx rfl (hb hby at_91) rfl rfl ?_
        show Steps p.tables e below (T.setTop (mkF m 93 #[.val (.int p1), .val (.long q2), .second, .val (.int p3), .val (.ref b), .val (.int (Int32.ofNat at')), .val (.int (Int32.ofNat (at' + S.length))), .val (.int nb), .unset, .unset, .unset, .unset, .unset] [(.ref b)])) _
        refine XS.iload X.here hx rfl (hb hby at_93) rfl ?_
        show Steps p.tables e below (T.setTop (mkF m 95 #[.val (.int p1), .val (.long q2), .second, .val (.int p3), .val (.ref b), .val (.int (Int32.ofNat at')), .val (.int (Int32.ofNat (at' + S.length))), .val (.int nb), .unset, .unset, .unset, .unset, .unset] [(.int (Int32.ofNat (at' + S.length))), (.ref b)])) _
        refine XS.iinc X.here hx rfl (hb hby at_95) rfl (l' := #[.val (.int p1), .val (.long q2), .second, .val (.int p3), .val (.ref b), .val (.int (Int32.ofNat at')), .val (.int ((Int32.ofNat (at' + S.length)) + (1 : Int32))), .val (.int nb), .unset, .unset, .unset, .unset, .unset]) rfl ?_
        show Steps p.tables e below (T.setTop (mkF m 98 #[.val (.int p1), .val (.long q2), .second, .val (.int p3), .val (.ref b), .val (.int (Int32.ofNat at')), .val (.int ((Int32.ofNat (at' + S.length)) + (1 : Int32))), .val (.int nb), .unset, .unset, .unset, .unset, .unset] [(.int (Int32.ofNat (at' + S.length))), (.ref b)])) _
        refine XS.bipush X.here hx rfl (hb hby at_98) ?_
        exact uK
      obtain ⟨T1, h1, locs1, X1, e1, B1, N1, zz1, st1⟩ := own_stB X hx hZ eT B (by omega) (y := 13) (by decide) N g_b (g := (mkF m 100 #[.val (.int p1), .val (.long q2), .second, .val (.int p3), .val (.ref b), .val (.int (Int32.ofNat at')), .val (.int ((Int32.ofNat (at' + S.length)) + (1 : Int32))), .val (.int nb), .unset, .unset, .unset, .unset, .unset] [(.int (13 : Int32)), (.int (Int32.ofNat (at' + S.length))), (.ref b)])) rfl rfl (hb hby at_100)
      have Z1 : n0 ≤ h1.size := Nat.le_trans Z0 zz1
      refine own_st st1 ?_
      show OwnGo p e below s _ _ _ T1 (mkF m 101 #[.val (.int p1), .val (.long q2), .second, .val (.int p3), .val (.ref b), .val (.int (Int32.ofNat at')), .val (.int ((Int32.ofNat (at' + S.length)) + (1 : Int32))), .val (.int nb), .unset, .unset, .unset, .unset, .unset] [])
      rw [own_next at' S 13]
      show OwnGo p e below s _ _ _ T1 (mkF m 101 #[.val (.int p1), .val (.long q2), .second, .val (.int p3), .val (.ref b), .val (.int (Int32.ofNat at')), .val (.int (Int32.ofNat (at' + (S ++ [13]).length))), .val (.int nb), .unset, .unset, .unset, .unset, .unset] [])
      exact own_t101 p1 p3 q2 b kc at' pre (S ++ [13]) h0 nb 1 K X1 e1 N1 Z1 g_b hat B1 (own_pass_cr0 hp) (by decide) (by simp only [own_len1]; omega)
set_option maxRecDepth 65536 in
set_option maxHeartbeats 40000000 in
theorem own_t67 {p : Program} {l : Launch} {e : Env} {s : State} {m : MethodId} {args : Array Value} {below : List Frame} {meth : Method} {c : Code} {T : State} {locs : List Loc} {Z : State} {a0 : Array Value} {h : Heap} {n0 : Nat} (p1 p3 : Int32) (q2 : Int64) (b : Addr) (kc : ClassId) (at' : Nat) (pre S : List Int32) (h0 : Heap) (nb : Int32) (q : Nat)
    (K : Ctx0 p s m meth c Z a0) (X : Stand p l e room_1 s m args below meth c T locs 1 16) (eT : T.heap = h) (N : Fr n0 locs) (Z0 : n0 ≤ h.size) (g_b : n0 ≤ b) (hat : at' ≤ 2) (B : own_buf Z h b kc at' pre S) (hp : own_pass S q false) (hq : q < 2) (hbd : at' + S.length ≤ 3) :
    OwnGo p e below s room_1.cells room_1.slots (Q0 Z p1 q2 p3 h0 n0) T (mkF m 67 #[.val (.int p1), .val (.long q2), .second, .val (.int p3), .val (.ref b), .val (.int (Int32.ofNat at')), .val (.int (Int32.ofNat (at' + S.length))), .val (.int nb), .unset, .unset, .unset, .unset, .unset] []) := by
  obtain ⟨hx, hZ, hw, hby, hml, hown, hret, hlk, hnm⟩ := id K
  refine own_st (T' := T) (g' := (mkF m 76 #[.val (.int p1), .val (.long q2), .second, .val (.int p3), .val (.ref b), .val (.int (Int32.ofNat at')), .val (.int ((Int32.ofNat (at' + S.length)) + (1 : Int32))), .val (.int nb), .unset, .unset, .unset, .unset, .unset] [(.int (10 : Int32)), (.int (Int32.ofNat (at' + S.length))), (.ref b)])) (fun uT uK => ?_) ?_
  · show Steps p.tables e below (T.setTop (mkF m 67 #[.val (.int p1), .val (.long q2), .second, .val (.int p3), .val (.ref b), .val (.int (Int32.ofNat at')), .val (.int (Int32.ofNat (at' + S.length))), .val (.int nb), .unset, .unset, .unset, .unset, .unset] [])) _
    refine XS.aload X.here hx rfl (hb hby at_67) rfl rfl ?_
    show Steps p.tables e below (T.setTop (mkF m 69 #[.val (.int p1), .val (.long q2), .second, .val (.int p3), .val (.ref b), .val (.int (Int32.ofNat at')), .val (.int (Int32.ofNat (at' + S.length))), .val (.int nb), .unset, .unset, .unset, .unset, .unset] [(.ref b)])) _
    refine XS.iload X.here hx rfl (hb hby at_69) rfl ?_
    show Steps p.tables e below (T.setTop (mkF m 71 #[.val (.int p1), .val (.long q2), .second, .val (.int p3), .val (.ref b), .val (.int (Int32.ofNat at')), .val (.int (Int32.ofNat (at' + S.length))), .val (.int nb), .unset, .unset, .unset, .unset, .unset] [(.int (Int32.ofNat (at' + S.length))), (.ref b)])) _
    refine XS.iinc X.here hx rfl (hb hby at_71) rfl (l' := #[.val (.int p1), .val (.long q2), .second, .val (.int p3), .val (.ref b), .val (.int (Int32.ofNat at')), .val (.int ((Int32.ofNat (at' + S.length)) + (1 : Int32))), .val (.int nb), .unset, .unset, .unset, .unset, .unset]) rfl ?_
    show Steps p.tables e below (T.setTop (mkF m 74 #[.val (.int p1), .val (.long q2), .second, .val (.int p3), .val (.ref b), .val (.int (Int32.ofNat at')), .val (.int ((Int32.ofNat (at' + S.length)) + (1 : Int32))), .val (.int nb), .unset, .unset, .unset, .unset, .unset] [(.int (Int32.ofNat (at' + S.length))), (.ref b)])) _
    refine XS.bipush X.here hx rfl (hb hby at_74) ?_
    exact uK
  obtain ⟨T1, h1, locs1, X1, e1, B1, N1, zz1, st1⟩ := own_stB X hx hZ eT B (by omega) (y := 10) (by decide) N g_b (g := (mkF m 76 #[.val (.int p1), .val (.long q2), .second, .val (.int p3), .val (.ref b), .val (.int (Int32.ofNat at')), .val (.int ((Int32.ofNat (at' + S.length)) + (1 : Int32))), .val (.int nb), .unset, .unset, .unset, .unset, .unset] [(.int (10 : Int32)), (.int (Int32.ofNat (at' + S.length))), (.ref b)])) rfl rfl (hb hby at_76)
  have Z1 : n0 ≤ h1.size := Nat.le_trans Z0 zz1
  refine own_st st1 ?_
  show OwnGo p e below s _ _ _ T1 (mkF m 77 #[.val (.int p1), .val (.long q2), .second, .val (.int p3), .val (.ref b), .val (.int (Int32.ofNat at')), .val (.int ((Int32.ofNat (at' + S.length)) + (1 : Int32))), .val (.int nb), .unset, .unset, .unset, .unset, .unset] [])
  rw [own_next at' S 10]
  show OwnGo p e below s _ _ _ T1 (mkF m 77 #[.val (.int p1), .val (.long q2), .second, .val (.int p3), .val (.ref b), .val (.int (Int32.ofNat at')), .val (.int (Int32.ofNat (at' + (S ++ [10]).length))), .val (.int nb), .unset, .unset, .unset, .unset, .unset] [])
  exact own_t77 p1 p3 q2 b kc at' pre (S ++ [10]) h0 nb K X1 e1 N1 Z1 g_b hat B1 (own_pass_blank hp hq) (by simp only [own_len1]; omega)
set_option maxRecDepth 65536 in
set_option maxHeartbeats 40000000 in
theorem own_t43 {p : Program} {l : Launch} {e : Env} {s : State} {m : MethodId} {args : Array Value} {below : List Frame} {meth : Method} {c : Code} {T : State} {locs : List Loc} {Z : State} {a0 : Array Value} {h : Heap} {n0 : Nat} (p1 p3 : Int32) (q2 : Int64) (b : Addr) (kc : ClassId) (at' : Nat) (pre S : List Int32) (h0 : Heap) (nb : Int32)
    (K : Ctx0 p s m meth c Z a0) (X : Stand p l e room_1 s m args below meth c T locs 1 16) (eT : T.heap = h) (N : Fr n0 locs) (Z0 : n0 ≤ h.size) (g_b : n0 ≤ b) (hat : at' ≤ 2) (B : own_buf Z h b kc at' pre S) (hp : own_pass S 0 false) (hbd : at' + S.length ≤ 2) :
    OwnGo p e below s room_1.cells room_1.slots (Q0 Z p1 q2 p3 h0 n0) T (mkF m 43 #[.val (.int p1), .val (.long q2), .second, .val (.int p3), .val (.ref b), .val (.int (Int32.ofNat at')), .val (.int (Int32.ofNat (at' + S.length))), .val (.int nb), .unset, .unset, .unset, .unset, .unset] []) := by
  obtain ⟨hx, hZ, hw, hby, hml, hown, hret, hlk, hnm⟩ := id K
  refine own_st (T' := T) (g' := (mkF m 46 #[.val (.int p1), .val (.long q2), .second, .val (.int p3), .val (.ref b), .val (.int (Int32.ofNat at')), .val (.int (Int32.ofNat (at' + S.length))), .val (.int nb), .unset, .unset, .unset, .unset, .unset] [(.int (1 : Int32)), (.int nb)])) (fun uT uK => ?_) ?_
  · show Steps p.tables e below (T.setTop (mkF m 43 #[.val (.int p1), .val (.long q2), .second, .val (.int p3), .val (.ref b), .val (.int (Int32.ofNat at')), .val (.int (Int32.ofNat (at' + S.length))), .val (.int nb), .unset, .unset, .unset, .unset, .unset] [])) _
    refine XS.iload X.here hx rfl (hb hby at_43) rfl ?_
    show Steps p.tables e below (T.setTop (mkF m 45 #[.val (.int p1), .val (.long q2), .second, .val (.int p3), .val (.ref b), .val (.int (Int32.ofNat at')), .val (.int (Int32.ofNat (at' + S.length))), .val (.int nb), .unset, .unset, .unset, .unset, .unset] [(.int nb)])) _
    refine XS.iconst X.here hx rfl (hb hby at_45) ?_
    exact uK
  by_cases hc46 : nb < (1 : Int32)
  · refine own_st (T' := T) (g' := (mkF m 77 #[.val (.int p1), .val (.long q2), .second, .val (.int p3), .val (.ref b), .val (.int (Int32.ofNat at')), .val (.int (Int32.ofNat (at' + S.length))), .val (.int nb), .unset, .unset, .unset, .unset, .unset] [])) (fun uT uK => ?_) ?_
    · show Steps p.tables e below (T.setTop (mkF m 46 #[.val (.int p1), .val (.long q2), .second, .val (.int p3), .val (.ref b), .val (.int (Int32.ofNat at')), .val (.int (Int32.ofNat (at' + S.length))), .val (.int nb), .unset, .unset, .unset, .unset, .unset] [(.int (1 : Int32)), (.int nb)])) _
      refine XS.icmpYes X.here hx rfl (pc0 := 46) (pc' := 77) rfl (hb hby at_46) rfl (XT.ii_lt_t hc46) (by decide) (by decide) ?_
      exact uK
    exact own_t77 p1 p3 q2 b kc at' pre S h0 nb K X eT N Z0 g_b hat B hp (by omega)
  · refine own_st (T' := T) (g' := (mkF m 54 #[.val (.int p1), .val (.long q2), .second, .val (.int p3), .val (.ref b), .val (.int (Int32.ofNat at')), .val (.int (Int32.ofNat (at' + S.length))), .val (.int nb), .unset, .unset, .unset, .unset, .unset] [(.int ((XT.ushr p1 (4 : Int32)) &&& (1 : Int32)))])) (fun uT uK => ?_) ?_
    · show Steps p.tables e below (T.setTop (mkF m 46 #[.val (.int p1), .val (.long q2), .second, .val (.int p3), .val (.ref b), .val (.int (Int32.ofNat at')), .val (.int (Int32.ofNat (at' + S.length))), .val (.int nb), .unset, .unset, .unset, .unset, .unset] [(.int (1 : Int32)), (.int nb)])) _
      refine XS.icmpNo X.here hx rfl (hb hby at_46) rfl (XT.ii_lt_f hc46) ?_
      show Steps p.tables e below (T.setTop (mkF m 49 #[.val (.int p1), .val (.long q2), .second, .val (.int p3), .val (.ref b), .val (.int (Int32.ofNat at')), .val (.int (Int32.ofNat (at' + S.length))), .val (.int nb), .unset, .unset, .unset, .unset, .unset] [])) _
      refine XS.iloadN X.here hx rfl (hb hby at_49) rfl ?_
      show Steps p.tables e below (T.setTop (mkF m 50 #[.val (.int p1), .val (.long q2), .second, .val (.int p3), .val (.ref b), .val (.int (Int32.ofNat at')), .val (.int (Int32.ofNat (at' + S.length))), .val (.int nb), .unset, .unset, .unset, .unset, .unset] [(.int p1)])) _
      refine XS.iconst X.here hx rfl (hb hby at_50) ?_
      show Steps p.tables e below (T.setTop (mkF m 51 #[.val (.int p1), .val (.long q2), .second, .val (.int p3), .val (.ref b), .val (.int (Int32.ofNat at')), .val (.int (Int32.ofNat (at' + S.length))), .val (.int nb), .unset, .unset, .unset, .unset, .unset] [(.int (4 : Int32)), (.int p1)])) _
      refine XT.iushr X.here hx rfl (hb hby at_51) rfl ?_
      show Steps p.tables e below (T.setTop (mkF m 52 #[.val (.int p1), .val (.long q2), .second, .val (.int p3), .val (.ref b), .val (.int (Int32.ofNat at')), .val (.int (Int32.ofNat (at' + S.length))), .val (.int nb), .unset, .unset, .unset, .unset, .unset] [(.int (XT.ushr p1 (4 : Int32)))])) _
      refine XS.iconst X.here hx rfl (hb hby at_52) ?_
      show Steps p.tables e below (T.setTop (mkF m 53 #[.val (.int p1), .val (.long q2), .second, .val (.int p3), .val (.ref b), .val (.int (Int32.ofNat at')), .val (.int (Int32.ofNat (at' + S.length))), .val (.int nb), .unset, .unset, .unset, .unset, .unset] [(.int (1 : Int32)), (.int (XT.ushr p1 (4 : Int32)))])) _
      refine XS.iand X.here hx rfl (hb hby at_53) rfl ?_
      exact uK
    by_cases hc54 : ((XT.ushr p1 (4 : Int32)) &&& (1 : Int32)) = (0 : Int32)
    · refine own_st (T' := T) (g' := (mkF m 67 #[.val (.int p1), .val (.long q2), .second, .val (.int p3), .val (.ref b), .val (.int (Int32.ofNat at')), .val (.int (Int32.ofNat (at' + S.length))), .val (.int nb), .unset, .unset, .unset, .unset, .unset] [])) (fun uT uK => ?_) ?_
      · show Steps p.tables e below (T.setTop (mkF m 54 #[.val (.int p1), .val (.long q2), .second, .val (.int p3), .val (.ref b), .val (.int (Int32.ofNat at')), .val (.int (Int32.ofNat (at' + S.length))), .val (.int nb), .unset, .unset, .unset, .unset, .unset] [(.int ((XT.ushr p1 (4 : Int32)) &&& (1 : Int32)))])) _
        refine XS.ifYes X.here hx rfl (pc0 := 54) (pc' := 67) rfl (hb hby at_54) rfl (XT.i0_eq_t hc54) (by decide) (by decide) ?_
        exact uK
      exact own_t67 p1 p3 q2 b kc at' pre S h0 nb 0 K X eT N Z0 g_b hat B hp (by decide) (by omega)
    · refine own_st (T' := T) (g' := (mkF m 66 #[.val (.int p1), .val (.long q2), .second, .val (.int p3), .val (.ref b), .val (.int (Int32.ofNat at')), .val (.int ((Int32.ofNat (at' + S.length)) + (1 : Int32))), .val (.int nb), .unset, .unset, .unset, .unset, .unset] [(.int (13 : Int32)), (.int (Int32.ofNat (at' + S.length))), (.ref b)])) (fun uT uK => ?_) ?_
      · show Steps p.tables e below (T.setTop (mkF m 54 #[.val (.int p1), .val (.long q2), .second, .val (.int p3), .val (.ref b), .val (.int (Int32.ofNat at')), .val (.int (Int32.ofNat (at' + S.length))), .val (.int nb), .unset, .unset, .unset, .unset, .unset] [(.int ((XT.ushr p1 (4 : Int32)) &&& (1 : Int32)))])) _
        refine XS.ifNo X.here hx rfl (hb hby at_54) rfl (XT.i0_eq_f hc54) ?_
        show Steps p.tables e below (T.setTop (mkF m 57 #[.val (.int p1), .val (.long q2), .second, .val (.int p3), .val (.ref b), .val (.int (Int32.ofNat at')), .val (.int (Int32.ofNat (at' + S.length))), .val (.int nb), .unset, .unset, .unset, .unset, .unset] [])) _
        refine XS.aload X.here hx rfl (hb hby at_57) rfl rfl ?_
        show Steps p.tables e below (T.setTop (mkF m 59 #[.val (.int p1), .val (.long q2), .second, .val (.int p3), .val (.ref b), .val (.int (Int32.ofNat at')), .val (.int (Int32.ofNat (at' + S.length))), .val (.int nb), .unset, .unset, .unset, .unset, .unset] [(.ref b)])) _
        refine XS.iload X.here hx rfl (hb hby at_59) rfl ?_
        show Steps p.tables e below (T.setTop (mkF m 61 #[.val (.int p1), .val (.long q2), .second, .val (.int p3), .val (.ref b), .val (.int (Int32.ofNat at')), .val (.int (Int32.ofNat (at' + S.length))), .val (.int nb), .unset, .unset, .unset, .unset, .unset] [(.int (Int32.ofNat (at' + S.length))), (.ref b)])) _
        refine XS.iinc X.here hx rfl (hb hby at_61) rfl (l' := #[.val (.int p1), .val (.long q2), .second, .val (.int p3), .val (.ref b), .val (.int (Int32.ofNat at')), .val (.int ((Int32.ofNat (at' + S.length)) + (1 : Int32))), .val (.int nb), .unset, .unset, .unset, .unset, .unset]) rfl ?_
        show Steps p.tables e below (T.setTop (mkF m 64 #[.val (.int p1), .val (.long q2), .second, .val (.int p3), .val (.ref b), .val (.int (Int32.ofNat at')), .val (.int ((Int32.ofNat (at' + S.length)) + (1 : Int32))), .val (.int nb), .unset, .unset, .unset, .unset, .unset] [(.int (Int32.ofNat (at' + S.length))), (.ref b)])) _
        refine XS.bipush X.here hx rfl (hb hby at_64) ?_
        exact uK
      obtain ⟨T1, h1, locs1, X1, e1, B1, N1, zz1, st1⟩ := own_stB X hx hZ eT B (by omega) (y := 13) (by decide) N g_b (g := (mkF m 66 #[.val (.int p1), .val (.long q2), .second, .val (.int p3), .val (.ref b), .val (.int (Int32.ofNat at')), .val (.int ((Int32.ofNat (at' + S.length)) + (1 : Int32))), .val (.int nb), .unset, .unset, .unset, .unset, .unset] [(.int (13 : Int32)), (.int (Int32.ofNat (at' + S.length))), (.ref b)])) rfl rfl (hb hby at_66)
      have Z1 : n0 ≤ h1.size := Nat.le_trans Z0 zz1
      refine own_st st1 ?_
      show OwnGo p e below s _ _ _ T1 (mkF m 67 #[.val (.int p1), .val (.long q2), .second, .val (.int p3), .val (.ref b), .val (.int (Int32.ofNat at')), .val (.int ((Int32.ofNat (at' + S.length)) + (1 : Int32))), .val (.int nb), .unset, .unset, .unset, .unset, .unset] [])
      rw [own_next at' S 13]
      show OwnGo p e below s _ _ _ T1 (mkF m 67 #[.val (.int p1), .val (.long q2), .second, .val (.int p3), .val (.ref b), .val (.int (Int32.ofNat at')), .val (.int (Int32.ofNat (at' + (S ++ [13]).length))), .val (.int nb), .unset, .unset, .unset, .unset, .unset] [])
      exact own_t67 p1 p3 q2 b kc at' pre (S ++ [13]) h0 nb 1 K X1 e1 N1 Z1 g_b hat B1 (own_pass_cr0 hp) (by decide) (by simp only [own_len1]; omega)
theorem own_ef_rm0 (m : MethodId) (x0 : Int32) (x1 : Int64) (x2 : Int32) : entryFrame m #[(.int x0), (.long x1), (.int x2)] maxLocals = mkF m 0 #[.val (.int x0), .val (.long x1), .second, .val (.int x2), .unset, .unset, .unset, .unset, .unset, .unset, .unset, .unset, .unset] [] := by first | (simp [entryFrame, mkF, argsToLocals, Value.category, maxLocals]; done) | rfl
set_option maxRecDepth 65536 in
set_option maxHeartbeats 40000000 in
theorem rm0 (l : Launch) (Z : State) (a0 : Array Value) (hw : ∀ d ∈ tables_1, d.before a0 Z = true) (ws : List Jvm.Cond) (p1 : Int32) (q2 : Int64) (p3 : Int32) (h0 : Heap) (n0 : Nat) (Z0 : n0 ≤ h0.size) :
    MetFree l x (head1 (Jvm.Cond.code x code maxLocals ret :: ws) room_1) (fun aQ UQ => aQ = #[(.int p1), (.long q2), (.int p3)] ∧ Z.Warmed39 UQ.vm ∧ UQ.heap = h0) (fun _ _ _ _ _ => True) (fun _ UQ oQ UR => ∃ vQ LQ, oQ = .returned vQ ∧ Q0 Z p1 q2 p3 h0 n0 vQ UR.heap LQ ∧ FrameEnd UQ oQ UR LQ room_1.cells room_1.slots) := by
  refine MetFree.of_bodySF (plainFor_of_name pn_0) hisR ?_
  intro p e s m args below meth c s₁ Bd hml0 hP hK
  obtain ⟨rfl, hZ, hh⟩ := hP
  have hx := Bd.exec
  have hby := Bd.bytes
  have hml : c.maxLocals = 13 := hml0
  have hown : s.vm.findClass "com/example/tallybox/tallybox/RequestHeadEndPinLaw" = some m.cls := findClass_of_methodNamed Bd.named
  have hnm := (name_of_methodNamed Bd.named Bd.method).1
  have hret := Bd.returns
  have hlk : meth.locks = false := Bd.notSynchronized
  have X0 : Stand p l e room_1 s m #[(.int p1), (.long q2), (.int p3)] below meth c s₁ [] 0 0 := Stand.of_body Bd
  have e0 : s₁.heap = h0 := by rw [← hh, Bd.state]; rfl
  have N0 := Fr.nil n0
  have K : Ctx0 p s m meth c Z a0 := ⟨hx, hZ, hw, hby, hml, hown, hret, hlk, hnm⟩
  show OwnGo p e below s room_1.cells room_1.slots (Q0 Z p1 q2 p3 h0 n0) s₁ (entryFrame m #[(.int p1), (.long q2), (.int p3)] maxLocals)
  refine own_cast (own_ef_rm0 m p1 q2 p3) ?_
  show OwnGo p e below s _ _ _ s₁ (mkF m 0 #[.val (.int p1), .val (.long q2), .second, .val (.int p3), .unset, .unset, .unset, .unset, .unset, .unset, .unset, .unset, .unset] [])
  refine own_st (T' := s₁) (g' := (mkF m 2 #[.val (.int p1), .val (.long q2), .second, .val (.int p3), .unset, .unset, .unset, .unset, .unset, .unset, .unset, .unset, .unset] [(.int (16 : Int32))])) (fun uT uK => ?_) ?_
  · show Steps p.tables e below (s₁.setTop (mkF m 0 #[.val (.int p1), .val (.long q2), .second, .val (.int p3), .unset, .unset, .unset, .unset, .unset, .unset, .unset, .unset, .unset] [])) _
    refine XS.bipush X0.here hx rfl (hb hby at_0) ?_
    exact uK
  obtain ⟨T1, h1, kc, X1, e1, E1, A1, st1⟩ := newP X0 hx hZ (hw _ (List.mem_of_getElem? (i := 0) rfl)) e0 (g := (mkF m 2 #[.val (.int p1), .val (.long q2), .second, .val (.int p3), .unset, .unset, .unset, .unset, .unset, .unset, .unset, .unset, .unset] [(.int (16 : Int32))])) rfl (hb hby at_2) rfl (by decide) (cap := 16) (by decide) (by decide) (by decide) (by decide)
  obtain ⟨b, g1⟩ : ∃ z, z = h0.size := ⟨_, rfl⟩
  rw [← g1] at A1 st1
  have g_b : n0 ≤ b := Nat.le_trans Z0 (Nat.le_of_eq g1.symm)
  have B0 : own_buf Z h1 b kc 0 [] [] := own_start A1
  have Z1 : n0 ≤ h1.size := Nat.le_trans Z0 E1.1
  refine own_st st1 ?_
  show OwnGo p e below s _ _ _ T1 (mkF m 4 #[.val (.int p1), .val (.long q2), .second, .val (.int p3), .unset, .unset, .unset, .unset, .unset, .unset, .unset, .unset, .unset] [(.ref b)])
  refine own_st (T' := T1) (g' := (mkF m 11 #[.val (.int p1), .val (.long q2), .second, .val (.int p3), .val (.ref b), .unset, .unset, .unset, .unset, .unset, .unset, .unset, .unset] [(.int ((p1 &&& (3 : Int32)) % (3 : Int32)))])) (fun uT uK => ?_) ?_
  · show Steps p.tables e below (T1.setTop (mkF m 4 #[.val (.int p1), .val (.long q2), .second, .val (.int p3), .unset, .unset, .unset, .unset, .unset, .unset, .unset, .unset, .unset] [(.ref b)])) _
    refine XS.astore X1.here hx rfl (hb hby at_4) rfl rfl (l' := #[.val (.int p1), .val (.long q2), .second, .val (.int p3), .val (.ref b), .unset, .unset, .unset, .unset, .unset, .unset, .unset, .unset]) rfl ?_
    show Steps p.tables e below (T1.setTop (mkF m 6 #[.val (.int p1), .val (.long q2), .second, .val (.int p3), .val (.ref b), .unset, .unset, .unset, .unset, .unset, .unset, .unset, .unset] [])) _
    refine XS.iloadN X1.here hx rfl (hb hby at_6) rfl ?_
    show Steps p.tables e below (T1.setTop (mkF m 7 #[.val (.int p1), .val (.long q2), .second, .val (.int p3), .val (.ref b), .unset, .unset, .unset, .unset, .unset, .unset, .unset, .unset] [(.int p1)])) _
    refine XS.iconst X1.here hx rfl (hb hby at_7) ?_
    show Steps p.tables e below (T1.setTop (mkF m 8 #[.val (.int p1), .val (.long q2), .second, .val (.int p3), .val (.ref b), .unset, .unset, .unset, .unset, .unset, .unset, .unset, .unset] [(.int (3 : Int32)), (.int p1)])) _
    refine XS.iand X1.here hx rfl (hb hby at_8) rfl ?_
    show Steps p.tables e below (T1.setTop (mkF m 9 #[.val (.int p1), .val (.long q2), .second, .val (.int p3), .val (.ref b), .unset, .unset, .unset, .unset, .unset, .unset, .unset, .unset] [(.int (p1 &&& (3 : Int32)))])) _
    refine XS.iconst X1.here hx rfl (hb hby at_9) ?_
    show Steps p.tables e below (T1.setTop (mkF m 10 #[.val (.int p1), .val (.long q2), .second, .val (.int p3), .val (.ref b), .unset, .unset, .unset, .unset, .unset, .unset, .unset, .unset] [(.int (3 : Int32)), (.int (p1 &&& (3 : Int32)))])) _
    refine iremM X1 hx rfl (hb hby at_10) rfl (by decide) ?_
    exact uK
  obtain ⟨at', hat, hat2⟩ := own_at3 p1
  rw [hat2]
  show OwnGo p e below s _ _ _ T1 (mkF m 11 #[.val (.int p1), .val (.long q2), .second, .val (.int p3), .val (.ref b), .unset, .unset, .unset, .unset, .unset, .unset, .unset, .unset] [(.int (Int32.ofNat at'))])
  refine own_st (T' := T1) (g' := (mkF m 19 #[.val (.int p1), .val (.long q2), .second, .val (.int p3), .val (.ref b), .val (.int (Int32.ofNat at')), .unset, .unset, .unset, .unset, .unset, .unset, .unset] [(.int ((q2.toInt32).toInt8.toInt32)), (.int (0 : Int32)), (.ref b)])) (fun uT uK => ?_) ?_
  · show Steps p.tables e below (T1.setTop (mkF m 11 #[.val (.int p1), .val (.long q2), .second, .val (.int p3), .val (.ref b), .unset, .unset, .unset, .unset, .unset, .unset, .unset, .unset] [(.int (Int32.ofNat at'))])) _
    refine XS.istore X1.here hx rfl (hb hby at_11) rfl (l' := #[.val (.int p1), .val (.long q2), .second, .val (.int p3), .val (.ref b), .val (.int (Int32.ofNat at')), .unset, .unset, .unset, .unset, .unset, .unset, .unset]) rfl ?_
    show Steps p.tables e below (T1.setTop (mkF m 13 #[.val (.int p1), .val (.long q2), .second, .val (.int p3), .val (.ref b), .val (.int (Int32.ofNat at')), .unset, .unset, .unset, .unset, .unset, .unset, .unset] [])) _
    refine XS.aload X1.here hx rfl (hb hby at_13) rfl rfl ?_
    show Steps p.tables e below (T1.setTop (mkF m 15 #[.val (.int p1), .val (.long q2), .second, .val (.int p3), .val (.ref b), .val (.int (Int32.ofNat at')), .unset, .unset, .unset, .unset, .unset, .unset, .unset] [(.ref b)])) _
    refine XS.iconst X1.here hx rfl (hb hby at_15) ?_
    show Steps p.tables e below (T1.setTop (mkF m 16 #[.val (.int p1), .val (.long q2), .second, .val (.int p3), .val (.ref b), .val (.int (Int32.ofNat at')), .unset, .unset, .unset, .unset, .unset, .unset, .unset] [(.int (0 : Int32)), (.ref b)])) _
    refine XT.lloadN X1.here hx rfl (hb hby at_16) rfl ?_
    show Steps p.tables e below (T1.setTop (mkF m 17 #[.val (.int p1), .val (.long q2), .second, .val (.int p3), .val (.ref b), .val (.int (Int32.ofNat at')), .unset, .unset, .unset, .unset, .unset, .unset, .unset] [(.long q2), (.int (0 : Int32)), (.ref b)])) _
    refine XT.l2i X1.here hx rfl (hb hby at_17) rfl ?_
    show Steps p.tables e below (T1.setTop (mkF m 18 #[.val (.int p1), .val (.long q2), .second, .val (.int p3), .val (.ref b), .val (.int (Int32.ofNat at')), .unset, .unset, .unset, .unset, .unset, .unset, .unset] [(.int (q2.toInt32)), (.int (0 : Int32)), (.ref b)])) _
    refine XT.i2b X1.here hx rfl (hb hby at_18) rfl ?_
    exact uK
  obtain ⟨T2, h2, locs2, X2, e2, B2, N2, zz2, st2⟩ := own_stB X1 hx hZ e1 B0 (by decide) (y := ((q2.toInt32).toInt8.toInt32)) (own_nb _) N0 g_b (g := (mkF m 19 #[.val (.int p1), .val (.long q2), .second, .val (.int p3), .val (.ref b), .val (.int (Int32.ofNat at')), .unset, .unset, .unset, .unset, .unset, .unset, .unset] [(.int ((q2.toInt32).toInt8.toInt32)), (.int (0 : Int32)), (.ref b)])) rfl rfl (hb hby at_19)
  have Z2 : n0 ≤ h2.size := Nat.le_trans Z1 zz2
  refine own_st st2 ?_
  show OwnGo p e below s _ _ _ T2 (mkF m 20 #[.val (.int p1), .val (.long q2), .second, .val (.int p3), .val (.ref b), .val (.int (Int32.ofNat at')), .unset, .unset, .unset, .unset, .unset, .unset, .unset] [])
  refine own_st (T' := T2) (g' := (mkF m 29 #[.val (.int p1), .val (.long q2), .second, .val (.int p3), .val (.ref b), .val (.int (Int32.ofNat at')), .unset, .unset, .unset, .unset, .unset, .unset, .unset] [(.int (((XT.ushrL q2 (8 : Int32)).toInt32).toInt8.toInt32)), (.int (1 : Int32)), (.ref b)])) (fun uT uK => ?_) ?_
  · show Steps p.tables e below (T2.setTop (mkF m 20 #[.val (.int p1), .val (.long q2), .second, .val (.int p3), .val (.ref b), .val (.int (Int32.ofNat at')), .unset, .unset, .unset, .unset, .unset, .unset, .unset] [])) _
    refine XS.aload X2.here hx rfl (hb hby at_20) rfl rfl ?_
    show Steps p.tables e below (T2.setTop (mkF m 22 #[.val (.int p1), .val (.long q2), .second, .val (.int p3), .val (.ref b), .val (.int (Int32.ofNat at')), .unset, .unset, .unset, .unset, .unset, .unset, .unset] [(.ref b)])) _
    refine XS.iconst X2.here hx rfl (hb hby at_22) ?_
    show Steps p.tables e below (T2.setTop (mkF m 23 #[.val (.int p1), .val (.long q2), .second, .val (.int p3), .val (.ref b), .val (.int (Int32.ofNat at')), .unset, .unset, .unset, .unset, .unset, .unset, .unset] [(.int (1 : Int32)), (.ref b)])) _
    refine XT.lloadN X2.here hx rfl (hb hby at_23) rfl ?_
    show Steps p.tables e below (T2.setTop (mkF m 24 #[.val (.int p1), .val (.long q2), .second, .val (.int p3), .val (.ref b), .val (.int (Int32.ofNat at')), .unset, .unset, .unset, .unset, .unset, .unset, .unset] [(.long q2), (.int (1 : Int32)), (.ref b)])) _
    refine XS.bipush X2.here hx rfl (hb hby at_24) ?_
    show Steps p.tables e below (T2.setTop (mkF m 26 #[.val (.int p1), .val (.long q2), .second, .val (.int p3), .val (.ref b), .val (.int (Int32.ofNat at')), .unset, .unset, .unset, .unset, .unset, .unset, .unset] [(.int (8 : Int32)), (.long q2), (.int (1 : Int32)), (.ref b)])) _
    refine XT.lushr X2.here hx rfl (hb hby at_26) rfl ?_
    show Steps p.tables e below (T2.setTop (mkF m 27 #[.val (.int p1), .val (.long q2), .second, .val (.int p3), .val (.ref b), .val (.int (Int32.ofNat at')), .unset, .unset, .unset, .unset, .unset, .unset, .unset] [(.long (XT.ushrL q2 (8 : Int32))), (.int (1 : Int32)), (.ref b)])) _
    refine XT.l2i X2.here hx rfl (hb hby at_27) rfl ?_
    show Steps p.tables e below (T2.setTop (mkF m 28 #[.val (.int p1), .val (.long q2), .second, .val (.int p3), .val (.ref b), .val (.int (Int32.ofNat at')), .unset, .unset, .unset, .unset, .unset, .unset, .unset] [(.int ((XT.ushrL q2 (8 : Int32)).toInt32)), (.int (1 : Int32)), (.ref b)])) _
    refine XT.i2b X2.here hx rfl (hb hby at_28) rfl ?_
    exact uK
  obtain ⟨T3, h3, locs3, X3, e3, B3, N3, zz3, st3⟩ := own_stB X2 hx hZ e2 B2 (by simp) (y := (((XT.ushrL q2 (8 : Int32)).toInt32).toInt8.toInt32)) (own_nb _) N2 g_b (g := (mkF m 29 #[.val (.int p1), .val (.long q2), .second, .val (.int p3), .val (.ref b), .val (.int (Int32.ofNat at')), .unset, .unset, .unset, .unset, .unset, .unset, .unset] [(.int (((XT.ushrL q2 (8 : Int32)).toInt32).toInt8.toInt32)), (.int (1 : Int32)), (.ref b)])) rfl rfl (hb hby at_29)
  have Z3 : n0 ≤ h3.size := Nat.le_trans Z2 zz3
  refine own_st st3 ?_
  show OwnGo p e below s _ _ _ T3 (mkF m 30 #[.val (.int p1), .val (.long q2), .second, .val (.int p3), .val (.ref b), .val (.int (Int32.ofNat at')), .unset, .unset, .unset, .unset, .unset, .unset, .unset] [])
  obtain ⟨pre, B⟩ := own_restart (n := at') B3 (by omega)
  refine own_st (T' := T3) (g' := (mkF m 43 #[.val (.int p1), .val (.long q2), .second, .val (.int p3), .val (.ref b), .val (.int (Int32.ofNat at')), .val (.int (Int32.ofNat at')), .val (.int (((XT.ushr p1 (2 : Int32)) &&& (3 : Int32)) % (3 : Int32))), .unset, .unset, .unset, .unset, .unset] [])) (fun uT uK => ?_) ?_
  · show Steps p.tables e below (T3.setTop (mkF m 30 #[.val (.int p1), .val (.long q2), .second, .val (.int p3), .val (.ref b), .val (.int (Int32.ofNat at')), .unset, .unset, .unset, .unset, .unset, .unset, .unset] [])) _
    refine XS.iload X3.here hx rfl (hb hby at_30) rfl ?_
    show Steps p.tables e below (T3.setTop (mkF m 32 #[.val (.int p1), .val (.long q2), .second, .val (.int p3), .val (.ref b), .val (.int (Int32.ofNat at')), .unset, .unset, .unset, .unset, .unset, .unset, .unset] [(.int (Int32.ofNat at'))])) _
    refine XS.istore X3.here hx rfl (hb hby at_32) rfl (l' := #[.val (.int p1), .val (.long q2), .second, .val (.int p3), .val (.ref b), .val (.int (Int32.ofNat at')), .val (.int (Int32.ofNat at')), .unset, .unset, .unset, .unset, .unset, .unset]) rfl ?_
    show Steps p.tables e below (T3.setTop (mkF m 34 #[.val (.int p1), .val (.long q2), .second, .val (.int p3), .val (.ref b), .val (.int (Int32.ofNat at')), .val (.int (Int32.ofNat at')), .unset, .unset, .unset, .unset, .unset, .unset] [])) _
    refine XS.iloadN X3.here hx rfl (hb hby at_34) rfl ?_
    show Steps p.tables e below (T3.setTop (mkF m 35 #[.val (.int p1), .val (.long q2), .second, .val (.int p3), .val (.ref b), .val (.int (Int32.ofNat at')), .val (.int (Int32.ofNat at')), .unset, .unset, .unset, .unset, .unset, .unset] [(.int p1)])) _
    refine XS.iconst X3.here hx rfl (hb hby at_35) ?_
    show Steps p.tables e below (T3.setTop (mkF m 36 #[.val (.int p1), .val (.long q2), .second, .val (.int p3), .val (.ref b), .val (.int (Int32.ofNat at')), .val (.int (Int32.ofNat at')), .unset, .unset, .unset, .unset, .unset, .unset] [(.int (2 : Int32)), (.int p1)])) _
    refine XT.iushr X3.here hx rfl (hb hby at_36) rfl ?_
    show Steps p.tables e below (T3.setTop (mkF m 37 #[.val (.int p1), .val (.long q2), .second, .val (.int p3), .val (.ref b), .val (.int (Int32.ofNat at')), .val (.int (Int32.ofNat at')), .unset, .unset, .unset, .unset, .unset, .unset] [(.int (XT.ushr p1 (2 : Int32)))])) _
    refine XS.iconst X3.here hx rfl (hb hby at_37) ?_
    show Steps p.tables e below (T3.setTop (mkF m 38 #[.val (.int p1), .val (.long q2), .second, .val (.int p3), .val (.ref b), .val (.int (Int32.ofNat at')), .val (.int (Int32.ofNat at')), .unset, .unset, .unset, .unset, .unset, .unset] [(.int (3 : Int32)), (.int (XT.ushr p1 (2 : Int32)))])) _
    refine XS.iand X3.here hx rfl (hb hby at_38) rfl ?_
    show Steps p.tables e below (T3.setTop (mkF m 39 #[.val (.int p1), .val (.long q2), .second, .val (.int p3), .val (.ref b), .val (.int (Int32.ofNat at')), .val (.int (Int32.ofNat at')), .unset, .unset, .unset, .unset, .unset, .unset] [(.int ((XT.ushr p1 (2 : Int32)) &&& (3 : Int32)))])) _
    refine XS.iconst X3.here hx rfl (hb hby at_39) ?_
    show Steps p.tables e below (T3.setTop (mkF m 40 #[.val (.int p1), .val (.long q2), .second, .val (.int p3), .val (.ref b), .val (.int (Int32.ofNat at')), .val (.int (Int32.ofNat at')), .unset, .unset, .unset, .unset, .unset, .unset] [(.int (3 : Int32)), (.int ((XT.ushr p1 (2 : Int32)) &&& (3 : Int32)))])) _
    refine iremM X3 hx rfl (hb hby at_40) rfl (by decide) ?_
    show Steps p.tables e below (T3.setTop (mkF m 41 #[.val (.int p1), .val (.long q2), .second, .val (.int p3), .val (.ref b), .val (.int (Int32.ofNat at')), .val (.int (Int32.ofNat at')), .unset, .unset, .unset, .unset, .unset, .unset] [(.int (((XT.ushr p1 (2 : Int32)) &&& (3 : Int32)) % (3 : Int32)))])) _
    refine XS.istore X3.here hx rfl (hb hby at_41) rfl (l' := #[.val (.int p1), .val (.long q2), .second, .val (.int p3), .val (.ref b), .val (.int (Int32.ofNat at')), .val (.int (Int32.ofNat at')), .val (.int (((XT.ushr p1 (2 : Int32)) &&& (3 : Int32)) % (3 : Int32))), .unset, .unset, .unset, .unset, .unset]) rfl ?_
    exact uK
  exact own_t43 p1 p3 q2 b kc at' pre [] h0 (((XT.ushr p1 (2 : Int32)) &&& (3 : Int32)) % (3 : Int32)) K X3 e3 N3 Z3 g_b hat B own_pass_nil (by show at' + 0 ≤ 2; omega)
set_option maxRecDepth 65536 in
set_option maxHeartbeats 40000000 in
theorem comes_1 {Post : Tables → Env → Array Value → State → Outcome → State → Prop} (hpost : ∀ tb e args s v u, (limb_1_1.after args s (.returned v) u = true ∧ limb_1_2.after args s (.returned v) u = true ∧ True) → FrameEnd s (.returned v) u (Jvm.fieldLocs frame_1_writes args s ++ Jvm.arrayLocs frame_1_arrays args s ++ Jvm.staticLocs frame_1_statics s) 16 128 → Post tb e args s (.returned v) u) :
    ArmFor flags0 classFile x code maxLocals ret World_1 tables_1 room_1 Calls_1 rest_1 Pre_1 Post := by
  intro l hfl _ _ p e ha hc hk s m args below hf hA hF happ hP
  obtain ⟨hcalls, hrest, hpre⟩ := hP
  obtain ⟨-, -, -, hnamed, -, -, -, hat⟩ := (Spec.applies_iff hf).mp happ
  obtain ⟨hg, hn⟩ := and_e (Cond.before_iff.mp (show (Jvm.Cond.and given_1 narrow_1).before args s = true from hpre))
  obtain ⟨hcount, ha0⟩ := and_e hg
  obtain ⟨hv0, ha1⟩ := and_e ha0
  obtain ⟨hv1, ha2⟩ := and_e ha1
  have hv2 := ha2
  obtain ⟨w0, w1, w2, rfl⟩ : ∃ w0 w1 w2 : Value, args = #[w0, w1, w2] := by
    have hs : args.size = 3 := by simpa [Cond.value, given_1] using hcount
    obtain ⟨L⟩ := args
    match L, hs with
    | [w0, w1, w2], _ => exact ⟨w0, w1, w2, rfl⟩
  have hw := fun d (hd : d ∈ tables_1) => atoms_spec (ws := Jvm.Cond.code x code maxLocals ret :: tables_1) hat d (List.mem_cons_of_mem _ hd)
  obtain ⟨i0, ei0⟩ := is_v hv0
  obtain rfl : w0 = (.int i0) := Option.some.inj ei0
  obtain ⟨i1, ei1⟩ := isL_v hv1
  obtain rfl : w1 = (.long i1) := Option.some.inj ei1
  obtain ⟨i2, ei2⟩ := is_v hv2
  obtain rfl : w2 = (.int i2) := Option.some.inj ei2
  obtain ⟨n, o, h1, h2, h3, _, L, rfl, ⟨rfl, N⟩, hq⟩ := rm0 l s _ hw tables_1 i0 i1 i2 s.heap s.heap.size (Nat.le_refl _) p e ha hc hk s m _ below hf ((Spec.applies_iff_loose hf).mp happ).1 ⟨rfl, State.Warmed39.refl s, rfl⟩ trivial
  refine ⟨n, _, h1, h2, h3, hpost _ _ _ _ _ _ ⟨Cond.after_iff.mpr rfl, Cond.after_iff.mpr (eq_i res_at (Term.int_eval (1)) rfl), trivial⟩ ⟨hq.1, hq.2.1, (hq.2.2.sift fun y hy => Or.inr (N y hy)).mono (by decide) (by decide)⟩⟩
theorem main_1_1 : Claimed_1_1 := comes_1 fun _ _ _ _ _ _ h hF => ⟨h.1, hF⟩
theorem main_1_2 : Claimed_1_2 := comes_1 fun _ _ _ _ _ _ h hF => ⟨h.2.1, hF⟩
end Jvm.Pilot.@@N@@
namespace Jvm.Pilot.@@N@@
open Jvm Jvm.ClassFile Sem Op Lib Jvm.Free Jvm.Stand Jvm.Pilot.@@N@@.Jvm.D
/-! MADE BY PROGRAM (witnessworld.py) out of the Statement's table words and the real class files: 10 classes; the members and pool entries that the words name. The judged class is class 1, her method 1. -/
namespace start1
open Jvm.ClassFile
def u (s : String) : CpInfo := .utf8 (stringToUtf16 s)
/-- a pool by its gaps: so many unusable entries, then the entry; so many at the end -/
def gap : Nat → List CpInfo → List CpInfo
  | 0, r => r
  | n + 1, r => .unusable :: gap n r
def poolList (es : List (Nat × CpInfo)) (last : Nat) : List CpInfo := es.foldr (fun e r => gap e.1 (e.2 :: r)) (gap last [])
def pool (es : List (Nat × CpInfo)) (last : Nat) : Array CpInfo := ⟨poolList es last⟩
def fileOf (pool : Array CpInfo) (this : Nat) (attrs : Array Attribute := #[]) (ms : Array MethodInfo := #[]) (fl : Nat := 33) (sup : Nat := 0) (ifs : Array Nat := #[]) (fds : Array FieldInfo := #[]) : ClassFile where
  minorVersion := 0
  majorVersion := 65
  constantPool := pool
  accessFlags := fl
  thisClass := this
  superClass := sup
  interfaces := ifs
  fields := fds
  methods := ms
  attributes := attrs
def plain (name : String) (sup : Option ClassId) : Class where
  name := name
  kind := .ordinary
  loader := none
  accessFlags := 33
  super := sup
  interfaces := #[]
  cf := none
  fields := #[]
  methods := #[]
  instanceTypes := #[]
  staticTypes := #[]
  resolved := #[]
  callSites := []
  init := .initialized
  statics := none
  mirror := none

def pool0 : Array CpInfo := pool [(5, u "<init>"), (0, u "()V"), (1, .class_ 10), (1, u "java/lang/Object")] 113

def k0m0 : Method := { name := "<init>", desc := "()V", sig := { parameters := [], returnType := none }, accessFlags := 1, code := none }
/-- java/lang/Object -/
def k0 : Class := { plain "java/lang/Object" none with
  accessFlags := 33
  interfaces := #[]
  cf := some (fileOf pool0 8 #[] #[{ accessFlags := 1, nameIndex := 5, descriptorIndex := 6, attributes := #[] }] 33 0 #[] #[])
  fields := #[]
  methods := #[k0m0]
  instanceTypes := #[]
  staticTypes := #[]
  resolved := Array.replicate 124 none
  statics := none }

def pool1 : Array CpInfo := pool [(2, .class_ 4), (1, u "java/lang/Object"), (0, u "<init>"), (0, u "()V"), (0, .integer 2147483647), (0, .methodref 9 10), (0, .class_ 11), (0, .nameAndType 12 13), (0, u "com/example/tallybox/tallybox/RequestHead"), (0, u "end"), (0, u "([BII)I"), (0, .class_ 15), (0, u "com/example/tallybox/tallybox/RequestHeadEndPinLaw"), (2, u "law"), (0, u "(IJI)Z")] 5

def k1m0 : Method := { name := "<init>", desc := "()V", sig := { parameters := [], returnType := none }, accessFlags := 1, code := none }
def k1c1 : Code := { maxStack := 5, maxLocals := 13, code := code, exceptionTable := #[], attributes := #[] }
def k1m1 : Method := { name := "law", desc := "(IJI)Z", sig := { parameters := [.int, .long, .int], returnType := some .boolean }, accessFlags := 9, code := some k1c1 }
/-- com/example/tallybox/tallybox/RequestHeadEndPinLaw -/
def k1 : Class := { plain "com/example/tallybox/tallybox/RequestHeadEndPinLaw" (some 0) with
  accessFlags := 49
  interfaces := #[]
  cf := some (fileOf pool1 14 #[] #[{ accessFlags := 1, nameIndex := 5, descriptorIndex := 6, attributes := #[] }, { accessFlags := 9, nameIndex := 18, descriptorIndex := 19, attributes := #[] }] 49 2 #[] #[])
  fields := #[]
  methods := #[k1m0, k1m1]
  instanceTypes := #[]
  staticTypes := #[]
  resolved := Array.replicate 25 none
  statics := none }

def pool2 : Array CpInfo := pool [(2, .class_ 4), (1, u "java/lang/Object"), (0, u "<init>"), (0, u "()V"), (0, .class_ 8), (0, u "java/lang/Record")] 13

def k2m0 : Method := { name := "<init>", desc := "()V", sig := { parameters := [], returnType := none }, accessFlags := 4, code := none }
/-- java/lang/Record -/
def k2 : Class := { plain "java/lang/Record" (some 0) with
  accessFlags := 1057
  interfaces := #[]
  cf := some (fileOf pool2 7 #[] #[{ accessFlags := 4, nameIndex := 5, descriptorIndex := 6, attributes := #[] }] 1057 2 #[] #[])
  fields := #[]
  methods := #[k2m0]
  instanceTypes := #[]
  staticTypes := #[]
  resolved := Array.replicate 22 none
  statics := none }

def pool3 : Array CpInfo := pool [(2, .class_ 4), (1, u "java/lang/Record"), (3, .class_ 10), (1, u "com/example/tallybox/tallybox/RequestHead"), (0, u "method"), (0, u "Ljava/lang/String;"), (2, u "path"), (2, u "http11"), (0, u "Z"), (2, u "length"), (0, u "J"), (2, u "chunked"), (2, u "persistent"), (2, u "expects"), (2, u "host"), (2, u "origin"), (2, u "fetchSite"), (3, u "([BII)I"), (14, .class_ 61), (0, u "com/example/tallybox/tallybox/RequestHead$Malformed"), (121, u "METHODS"), (0, u "Ljava/util/List;"), (73, u "TOKEN"), (6, u "end")] 59

def k3c0 : Code := { maxStack := 3, maxLocals := 7, code := prog_70_method_2_code, exceptionTable := #[], attributes := #[] }
def k3m0 : Method := { name := "end", desc := "([BII)I", sig := { parameters := [(.array .byte), .int, .int], returnType := some .int }, accessFlags := 8, code := some k3c0 }
/-- com/example/tallybox/tallybox/RequestHead -/
def k3 : Class := { plain "com/example/tallybox/tallybox/RequestHead" (some 2) with
  accessFlags := 48
  interfaces := #[]
  cf := some (fileOf pool3 8 #[.nestMembers #[60]] #[{ accessFlags := 8, nameIndex := 265, descriptorIndex := 45, attributes := #[] }] 48 2 #[] #[{ accessFlags := 18, nameIndex := 11, descriptorIndex := 12, attributes := #[] }, { accessFlags := 18, nameIndex := 15, descriptorIndex := 12, attributes := #[] }, { accessFlags := 18, nameIndex := 18, descriptorIndex := 19, attributes := #[] }, { accessFlags := 18, nameIndex := 22, descriptorIndex := 23, attributes := #[] }, { accessFlags := 18, nameIndex := 26, descriptorIndex := 19, attributes := #[] }, { accessFlags := 18, nameIndex := 29, descriptorIndex := 19, attributes := #[] }, { accessFlags := 18, nameIndex := 32, descriptorIndex := 19, attributes := #[] }, { accessFlags := 18, nameIndex := 35, descriptorIndex := 12, attributes := #[] }, { accessFlags := 18, nameIndex := 38, descriptorIndex := 12, attributes := #[] }, { accessFlags := 18, nameIndex := 41, descriptorIndex := 12, attributes := #[] }, { accessFlags := 26, nameIndex := 258, descriptorIndex := 12, attributes := #[] }, { accessFlags := 26, nameIndex := 183, descriptorIndex := 184, attributes := #[] }])
  fields := #[{ name := "method", type := (.object "java/lang/String"), accessFlags := 18, slot := 0, constantValue := 0 }, { name := "path", type := (.object "java/lang/String"), accessFlags := 18, slot := 1, constantValue := 0 }, { name := "http11", type := .boolean, accessFlags := 18, slot := 2, constantValue := 0 }, { name := "length", type := .long, accessFlags := 18, slot := 3, constantValue := 0 }, { name := "chunked", type := .boolean, accessFlags := 18, slot := 4, constantValue := 0 }, { name := "persistent", type := .boolean, accessFlags := 18, slot := 5, constantValue := 0 }, { name := "expects", type := .boolean, accessFlags := 18, slot := 6, constantValue := 0 }, { name := "host", type := (.object "java/lang/String"), accessFlags := 18, slot := 7, constantValue := 0 }, { name := "origin", type := (.object "java/lang/String"), accessFlags := 18, slot := 8, constantValue := 0 }, { name := "fetchSite", type := (.object "java/lang/String"), accessFlags := 18, slot := 9, constantValue := 0 }, { name := "TOKEN", type := (.object "java/lang/String"), accessFlags := 26, slot := 0, constantValue := 0 }, { name := "METHODS", type := (.object "java/util/List"), accessFlags := 26, slot := 1, constantValue := 0 }]
  methods := #[k3m0]
  instanceTypes := #[(.object "java/lang/String"), (.object "java/lang/String"), .boolean, .long, .boolean, .boolean, .boolean, (.object "java/lang/String"), (.object "java/lang/String"), (.object "java/lang/String")]
  staticTypes := #[(.object "java/lang/String"), (.object "java/util/List")]
  resolved := Array.replicate 325 none
  statics := none }

def pool4 : Array CpInfo := pool [(1, u "java/lang/Cloneable"), (0, .class_ 1), (0, u "java/lang/Object"), (0, .class_ 3)] 3

/-- java/lang/Cloneable -/
def k4 : Class := { plain "java/lang/Cloneable" (some 0) with
  accessFlags := 1537
  interfaces := #[]
  cf := some (fileOf pool4 2 #[] #[] 1537 4 #[] #[])
  fields := #[]
  methods := #[]
  instanceTypes := #[]
  staticTypes := #[]
  resolved := Array.replicate 8 none
  statics := none }

def pool5 : Array CpInfo := pool [(1, u "java/io/Serializable"), (0, .class_ 1), (0, u "java/lang/Object"), (0, .class_ 3)] 3

/-- java/io/Serializable -/
def k5 : Class := { plain "java/io/Serializable" (some 0) with
  accessFlags := 1537
  interfaces := #[]
  cf := some (fileOf pool5 2 #[] #[] 1537 4 #[] #[])
  fields := #[]
  methods := #[]
  instanceTypes := #[]
  staticTypes := #[]
  resolved := Array.replicate 8 none
  statics := none }

/-- the primitive byte -/
def k6 : Class := { plain "byte" none with kind := .primitive 'B', accessFlags := 0x411 }
/-- [B -/
def k7 : Class := { plain "[B" (some 0) with kind := .array 6 .byte, interfaces := #[4, 5], accessFlags := 1041 }

/-- the primitive int -/
def k8 : Class := { plain "int" none with kind := .primitive 'I', accessFlags := 0x411 }
/-- [I -/
def k9 : Class := { plain "[I" (some 0) with kind := .array 8 .int, interfaces := #[4, 5], accessFlags := 1041 }

def heap : Heap := #[]
def classes : Array Class := #[k0, k1, k2, k3, k4, k5, k6, k7, k8, k9]
def interned : List (Array UInt16 × Addr) := []
def slotsUsed : Nat := 0
def theMethod : MethodId := ⟨1, 1⟩
def args0 : Array Value := #[.int 5, .long 7, .int 3]
def aboutOver (below : List Frame) : State where
  vm := { classes := classes, interned := interned.toArray }
  heap := heap
  slotsUsed := slotsUsed
  threads := #[{ frames := .invoking theMethod args0 :: below }]
def below0 : List Frame := [.native { method := ⟨0, 0⟩, args := #[] }]
def about1 : State := aboutOver below0
def p0 : Program := .bare "" "" ""
def e0 : Env := launch0.env 0 0 0
theorem w_frames : about1.frames = Frame.invoking theMethod args0 :: below0 := rfl
set_option maxRecDepth 65536 in
theorem w_args : argsFit about1.vm theMethod args0 = true := by decide +kernel
set_option maxRecDepth 65536 in
theorem w_heap : heapFits about1 = true := by decide +kernel
set_option maxRecDepth 65536 in
theorem w_runnable : about1.curStatus? = some .runnable := by decide +kernel
set_option maxRecDepth 65536 in
theorem w_alone : about1.alone = true := by decide +kernel
set_option maxRecDepth 65536 in
theorem w_named : about1.methodNamed? x = some theMethod := by decide +kernel
set_option maxRecDepth 65536 in
theorem w_hears : about1.hears theMethod below0 = true := by decide +kernel
set_option maxRecDepth 65536 in
theorem w_ripe : about1.ripe theMethod args0 below0 = true := by decide +kernel
theorem w_running : about1.status = .running := rfl
set_option maxRecDepth 65536 in
theorem w_room : about1.hasRoom e0.platform room_1 = true :=
  launch0.hasRoom_least _ room_1 (by decide +kernel) (by decide +kernel) (by decide +kernel) (by decide +kernel) (by decide +kernel) (by decide +kernel)
theorem allAtoms_all (ts : List Jvm.Cond) (a : Array Jvm.Value) (st : Jvm.State) : (allAtoms ts).before a st = ts.all (fun c => c.before a st) := by
  induction ts with
  | nil => rfl
  | cons c t ih =>
    show (Jvm.Cond.and c (allAtoms t)).before a st = _
    rw [Jvm.Cond.before_and, ih, List.all_cons]
def words1 : List Jvm.Cond := Jvm.Cond.code x code maxLocals ret :: tables_1
/-- a 'code' word, met by the world's own term for the bytes: nothing is compared byte by byte -/
theorem code_word {y : MethodName} {bytes : ByteArray} {mx : Nat} {rt : Option FieldType} {a : Array Value} {s : State} {m : MethodId} {meth : Method} {c : Code} (h1 : s.methodNamed? y = some m) (h2 : s.vm.method? m = some meth) (h3 : meth.code = some c) (h4 : c.code = bytes)
    (h5 : (c.maxLocals == mx && c.exceptionTable.isEmpty && decide (c.maxStack ≤ mostOperands) && decide (meth.sig.returnType = rt) && !meth.locks && decide (parseMethodDescriptor y.desc = some meth.sig)) = true) : (Jvm.Cond.code y bytes mx rt).before a s = true := by
  simp only [Bool.and_eq_true, beq_iff_eq, Bool.not_eq_true', decide_eq_true_eq] at h5
  obtain ⟨⟨⟨⟨⟨g1, g2⟩, g3⟩, g4⟩, g5⟩, g6⟩ := h5
  simp [Cond.before, Cond.holds, Cond.value, h1, h2, h3, h4, g1, g2, g3, g4, g5, g6]
def isCode : Jvm.Cond → Bool
  | .code _ _ _ _ => true
  | _ => false
theorem all_split {L : List Jvm.Cond} {P : Jvm.Cond → Bool} (h1 : L.all (fun c => isCode c || P c) = true) (h2 : ∀ c ∈ L.filter isCode, P c = true) : L.all P = true := by
  refine List.all_eq_true.mpr fun c hc => ?_
  have h := List.all_eq_true.mp h1 c hc
  rcases Bool.eq_false_or_eq_true (isCode c) with hi | hi
  · exact h2 c (List.mem_filter.mpr ⟨hc, hi⟩)
  · simpa [hi] using h
set_option maxRecDepth 65536 in
theorem w_c0 : (Jvm.Cond.code x code maxLocals ret).before args0 about1 = true := code_word (m := ⟨1, 1⟩) (meth := k1m1) (c := k1c1) (by decide +kernel) rfl rfl rfl (by decide +kernel)
set_option maxRecDepth 65536 in
theorem w_c1 : (Jvm.Cond.code ({ cls := "com/example/tallybox/tallybox/RequestHead", name := "end", desc := "([BII)I" } : Jvm.MethodName) prog_70_method_2_code (7 : Nat) (Option.some Jvm.ClassFile.FieldType.int)).before args0 about1 = true := code_word (m := ⟨3, 0⟩) (meth := k3m0) (c := k3c0) (by decide +kernel) rfl rfl rfl (by decide +kernel)
def codes1 : List Jvm.Cond := [Jvm.Cond.code x code maxLocals ret, Jvm.Cond.code ({ cls := "com/example/tallybox/tallybox/RequestHead", name := "end", desc := "([BII)I" } : Jvm.MethodName) prog_70_method_2_code (7 : Nat) (Option.some Jvm.ClassFile.FieldType.int)]
set_option maxRecDepth 65536 in
theorem codes_eq : words1.filter isCode = codes1 := rfl
theorem w_codes : ∀ c ∈ words1.filter isCode, c.before args0 about1 = true := by
  rw [codes_eq]
  intro c hc
  simp only [codes1, List.mem_cons, List.not_mem_nil, or_false] at hc
  rcases hc with rfl | rfl
  · exact w_c0
  · exact w_c1
set_option maxRecDepth 65536 in
theorem w_t1 : words1.all (fun c => isCode c || c.before args0 about1) = true := by decide +kernel
theorem w_tables : (allAtoms (Jvm.Cond.code x code maxLocals ret :: tables_1)).before args0 about1 = true := by
  rw [allAtoms_all]
  show words1.all (fun c => c.before args0 about1) = true
  refine all_split ?_ w_codes
  rw [w_t1]
set_option maxRecDepth 65536 in
theorem w_case : (Jvm.Cond.and given_1 narrow_1).before args0 about1 = true := by decide +kernel
theorem w_applies : (headSpec (Jvm.Cond.code x code maxLocals ret :: tables_1) room_1).applies x e0.platform about1 = true :=
  (Spec.applies_iff w_frames).mpr ⟨w_running, w_runnable, w_alone, w_named, w_hears, w_ripe, w_room, w_tables⟩
theorem atStart : AtStart classFile x code maxLocals ret World_1 tables_1 room_1 Calls_1 rest_1 Pre_1 launch0 p0 e0 about1 theMethod args0 below0 :=
  ⟨lists_1, trivial, launch0.admits_env _ _ _, launch0.least_env, fairChoices_fair.cas, fairChoices_fair.clock, w_frames, w_args, w_heap, w_applies, trivial, trivial, w_case⟩
end start1
theorem witness_1 : WitnessClaimed_1 := ⟨start1.p0, start1.e0, start1.about1, start1.theMethod, start1.args0, start1.below0, start1.atStart⟩
end Jvm.Pilot.@@N@@
