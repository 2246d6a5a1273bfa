import JvmDerived
import JvmDerived.Pilot.@@N@@Statement
import JvmDerived.Pilot.@@N@@Code
set_option linter.unusedVariables false
set_option linter.unusedSimpArgs false
namespace Jvm.RoadKit
open Sem ClassFile Op Lib Jvm.Stand Jvm.Free Jvm.LawKit
section New
variable {p : Program} {l : Launch} {e : Env} {R : Room} {s : State} {m : MethodId} {args : Array Value} {below : List Frame} {meth : Method} {c : Code} {T : State} {locs : List Loc} {cells slots : Nat}
theorem retI (X : Stand p l e R s m args below meth c T locs cells slots) (hx : p.tables.exec = Jvm.exec) {pc : Nat} {Ls : Array Slot} {z : Int32} {rest : List Value} (hret : meth.sig.returnType = some .int) (hd : decode c.code pc = .ok (.ireturn, 1)) {fs : List Frame}
    (hl : ∀ (f : JFrame) (acts : List Action), f.method = m → f.locked = none → f.entered = [] → (doReturn e (T.setTop f) acts (some (.int z))).1 = T.setFrames fs) : Steps p.tables e below (T.setTop (mkF m pc Ls (.int z :: rest))) (T.setFrames fs) := by
  have hm' : T.vm.method? m = some meth := X.method'
  have hn : narrow .int (.int z) = .int z := rfl
  show Steps p.tables e below (T.setTop { method := m, pc := pc, locals := Ls, stack := _ :: rest, locked := none }) _
  jvm_step X.here [X.here.top, hx, hd, hm', hret, hn]
  first | (intro acts; rw [hl _ acts rfl rfl rfl]) | rw [hl _ _ rfl rfl rfl]
  exact Steps.refl _
end New
end Jvm.RoadKit
namespace Jvm.FP.Core
def c31 : UInt64 := 4746794007248502784
theorem ow_c31 : val64 c31 = .fin false 4503599627370496 (-21) := by decide +kernel
theorem ow_p : 2 ^ b64.p = 9007199254740992 := by decide +kernel
theorem ow_quot {f : Fmt} {s t : Bool} {c d : Nat} {q r : Int} (hd : d ≠ 0) : quotient f (.fin s c q) (.fin t d r) = roundRatio f (s != t) c d (q - r) := by
  show (if d = 0 then (if c = 0 then Datum.nan else Datum.inf (s != t)) else roundRatio f (s != t) c d (q - r)) = _
  rw [if_neg hd]
theorem ow_shape (a : Int64) (h0 : a.toInt ≠ 0) (h1 : a.toInt.natAbs ≤ 2147483648) : ∃ c q, val64 (l2d a) = .fin (decide (a.toInt < 0)) c q ∧ 0 < c ∧ fits b64 (.fin (decide (a.toInt < 0)) c q) ∧ -54 ≤ q ∧ c * 2 ^ q.toNat = a.toInt.natAbs * 2 ^ (-q).toNat := by
  obtain ⟨c, q, e⟩ := l2d_shape a
  have f := val64_fits (l2d a)
  rw [e] at f
  have w := l2d_whole (a := a) (by unfold Small53; omega)
  rw [e] at w
  have n := whole_natAbs w
  have z := whole_zero w
  refine ⟨c, q, e, by omega, f, ?_, n⟩
  refine Int.le_of_not_gt fun hq => ?_
  have q0 : q.toNat = 0 := by omega
  rw [q0, Nat.pow_zero, Nat.mul_one] at n
  have k1 : 1 * 2 ^ 54 ≤ a.toInt.natAbs * 2 ^ (-q).toNat := Nat.mul_le_mul (by omega) (Nat.pow_le_pow_right (by decide) (by omega))
  have k2 := f.1
  have e2 : (2 : Nat) ^ 54 = 18014398509481984 := by decide
  rw [ow_p] at k2
  rw [e2, ← n] at k1
  omega
theorem ow_rr (a : Int64) (h0 : a.toInt ≠ 0) (h1 : a.toInt.natAbs ≤ 2147483648) : ∃ c q, val64 (ddiv (l2d a) c31) = .fin (decide (a.toInt < 0)) c (q - 31) ∧ 0 < c ∧ c * 2 ^ q.toNat = a.toInt.natAbs * 2 ^ (-q).toNat := by
  obtain ⟨c, q, e, cp, f, hq, n⟩ := ow_shape a h0 h1
  refine ⟨c, q, ?_, cp, n⟩
  rw [val64_ddiv, e, ow_c31, ow_quot (by decide)]
  have s1 : (decide (a.toInt < 0) != false) = decide (a.toInt < 0) := by cases decide (a.toInt < 0) <;> rfl
  rw [s1]
  obtain ⟨f1, f2, f3, f4⟩ := f
  have qm := qmin_b64
  refine roundRatio_exact good_b64 (by decide) ⟨f1, by omega, by omega, Or.inr (f4.resolve_left (by omega))⟩ ?_
  have e2 : (2 : Nat) ^ 52 = 4503599627370496 := by decide
  rw [show (q - -21 - (q - 31)).toNat = 52 by omega, show (q - 31 - (q - -21)).toNat = 0 by omega, Nat.pow_zero, Nat.mul_one, e2]
theorem ow_num {c1 c0 B U : Nat} {q1 q0 : Int} (n1 : c1 * 2 ^ q1.toNat = B * 2 ^ (-q1).toNat) (n0 : c0 * 2 ^ q0.toNat = U * 2 ^ (-q0).toNat) : c1 * U * 2 ^ (q1 - (q0 - 31) - 0).toNat = B * 2147483648 * c0 * 2 ^ (0 - (q1 - (q0 - 31))).toNat := by
  have e31 : (2147483648 : Nat) = 2 ^ 31 := by decide
  refine Nat.eq_of_mul_eq_mul_right (Nat.two_pow_pos (q1.toNat + (-q0).toNat)) ?_
  have h1 : (-q1).toNat + q0.toNat + (q1 - (q0 - 31) - 0).toNat = 31 + (0 - (q1 - (q0 - 31))).toNat + (q1.toNat + (-q0).toNat) := by omega
  have h2 : 2 ^ (-q1).toNat * 2 ^ q0.toNat * 2 ^ (q1 - (q0 - 31) - 0).toNat = 2147483648 * 2 ^ (0 - (q1 - (q0 - 31))).toNat * 2 ^ (q1.toNat + (-q0).toNat) := by
    rw [← Nat.pow_add, ← Nat.pow_add, h1, e31, ← Nat.pow_add, ← Nat.pow_add]
  have h3 : 2 ^ (q1.toNat + (-q0).toNat) = 2 ^ q1.toNat * 2 ^ (-q0).toNat := Nat.pow_add ..
  generalize 2 ^ (q1 - (q0 - 31) - 0).toNat = E at *
  generalize 2 ^ (0 - (q1 - (q0 - 31))).toNat = F at *
  generalize 2 ^ (q1.toNat + (-q0).toNat) = G at *
  generalize 2 ^ q1.toNat = a1 at *
  generalize 2 ^ (-q1).toNat = b1 at *
  generalize 2 ^ q0.toNat = a0 at *
  generalize 2 ^ (-q0).toNat = b0 at *
  calc c1 * U * E * G = (c1 * a1) * (U * b0) * E := by rw [h3]; ac_rfl
    _ = B * c0 * (b1 * a0 * E) := by rw [n1, ← n0]; ac_rfl
    _ = B * 2147483648 * c0 * F * G := by rw [h2]; ac_rfl
theorem ow_next (b u : Int64) (b0 : 0 < b.toInt) (b1 : b.toInt ≤ 2147483648) (u0 : u.toInt ≠ 0) (u1 : u.toInt.natAbs ≤ 2147483648) : val64 (ddiv (l2d b) (ddiv (l2d u) c31)) = roundRatio b64 (decide (u.toInt < 0)) (b.toInt.natAbs * 2147483648) u.toInt.natAbs 0 := by
  obtain ⟨c0, q0, e0, p0, n0⟩ := ow_rr u u0 u1
  obtain ⟨c1, q1, e1, p1, -, -, n1⟩ := ow_shape b (by omega) (by omega)
  rw [val64_ddiv, e0, e1, ow_quot (by omega)]
  have s1 : (decide (b.toInt < 0) != decide (u.toInt < 0)) = decide (u.toInt < 0) := by
    have h : decide (b.toInt < 0) = false := decide_eq_false (by omega)
    rw [h]; cases decide (u.toInt < 0) <;> rfl
  rw [s1]
  exact roundRatio_congr p0 (by omega) (ow_num n1 n0)
theorem ow_iu (c : Nat) : inUnits c 0 b64.qmin = c * one64 := by
  have e9 : (0 - b64.qmin).toNat = 1074 := by decide +kernel
  unfold inUnits one64
  rw [e9]
theorem ow_V (c : Nat) (hc : c < 9007199254740992) : ∃ V, fits b64 V ∧ V ≠ .nan ∧ zmag b64 V = c * one64 ∧ ∃ s c q, V = .fin s c q := by
  obtain ⟨c', q', e1, e2⟩ := round_exact good_b64 false (c := c) (q := 0) (by rw [ow_p]; exact hc) (by decide +kernel) (by decide +kernel)
  refine ⟨.fin false c' q', e1 ▸ round_fits good_b64 _, (fun h => by cases h), ?_, _, _, _, rfl⟩
  have z : zmag b64 (.fin false c' q') = inUnits c' q' b64.qmin := rfl
  rw [z, e2, ow_iu]
theorem ow_one : 2 ^ (b64.qmin - b64.qmin).toNat = 1 := by rw [Int.sub_self]; rfl
theorem ow_ge (s : Bool) (b U A : Nat) (b1 : b ≤ 4294967296) (U0 : 0 < U) (h : b * U ≤ A) : b * one64 ≤ zmag b64 (roundRatio b64 s A U 0) := by
  obtain ⟨V, f, n, z, g⟩ := ow_V b (by omega)
  rw [← z]
  refine zmag_roundRatio_ge good_b64 (e0 := b64.qmin) U0 f (Int.le_refl _) (by decide +kernel) ?_
  rw [z, ow_iu, ow_one, Nat.mul_one, Nat.mul_right_comm]
  exact Nat.mul_le_mul_right _ h
theorem ow_arith {A U k Z H T O c' : Nat} (U0 : 0 < U) (hT : U ≤ T) (hO : O = T * H) (H0 : 0 < H) (hc : c' = A * T / U) (h : A < (k + 1) * U) (nr : (((A * O : Nat) : Int) - (Z : Int) * (U : Int)).natAbs ≤ (((A * O : Nat) : Int) - ((c' * H : Nat) : Int) * (U : Int)).natAbs) : Z < (k + 1) * O := by
  refine Nat.lt_of_not_le fun hz => ?_
  have dm := Nat.div_add_mod (A * T) U
  have hr := Nat.mod_lt (A * T) U0
  rw [← hc] at dm
  generalize A * T % U = r at dm hr
  have e1 : A * O = c' * H * U + r * H := by
    rw [hO, ← Nat.mul_assoc, ← dm, Nat.add_mul]
    congr 1
    ac_rfl
  have e2 : r * H < O := by
    rw [hO]
    exact Nat.lt_of_lt_of_le (Nat.mul_lt_mul_of_pos_right hr H0) (Nat.mul_le_mul_right _ hT)
  have e3 : (k + 1) * O * U ≤ Z * U := Nat.mul_le_mul_right _ hz
  have e4 : (A + 1) * O ≤ (k + 1) * U * O := Nat.mul_le_mul_right _ h
  have e5 : (k + 1) * U * O = (k + 1) * O * U := Nat.mul_right_comm ..
  have e6 : (A + 1) * O = A * O + O := Nat.succ_mul ..
  rw [← Int.natCast_mul, ← Int.natCast_mul] at nr
  generalize (k + 1) * O * U = w1 at *
  generalize (k + 1) * U * O = w2 at *
  generalize (A + 1) * O = w3 at *
  generalize A * O = x at *
  generalize Z * U = y at *
  generalize c' * H * U = w at *
  generalize r * H = v at *
  clear hO hc dm hr h hT
  omega
theorem ow_log (U : Nat) (U0 : 0 < U) (hU : U ≤ 2147483648) : ∃ t : Nat, U ≤ 2 ^ t ∧ 2 ^ t ≤ U * 2 ∧ t ≤ 32 := by
  have t1 : U < 2 ^ (U.log2 + 1) := Nat.lt_log2_self
  have t2 : 2 ^ U.log2 ≤ U := Nat.log2_self_le (by omega)
  have t3 : 2 ^ (U.log2 + 1) = 2 ^ U.log2 * 2 := Nat.pow_succ ..
  have e : (2147483648 : Nat) = 2 ^ 31 := by decide
  have t4 : 2 ^ U.log2 ≤ 2 ^ 31 := by rw [← e]; omega
  have t5 := (Nat.pow_le_pow_iff_right (by decide : 1 < 2)).mp t4
  exact ⟨U.log2 + 1, Nat.le_of_lt t1, by rw [t3]; exact Nat.mul_le_mul_right _ t2, by omega⟩
theorem ow_lt (s : Bool) (A U k : Nat) (U0 : 0 < U) (hU : U ≤ 2147483648) (hA : A ≤ 4294967296) (h : A < (k + 1) * U) : zmag b64 (roundRatio b64 s A U 0) < (k + 1) * one64 := by
  obtain ⟨V, f, n, z, g⟩ := ow_V A (by omega)
  have le := zmag_roundRatio_le (s := s) (A := A) (e := 0) good_b64 (e0 := b64.qmin) U0 f n (Int.le_refl _) (by decide +kernel) (by
    rw [z, ow_iu, ow_one, Nat.mul_one]
    exact Nat.le_mul_of_pos_right _ U0)
  rcases roundRatio_cases b64 s A U 0 with ⟨c, q, hR⟩ | hR
  · obtain ⟨t, t1, t2, t3⟩ := ow_log U U0 hU
    have hc' : A * 2 ^ t / U < 2 ^ b64.p := by
      rw [ow_p]
      have q1 : A * 2 ^ t ≤ U * (2 * A) := by
        refine Nat.le_trans (Nat.mul_le_mul_left A t2) (Nat.le_of_eq ?_)
        ac_rfl
      have q2 := Nat.div_le_of_le_mul q1
      omega
    have nr := roundRatio_nearest good_b64 U0 hR hc' (q' := -(t : Int)) (by rw [qmin_b64]; omega) (Int.le_refl _) (by decide +kernel)
    unfold distance at nr
    have zc : zmag b64 (.fin s c q) = inUnits c q b64.qmin := rfl
    have iu : inUnits (A * 2 ^ t / U) (-(t : Int)) b64.qmin = A * 2 ^ t / U * 2 ^ (1074 - t) := by
      unfold inUnits
      rw [qmin_b64, show (-(t : Int) - -1074).toNat = 1074 - t by omega]
    have hO : one64 = 2 ^ t * 2 ^ (1074 - t) := by
      unfold one64
      rw [← Nat.pow_add]
      congr 1
      omega
    rw [hR, zc]
    rw [ow_iu, iu] at nr
    exact ow_arith U0 t1 hO (Nat.two_pow_pos _) rfl h nr
  · exfalso
    obtain ⟨s1, c1, q1, rfl⟩ := g
    have top := zmag_lt_top good_b64 f
    rw [hR] at le
    exact absurd (Nat.lt_of_le_of_lt le top) (Nat.lt_irrefl _)
theorem ow_ne (b u : Int64) (b0 : 0 < b.toInt) (b1 : b.toInt ≤ 2147483648) (u0 : u.toInt ≠ 0) (u1 : u.toInt.natAbs ≤ 2147483648) : val64 (ddiv (l2d b) (ddiv (l2d u) c31)) ≠ .nan := by
  rw [ow_next b u b0 b1 u0 u1]
  exact roundRatio_ne_nan _ _ _ _ _
theorem ow_pos (W : Nat) (b : Int) (h : b.natAbs ≤ W) (b0 : 0 < b) (b1 : b ≤ 2147483647) : b ≤ max (-2 ^ 31) (min (2 ^ 31 - 1) (signed false W)) := by
  have e : signed false W = (W : Int) := rfl
  rw [e]
  omega
theorem ow_neg (W : Nat) (b : Int) (h : b.natAbs ≤ W) (b0 : 0 < b) : max (-2 ^ 31) (min (2 ^ 31 - 1) (signed true W)) < 0 := by
  have e : signed true W = -(W : Int) := rfl
  rw [e]
  omega
theorem ow_min (W : Nat) : max (-2 ^ 31) (min (2 ^ 31 - 1) (signed false W)) = min 2147483647 (W : Int) := by
  have e : signed false W = (W : Int) := rfl
  rw [e]
  omega
theorem ow_up (b u : Int64) (b0 : 0 < b.toInt) (b1 : b.toInt ≤ 2147483647) (u0 : 0 < u.toInt) (u1 : u.toInt ≤ 2147483647) : b.toInt ≤ (d2i (ddiv (l2d b) (ddiv (l2d u) c31))).toInt := by
  rw [d2i_val (ow_ne b u b0 (by omega) (by omega) (by omega)), ow_next b u b0 (by omega) (by omega) (by omega), sgn_roundRatio]
  have s0 : decide (u.toInt < 0) = false := decide_eq_false (by omega)
  rw [s0]
  have g := ow_ge false b.toInt.natAbs u.toInt.natAbs (b.toInt.natAbs * 2147483648) (by omega) (by omega) (Nat.mul_le_mul_left _ (by omega))
  have k := (Nat.le_div_iff_mul_le one64_pos).mpr g
  exact ow_pos _ _ k b0 b1
theorem ow_dn (b u : Int64) (b0 : 0 < b.toInt) (b1 : b.toInt ≤ 2147483647) (u0 : u.toInt < 0) (u1 : u.toInt.natAbs ≤ 2147483648) : (d2i (ddiv (l2d b) (ddiv (l2d u) c31))).toInt < 0 := by
  rw [d2i_val (ow_ne b u b0 (by omega) (by omega) (by omega)), ow_next b u b0 (by omega) (by omega) (by omega), sgn_roundRatio]
  have s0 : decide (u.toInt < 0) = true := decide_eq_true u0
  rw [s0]
  have g := ow_ge true b.toInt.natAbs u.toInt.natAbs (b.toInt.natAbs * 2147483648) (by omega) (by omega) (Nat.mul_le_mul_left _ (by omega))
  have k := (Nat.le_div_iff_mul_le one64_pos).mpr g
  exact ow_neg _ _ k b0
theorem ow_ex (b u : Int64) (b0 : 0 < b.toInt) (b1 : b.toInt ≤ 2) (u0 : 0 < u.toInt) (u1 : u.toInt ≤ 2147483647) : (d2i (ddiv (l2d b) (ddiv (l2d u) c31))).toInt = min 2147483647 (b.toInt * 2147483648 / u.toInt) := by
  rw [d2i_val (ow_ne b u b0 (by omega) (by omega) (by omega)), ow_next b u b0 (by omega) (by omega) (by omega), sgn_roundRatio]
  have s0 : decide (u.toInt < 0) = false := decide_eq_false (by omega)
  rw [s0]
  have eb : b.toInt = (b.toInt.natAbs : Int) := by omega
  have eu : u.toInt = (u.toInt.natAbs : Int) := by omega
  have hb : b.toInt.natAbs ≤ 2 := by omega
  have hu : 0 < u.toInt.natAbs := by omega
  have hu2 : u.toInt.natAbs ≤ 2147483648 := by omega
  rw [eb, eu]
  generalize b.toInt.natAbs = B at *
  generalize u.toInt.natAbs = U at *
  have dl : B * 2147483648 / U ≤ B * 2147483648 := Nat.div_le_self _ _
  have lo := ow_ge false (B * 2147483648 / U) U (B * 2147483648) (by omega) hu (Nat.div_mul_le_self _ _)
  have hi := ow_lt false (B * 2147483648) U (B * 2147483648 / U) hu hu2 (by omega) (Nat.lt_of_lt_of_eq (Nat.lt_mul_div_succ _ hu) (Nat.mul_comm _ _))
  have k := Nat.div_eq_of_lt_le lo hi
  have ci : (((B * 2147483648 / U : Nat)) : Int) = (B : Int) * 2147483648 / (U : Int) := by
    rw [Int.natCast_ediv, Int.natCast_mul]; rfl
  simp only [Int.natAbs_natCast]
  rw [k, ← ci]
  exact ow_min _
end Jvm.FP.Core
namespace Jvm.Pilot.@@N@@
open Jvm Jvm.ClassFile Sem Op Lib Jvm.Free Jvm.Stand Jvm.LawKit Jvm.RoadKit Bundle Jvm.Pilot.@@N@@.Jvm.D
open Jvm.Free.XT (ushr ushrL cmpL)
section GoKit
open Jvm.Free.XT (ushr ushrL cmpL)
variable {p : Program} {l : Launch} {e : Env} {R : Room} {s : State} {m : MethodId} {args : Array Value} {below : List Frame} {meth : Method} {c : Code} {T : State} {locs : List Loc} {cells slots : Nat} {Q : Option Value → Heap → List Loc → Prop} {rc rs : Nat} {Fi : Outcome → State → Prop} {bytes : ByteArray} {pc pc' : Nat} {Ls : Array Slot} {rest : List Value}
def GoE (p : Program) (e : Env) (below : List Frame) (Fi : Outcome → State → Prop) (S : State) : Prop :=
  ∃ t o, Steps p.tables e below S t ∧ t.status = .running ∧ Ended t below o ∧ Fi o t
abbrev Go (p : Program) (e : Env) (below : List Frame) (s : State) (rc rs : Nat) (Q : Option Value → Heap → List Loc → Prop) (S : State) : Prop :=
  GoE p e below (fun o t => ∃ v L, o = .returned v ∧ Q v t.heap L ∧ FrameEnd s o t L rc rs) S
theorem GoE.pull {a b : State} (h : GoE p e below Fi b) (f : ∀ t, Steps p.tables e below b t → Steps p.tables e below a t) : GoE p e below Fi a := by
  obtain ⟨t, o, h1, h2⟩ := h
  exact ⟨t, o, f t h1, h2⟩
def Ctr (l : Launch) (Z : State) (y : MethodName) (bytes : ByteArray) (ml : Nat) (ret : Option FieldType) (ws : List Jvm.Cond) (rm : Room) (as : Array Value) (h0 : Heap) (Q : Option Value → Heap → List Loc → Prop) : Prop :=
  MetFree l y (head1 (Jvm.Cond.code y bytes ml ret :: ws) rm) (fun a U => a = as ∧ Z.Warmed39 U.vm ∧ U.heap = h0) (fun _ _ _ _ _ => True) (fun _ U o U' => ∃ v L, o = .returned v ∧ Q v U'.heap L ∧ FrameEnd U o U' L rm.cells rm.slots)
theorem Ctr.enter {Z : State} {y : MethodName} {ml : Nat} {ret : Option FieldType} {ws : List Jvm.Cond} {rm : Room} {as : Array Value} {h0 : Heap} (hpl : plainFor y = true) (hef : ∀ m, entryFrame m as ml = mkF m 0 Ls [])
    (body : ∀ (p : Program) (e : Env) (s : State) (m : MethodId) (below : List Frame) (meth : Method) (c : Code) (T : State), p.tables.exec = Jvm.exec → c.code = bytes → c.maxLocals = ml → s.vm.findClass y.cls = some m.cls → meth.name = y.name → meth.sig.returnType = ret → meth.locks = false → Z.Warmed39 s.vm → s.heap = h0 →
      Stand p l e rm s m as below meth c T [] 0 0 → T.heap = h0 → Go p e below s rm.cells rm.slots Q (T.setTop (mkF m 0 Ls []))) : Ctr l Z y bytes ml ret ws rm as h0 Q := by
  refine MetFree.of_bodySF hpl hisR ?_
  intro p e s m args below meth c s₁ Bd hml0 hP hK
  obtain ⟨rfl, hZ, hh⟩ := hP
  have h := body p e s m below meth c s₁ Bd.exec Bd.bytes hml0 (findClass_of_methodNamed Bd.named) (name_of_methodNamed Bd.named Bd.method).1 Bd.returns (BodyLoose.notSynchronized Bd) hZ hh (Stand.of_body Bd) (by rw [← hh, Bd.state]; rfl)
  exact h.pull fun t k => castTop (hef m) k
theorem g_iload (X : Stand p l e R s m args below meth c T locs cells slots) (hx : p.tables.exec = Jvm.exec) {k : Nat} {v : Int32} (hby : c.code = bytes) (hd : decode bytes pc = .ok (.iload k, 2)) (hp : pc + 2 = pc') (hl : Ls[k]? = some (.val (.int v)))
    (H : GoE p e below Fi (T.setTop (mkF m pc' Ls (.int v :: rest)))) : GoE p e below Fi (T.setTop (mkF m pc Ls rest)) := by
  subst hp; exact H.pull fun t k => Jvm.Free.XS.iload X.here hx rfl (hb hby hd) hl k
theorem g_iloadN (X : Stand p l e R s m args below meth c T locs cells slots) (hx : p.tables.exec = Jvm.exec) {k : Fin 4} {v : Int32} (hby : c.code = bytes) (hd : decode bytes pc = .ok (.iload_n k, 1)) (hp : pc + 1 = pc') (hl : Ls[k.val]? = some (.val (.int v)))
    (H : GoE p e below Fi (T.setTop (mkF m pc' Ls (.int v :: rest)))) : GoE p e below Fi (T.setTop (mkF m pc Ls rest)) := by
  subst hp; exact H.pull fun t k => Jvm.Free.XS.iloadN X.here hx rfl (hb hby hd) hl k
theorem g_istore (X : Stand p l e R s m args below meth c T locs cells slots) (hx : p.tables.exec = Jvm.exec) {k : Nat} {x : Int32} {l' : Array Slot} (hby : c.code = bytes) (hd : decode bytes pc = .ok (.istore k, 2)) (hp : pc + 2 = pc') (hl : storeLocals Ls k (.int x) = some l')
    (H : GoE p e below Fi (T.setTop (mkF m pc' l' rest))) : GoE p e below Fi (T.setTop (mkF m pc Ls (.int x :: rest))) := by
  subst hp; exact H.pull fun t k => Jvm.Free.XS.istore X.here hx rfl (hb hby hd) rfl hl k
theorem g_istoreN (X : Stand p l e R s m args below meth c T locs cells slots) (hx : p.tables.exec = Jvm.exec) {k : Fin 4} {x : Int32} {l' : Array Slot} (hby : c.code = bytes) (hd : decode bytes pc = .ok (.istore_n k, 1)) (hp : pc + 1 = pc') (hl : storeLocals Ls k.val (.int x) = some l')
    (H : GoE p e below Fi (T.setTop (mkF m pc' l' rest))) : GoE p e below Fi (T.setTop (mkF m pc Ls (.int x :: rest))) := by
  subst hp; exact H.pull fun t k => Jvm.Free.XS.istoreN X.here hx rfl (hb hby hd) rfl hl k
theorem g_lload (X : Stand p l e R s m args below meth c T locs cells slots) (hx : p.tables.exec = Jvm.exec) {k : Nat} {v : Int64} (hby : c.code = bytes) (hd : decode bytes pc = .ok (.lload k, 2)) (hp : pc + 2 = pc') (hl : Ls[k]? = some (.val (.long v)))
    (H : GoE p e below Fi (T.setTop (mkF m pc' Ls (.long v :: rest)))) : GoE p e below Fi (T.setTop (mkF m pc Ls rest)) := by
  subst hp; exact H.pull fun t k => Jvm.Free.XT.lload X.here hx rfl (hb hby hd) hl k
theorem g_lloadN (X : Stand p l e R s m args below meth c T locs cells slots) (hx : p.tables.exec = Jvm.exec) {k : Fin 4} {v : Int64} (hby : c.code = bytes) (hd : decode bytes pc = .ok (.lload_n k, 1)) (hp : pc + 1 = pc') (hl : Ls[k.val]? = some (.val (.long v)))
    (H : GoE p e below Fi (T.setTop (mkF m pc' Ls (.long v :: rest)))) : GoE p e below Fi (T.setTop (mkF m pc Ls rest)) := by
  subst hp; exact H.pull fun t k => Jvm.Free.XT.lloadN X.here hx rfl (hb hby hd) hl k
theorem g_lstore (X : Stand p l e R s m args below meth c T locs cells slots) (hx : p.tables.exec = Jvm.exec) {k : Nat} {x : Int64} {l' : Array Slot} (hby : c.code = bytes) (hd : decode bytes pc = .ok (.lstore k, 2)) (hp : pc + 2 = pc') (hl : storeLocals Ls k (.long x) = some l')
    (H : GoE p e below Fi (T.setTop (mkF m pc' l' rest))) : GoE p e below Fi (T.setTop (mkF m pc Ls (.long x :: rest))) := by
  subst hp; exact H.pull fun t k => Jvm.Free.XT.lstore X.here hx rfl (hb hby hd) rfl hl k
theorem g_lstoreN (X : Stand p l e R s m args below meth c T locs cells slots) (hx : p.tables.exec = Jvm.exec) {k : Fin 4} {x : Int64} {l' : Array Slot} (hby : c.code = bytes) (hd : decode bytes pc = .ok (.lstore_n k, 1)) (hp : pc + 1 = pc') (hl : storeLocals Ls k.val (.long x) = some l')
    (H : GoE p e below Fi (T.setTop (mkF m pc' l' rest))) : GoE p e below Fi (T.setTop (mkF m pc Ls (.long x :: rest))) := by
  subst hp; exact H.pull fun t k => Jvm.Free.XT.lstoreN X.here hx rfl (hb hby hd) rfl hl k
theorem g_dload (X : Stand p l e R s m args below meth c T locs cells slots) (hx : p.tables.exec = Jvm.exec) {k : Nat} {v : UInt64} (hby : c.code = bytes) (hd : decode bytes pc = .ok (.dload k, 2)) (hp : pc + 2 = pc') (hl : Ls[k]? = some (.val (.double v)))
    (H : GoE p e below Fi (T.setTop (mkF m pc' Ls (.double v :: rest)))) : GoE p e below Fi (T.setTop (mkF m pc Ls rest)) := by
  subst hp; exact H.pull fun t k => Jvm.Free.XS.dload X.here hx rfl (hb hby hd) hl k
theorem g_dstore (X : Stand p l e R s m args below meth c T locs cells slots) (hx : p.tables.exec = Jvm.exec) {k : Nat} {x : UInt64} {l' : Array Slot} (hby : c.code = bytes) (hd : decode bytes pc = .ok (.dstore k, 2)) (hp : pc + 2 = pc') (hl : storeLocals Ls k (.double x) = some l')
    (H : GoE p e below Fi (T.setTop (mkF m pc' l' rest))) : GoE p e below Fi (T.setTop (mkF m pc Ls (.double x :: rest))) := by
  subst hp; exact H.pull fun t k => Jvm.Free.XS.dstore X.here hx rfl (hb hby hd) rfl hl k
theorem g_iconst (X : Stand p l e R s m args below meth c T locs cells slots) (hx : p.tables.exec = Jvm.exec) {i : Int} {z : Int32} (hby : c.code = bytes) (hd : decode bytes pc = .ok (.iconst i, 1)) (hp : pc + 1 = pc') (hz : z = Int32.ofInt i)
    (H : GoE p e below Fi (T.setTop (mkF m pc' Ls (.int z :: rest)))) : GoE p e below Fi (T.setTop (mkF m pc Ls rest)) := by
  subst hp; exact H.pull fun t k => Jvm.Free.XS.iconst X.here hx rfl (hb hby hd) (hz ▸ k)
theorem g_bipush (X : Stand p l e R s m args below meth c T locs cells slots) (hx : p.tables.exec = Jvm.exec) {i : Int} {z : Int32} (hby : c.code = bytes) (hd : decode bytes pc = .ok (.bipush i, 2)) (hp : pc + 2 = pc') (hz : z = (Int8.ofInt i).toInt32)
    (H : GoE p e below Fi (T.setTop (mkF m pc' Ls (.int z :: rest)))) : GoE p e below Fi (T.setTop (mkF m pc Ls rest)) := by
  subst hp; exact H.pull fun t k => Jvm.Free.XS.bipush X.here hx rfl (hb hby hd) (hz ▸ k)
theorem g_lconst (X : Stand p l e R s m args below meth c T locs cells slots) (hx : p.tables.exec = Jvm.exec) {i : Fin 2} {z : Int64} (hby : c.code = bytes) (hd : decode bytes pc = .ok (.lconst i, 1)) (hp : pc + 1 = pc') (hz : z = Int64.ofNat i)
    (H : GoE p e below Fi (T.setTop (mkF m pc' Ls (.long z :: rest)))) : GoE p e below Fi (T.setTop (mkF m pc Ls rest)) := by
  subst hp; exact H.pull fun t k => Jvm.Free.XT.lconst X.here hx rfl (hb hby hd) (hz ▸ k)
theorem g_ldcI (X : Stand p l e R s m args below meth c T locs cells slots) (hx : p.tables.exec = Jvm.exec) {Z : State} {a0 : Array Value} (hZ : Z.Warmed39 s.vm) {own : String} (hown : s.vm.findClass own = some m.cls) {index : Nat} {v : Int32} (hby : c.code = bytes) (hd : decode bytes pc = .ok (.ldc index, 2)) (hp : pc + 2 = pc') (w : (Jvm.Cond.constant own index v).before a0 Z = true)
    (H : GoE p e below Fi (T.setTop (mkF m pc' Ls (.int v :: rest)))) : GoE p e below Fi (T.setTop (mkF m pc Ls rest)) := by
  subst hp; exact H.pull fun t k => X.ldcInt hx hown (mvT hZ w) (g := mkF m pc Ls rest) rfl (hb hby hd) _ k
theorem g_ldcL (X : Stand p l e R s m args below meth c T locs cells slots) (hx : p.tables.exec = Jvm.exec) {Z : State} {a0 : Array Value} (hZ : Z.Warmed39 s.vm) {own : String} (hown : s.vm.findClass own = some m.cls) {index : Nat} {v : Int64} (hby : c.code = bytes) (hd : decode bytes pc = .ok (.ldc2_w index, 3)) (hp : pc + 3 = pc') (w : (Jvm.Cond.constantLong own index v).before a0 Z = true)
    (H : GoE p e below Fi (T.setTop (mkF m pc' Ls (.long v :: rest)))) : GoE p e below Fi (T.setTop (mkF m pc Ls rest)) := by
  subst hp; exact H.pull fun t k => X.ldc2Long hx hown (mvT hZ w) (g := mkF m pc Ls rest) rfl (hb hby hd) _ k
theorem g_ldcD (X : Stand p l e R s m args below meth c T locs cells slots) (hx : p.tables.exec = Jvm.exec) {Z : State} {a0 : Array Value} (hZ : Z.Warmed39 s.vm) {own : String} (hown : s.vm.findClass own = some m.cls) {index : Nat} {v : UInt64} (hby : c.code = bytes) (hd : decode bytes pc = .ok (.ldc2_w index, 3)) (hp : pc + 3 = pc') (w : (Jvm.Cond.constantDouble own index v).before a0 Z = true)
    (H : GoE p e below Fi (T.setTop (mkF m pc' Ls (.double v :: rest)))) : GoE p e below Fi (T.setTop (mkF m pc Ls rest)) := by
  subst hp; exact H.pull fun t k => X.ldc2DoubleC hx hown (mvT hZ w) (g := mkF m pc Ls rest) rfl (hb hby hd) _ k
theorem g_iadd (X : Stand p l e R s m args below meth c T locs cells slots) (hx : p.tables.exec = Jvm.exec) {x y : Int32} (hby : c.code = bytes) (hd : decode bytes pc = .ok (.iadd, 1)) (hp : pc + 1 = pc') 
    (H : GoE p e below Fi (T.setTop (mkF m pc' Ls (.int (x + y) :: rest)))) : GoE p e below Fi (T.setTop (mkF m pc Ls (.int y :: .int x :: rest))) := by
  subst hp; exact H.pull fun t k => Jvm.Free.XS.iadd X.here hx rfl (hb hby hd) rfl k
theorem g_iand (X : Stand p l e R s m args below meth c T locs cells slots) (hx : p.tables.exec = Jvm.exec) {x y : Int32} (hby : c.code = bytes) (hd : decode bytes pc = .ok (.iand, 1)) (hp : pc + 1 = pc') 
    (H : GoE p e below Fi (T.setTop (mkF m pc' Ls (.int (x &&& y) :: rest)))) : GoE p e below Fi (T.setTop (mkF m pc Ls (.int y :: .int x :: rest))) := by
  subst hp; exact H.pull fun t k => Jvm.Free.XS.iand X.here hx rfl (hb hby hd) rfl k
theorem g_irem (X : Stand p l e R s m args below meth c T locs cells slots) (hx : p.tables.exec = Jvm.exec) {x y : Int32} (hby : c.code = bytes) (hd : decode bytes pc = .ok (.irem, 1)) (hp : pc + 1 = pc') (hy : y ≠ 0)
    (H : GoE p e below Fi (T.setTop (mkF m pc' Ls (.int (x - (x / y) * y) :: rest)))) : GoE p e below Fi (T.setTop (mkF m pc Ls (.int y :: .int x :: rest))) := by
  subst hp; exact H.pull fun t k => Jvm.Free.XS.irem X.here hx rfl (hb hby hd) rfl hy k
theorem g_ladd (X : Stand p l e R s m args below meth c T locs cells slots) (hx : p.tables.exec = Jvm.exec) {x y : Int64} (hby : c.code = bytes) (hd : decode bytes pc = .ok (.ladd, 1)) (hp : pc + 1 = pc') 
    (H : GoE p e below Fi (T.setTop (mkF m pc' Ls (.long (x + y) :: rest)))) : GoE p e below Fi (T.setTop (mkF m pc Ls (.long y :: .long x :: rest))) := by
  subst hp; exact H.pull fun t k => Jvm.Free.XT.ladd X.here hx rfl (hb hby hd) rfl k
theorem g_lmul (X : Stand p l e R s m args below meth c T locs cells slots) (hx : p.tables.exec = Jvm.exec) {x y : Int64} (hby : c.code = bytes) (hd : decode bytes pc = .ok (.lmul, 1)) (hp : pc + 1 = pc') 
    (H : GoE p e below Fi (T.setTop (mkF m pc' Ls (.long (x * y) :: rest)))) : GoE p e below Fi (T.setTop (mkF m pc Ls (.long y :: .long x :: rest))) := by
  subst hp; exact H.pull fun t k => Jvm.Free.XT.lmul X.here hx rfl (hb hby hd) rfl k
theorem g_ldiv (X : Stand p l e R s m args below meth c T locs cells slots) (hx : p.tables.exec = Jvm.exec) {x y : Int64} (hby : c.code = bytes) (hd : decode bytes pc = .ok (.ldiv, 1)) (hp : pc + 1 = pc') (hy : y ≠ 0)
    (H : GoE p e below Fi (T.setTop (mkF m pc' Ls (.long (x / y) :: rest)))) : GoE p e below Fi (T.setTop (mkF m pc Ls (.long y :: .long x :: rest))) := by
  subst hp; exact H.pull fun t k => Jvm.Free.XT.ldiv X.here hx rfl (hb hby hd) rfl hy k
theorem g_lshl (X : Stand p l e R s m args below meth c T locs cells slots) (hx : p.tables.exec = Jvm.exec) {x : Int64} {y : Int32} (hby : c.code = bytes) (hd : decode bytes pc = .ok (.lshl, 1)) (hp : pc + 1 = pc') 
    (H : GoE p e below Fi (T.setTop (mkF m pc' Ls (.long (x <<< (y.toInt64 &&& 63)) :: rest)))) : GoE p e below Fi (T.setTop (mkF m pc Ls (.int y :: .long x :: rest))) := by
  subst hp; exact H.pull fun t k => Jvm.Free.XT.lshl X.here hx rfl (hb hby hd) rfl k
theorem g_lushr (X : Stand p l e R s m args below meth c T locs cells slots) (hx : p.tables.exec = Jvm.exec) {x : Int64} {y : Int32} (hby : c.code = bytes) (hd : decode bytes pc = .ok (.lushr, 1)) (hp : pc + 1 = pc') 
    (H : GoE p e below Fi (T.setTop (mkF m pc' Ls (.long (ushrL x y) :: rest)))) : GoE p e below Fi (T.setTop (mkF m pc Ls (.int y :: .long x :: rest))) := by
  subst hp; exact H.pull fun t k => Jvm.Free.XT.lushr X.here hx rfl (hb hby hd) rfl k
theorem g_i2l (X : Stand p l e R s m args below meth c T locs cells slots) (hx : p.tables.exec = Jvm.exec) {x : Int32} (hby : c.code = bytes) (hd : decode bytes pc = .ok (.i2l, 1)) (hp : pc + 1 = pc') 
    (H : GoE p e below Fi (T.setTop (mkF m pc' Ls (.long x.toInt64 :: rest)))) : GoE p e below Fi (T.setTop (mkF m pc Ls (.int x :: rest))) := by
  subst hp; exact H.pull fun t k => Jvm.Free.XT.i2l X.here hx rfl (hb hby hd) rfl k
theorem g_l2i (X : Stand p l e R s m args below meth c T locs cells slots) (hx : p.tables.exec = Jvm.exec) {x : Int64} (hby : c.code = bytes) (hd : decode bytes pc = .ok (.l2i, 1)) (hp : pc + 1 = pc') 
    (H : GoE p e below Fi (T.setTop (mkF m pc' Ls (.int x.toInt32 :: rest)))) : GoE p e below Fi (T.setTop (mkF m pc Ls (.long x :: rest))) := by
  subst hp; exact H.pull fun t k => Jvm.Free.XT.l2i X.here hx rfl (hb hby hd) rfl k
theorem g_i2d (X : Stand p l e R s m args below meth c T locs cells slots) (hx : p.tables.exec = Jvm.exec) {x : Int32} (hby : c.code = bytes) (hd : decode bytes pc = .ok (.i2d, 1)) (hp : pc + 1 = pc') 
    (H : GoE p e below Fi (T.setTop (mkF m pc' Ls (.double (FP.l2d x.toInt64) :: rest)))) : GoE p e below Fi (T.setTop (mkF m pc Ls (.int x :: rest))) := by
  subst hp; exact H.pull fun t k => Jvm.Free.XS.i2dS X.here hx rfl (hb hby hd) rfl (i2d_w x) k
theorem g_ddiv (X : Stand p l e R s m args below meth c T locs cells slots) (hx : p.tables.exec = Jvm.exec) {x y : UInt64} (hby : c.code = bytes) (hd : decode bytes pc = .ok (.ddiv, 1)) (hp : pc + 1 = pc') (hn : Jvm.Free.Fl.NoNaN64 (FP.ddiv x y))
    (H : GoE p e below Fi (T.setTop (mkF m pc' Ls (.double (FP.ddiv x y) :: rest)))) : GoE p e below Fi (T.setTop (mkF m pc Ls (.double y :: .double x :: rest))) := by
  subst hp; exact H.pull fun t k => Jvm.Free.XS.ddivS X.here hx rfl (hb hby hd) rfl hn rfl k
theorem g_d2i (X : Stand p l e R s m args below meth c T locs cells slots) (hx : p.tables.exec = Jvm.exec) {x : UInt64} (hby : c.code = bytes) (hd : decode bytes pc = .ok (.d2i, 1)) (hp : pc + 1 = pc') 
    (H : GoE p e below Fi (T.setTop (mkF m pc' Ls (.int (FP.d2i x) :: rest)))) : GoE p e below Fi (T.setTop (mkF m pc Ls (.double x :: rest))) := by
  subst hp; exact H.pull fun t k => Jvm.Free.XS.d2iS X.here hx rfl (hb hby hd) rfl rfl k
theorem g_lcmp (X : Stand p l e R s m args below meth c T locs cells slots) (hx : p.tables.exec = Jvm.exec) {x y : Int64} (hby : c.code = bytes) (hd : decode bytes pc = .ok (.lcmp, 1)) (hp : pc + 1 = pc') 
    (H : GoE p e below Fi (T.setTop (mkF m pc' Ls (.int (cmpL x y) :: rest)))) : GoE p e below Fi (T.setTop (mkF m pc Ls (.long y :: .long x :: rest))) := by
  subst hp; exact H.pull fun t k => Jvm.Free.XT.lcmp X.here hx rfl (hb hby hd) rfl k
theorem g_goto (X : Stand p l e R s m args below meth c T locs cells slots) (hx : p.tables.exec = Jvm.exec) {o : Int} (hby : c.code = bytes) (hd : decode bytes pc = .ok (.goto o, 3)) (ho : 0 ≤ (pc : Int) + o) (hp : ((pc : Int) + o).toNat = pc')
    (H : GoE p e below Fi (T.setTop (mkF m pc' Ls rest))) : GoE p e below Fi (T.setTop (mkF m pc Ls rest)) :=
  H.pull fun t k => Jvm.Free.XS.goto X.here hx rfl rfl (hb hby hd) ho hp k
theorem g_icmp_eq (X : Stand p l e R s m args below meth c T locs cells slots) (hx : p.tables.exec = Jvm.exec) {o : Int} {pn : Nat} (hby : c.code = bytes) {x y : Int32} (hd : decode bytes pc = .ok (.if_icmp .eq o, 3)) (ho : 0 ≤ (pc : Int) + o) (hp : ((pc : Int) + o).toNat = pc') (hn : pc + 3 = pn)
    (HY : x = y → GoE p e below Fi (T.setTop (mkF m pc' Ls rest))) (HN : ¬ (x = y) → GoE p e below Fi (T.setTop (mkF m pn Ls rest))) : GoE p e below Fi (T.setTop (mkF m pc Ls (.int y :: .int x :: rest))) := by
  subst hn
  by_cases q : x = y
  · exact (HY q).pull fun t k => Jvm.Free.XS.icmpYes X.here hx rfl rfl (hb hby hd) rfl (teq q).1 ho hp k
  · have q' : ¬ (x = y) := by first | exact q | exact Decidable.not_not.mp q
    exact (HN q').pull fun t k => Jvm.Free.XS.icmpNo X.here hx rfl (hb hby hd) rfl (feq q').1 k
theorem g_if_eq (X : Stand p l e R s m args below meth c T locs cells slots) (hx : p.tables.exec = Jvm.exec) {o : Int} {pn : Nat} (hby : c.code = bytes) {x : Int32} (hd : decode bytes pc = .ok (.ifCond .eq o, 3)) (ho : 0 ≤ (pc : Int) + o) (hp : ((pc : Int) + o).toNat = pc') (hn : pc + 3 = pn)
    (HY : x = 0 → GoE p e below Fi (T.setTop (mkF m pc' Ls rest))) (HN : ¬ (x = 0) → GoE p e below Fi (T.setTop (mkF m pn Ls rest))) : GoE p e below Fi (T.setTop (mkF m pc Ls (.int x :: rest))) := by
  subst hn
  by_cases q : x = 0
  · exact (HY q).pull fun t k => Jvm.Free.XS.ifYes X.here hx rfl rfl (hb hby hd) rfl ((if0 _ _).trans (teq q).1) ho hp k
  · have q' : ¬ (x = 0) := by first | exact q | exact Decidable.not_not.mp q
    exact (HN q').pull fun t k => Jvm.Free.XS.ifNo X.here hx rfl (hb hby hd) rfl ((if0 _ _).trans (feq q').1) k
theorem cl_W (u v : Int64) : cmpL u v = lcmpW u v := rfl
theorem cl_gt (u v : Int64) : 0 < cmpL u v ↔ v < u := by rw [cl_W]; exact lw_gt u v
theorem g_icmp_ne (X : Stand p l e R s m args below meth c T locs cells slots) (hx : p.tables.exec = Jvm.exec) {o : Int} {pn : Nat} (hby : c.code = bytes) {x y : Int32} (hd : decode bytes pc = .ok (.if_icmp .ne o, 3)) (ho : 0 ≤ (pc : Int) + o) (hp : ((pc : Int) + o).toNat = pc') (hn : pc + 3 = pn)
    (HY : ¬ (x = y) → GoE p e below Fi (T.setTop (mkF m pc' Ls rest))) (HN : x = y → GoE p e below Fi (T.setTop (mkF m pn Ls rest))) : GoE p e below Fi (T.setTop (mkF m pc Ls (.int y :: .int x :: rest))) := by
  subst hn
  by_cases q : ¬ (x = y)
  · exact (HY q).pull fun t k => Jvm.Free.XS.icmpYes X.here hx rfl rfl (hb hby hd) rfl (feq q).2 ho hp k
  · have q' : x = y := by first | exact q | exact Decidable.not_not.mp q
    exact (HN q').pull fun t k => Jvm.Free.XS.icmpNo X.here hx rfl (hb hby hd) rfl (teq q').2 k
theorem g_if_ne (X : Stand p l e R s m args below meth c T locs cells slots) (hx : p.tables.exec = Jvm.exec) {o : Int} {pn : Nat} (hby : c.code = bytes) {x : Int32} (hd : decode bytes pc = .ok (.ifCond .ne o, 3)) (ho : 0 ≤ (pc : Int) + o) (hp : ((pc : Int) + o).toNat = pc') (hn : pc + 3 = pn)
    (HY : ¬ (x = 0) → GoE p e below Fi (T.setTop (mkF m pc' Ls rest))) (HN : x = 0 → GoE p e below Fi (T.setTop (mkF m pn Ls rest))) : GoE p e below Fi (T.setTop (mkF m pc Ls (.int x :: rest))) := by
  subst hn
  by_cases q : ¬ (x = 0)
  · exact (HY q).pull fun t k => Jvm.Free.XS.ifYes X.here hx rfl rfl (hb hby hd) rfl ((if0 _ _).trans (feq q).2) ho hp k
  · have q' : x = 0 := by first | exact q | exact Decidable.not_not.mp q
    exact (HN q').pull fun t k => Jvm.Free.XS.ifNo X.here hx rfl (hb hby hd) rfl ((if0 _ _).trans (teq q').2) k
theorem g_icmp_lt (X : Stand p l e R s m args below meth c T locs cells slots) (hx : p.tables.exec = Jvm.exec) {o : Int} {pn : Nat} (hby : c.code = bytes) {x y : Int32} (hd : decode bytes pc = .ok (.if_icmp .lt o, 3)) (ho : 0 ≤ (pc : Int) + o) (hp : ((pc : Int) + o).toNat = pc') (hn : pc + 3 = pn)
    (HY : x < y → GoE p e below Fi (T.setTop (mkF m pc' Ls rest))) (HN : ¬ (x < y) → GoE p e below Fi (T.setTop (mkF m pn Ls rest))) : GoE p e below Fi (T.setTop (mkF m pc Ls (.int y :: .int x :: rest))) := by
  subst hn
  by_cases q : x < y
  · exact (HY q).pull fun t k => Jvm.Free.XS.icmpYes X.here hx rfl rfl (hb hby hd) rfl (tlt q).1 ho hp k
  · have q' : ¬ (x < y) := by first | exact q | exact Decidable.not_not.mp q
    exact (HN q').pull fun t k => Jvm.Free.XS.icmpNo X.here hx rfl (hb hby hd) rfl (flt q').1 k
theorem g_if_lt (X : Stand p l e R s m args below meth c T locs cells slots) (hx : p.tables.exec = Jvm.exec) {o : Int} {pn : Nat} (hby : c.code = bytes) {x : Int32} (hd : decode bytes pc = .ok (.ifCond .lt o, 3)) (ho : 0 ≤ (pc : Int) + o) (hp : ((pc : Int) + o).toNat = pc') (hn : pc + 3 = pn)
    (HY : x < 0 → GoE p e below Fi (T.setTop (mkF m pc' Ls rest))) (HN : ¬ (x < 0) → GoE p e below Fi (T.setTop (mkF m pn Ls rest))) : GoE p e below Fi (T.setTop (mkF m pc Ls (.int x :: rest))) := by
  subst hn
  by_cases q : x < 0
  · exact (HY q).pull fun t k => Jvm.Free.XS.ifYes X.here hx rfl rfl (hb hby hd) rfl ((if0 _ _).trans (tlt q).1) ho hp k
  · have q' : ¬ (x < 0) := by first | exact q | exact Decidable.not_not.mp q
    exact (HN q').pull fun t k => Jvm.Free.XS.ifNo X.here hx rfl (hb hby hd) rfl ((if0 _ _).trans (flt q').1) k
theorem g_icmp_ge (X : Stand p l e R s m args below meth c T locs cells slots) (hx : p.tables.exec = Jvm.exec) {o : Int} {pn : Nat} (hby : c.code = bytes) {x y : Int32} (hd : decode bytes pc = .ok (.if_icmp .ge o, 3)) (ho : 0 ≤ (pc : Int) + o) (hp : ((pc : Int) + o).toNat = pc') (hn : pc + 3 = pn)
    (HY : ¬ (x < y) → GoE p e below Fi (T.setTop (mkF m pc' Ls rest))) (HN : x < y → GoE p e below Fi (T.setTop (mkF m pn Ls rest))) : GoE p e below Fi (T.setTop (mkF m pc Ls (.int y :: .int x :: rest))) := by
  subst hn
  by_cases q : ¬ (x < y)
  · exact (HY q).pull fun t k => Jvm.Free.XS.icmpYes X.here hx rfl rfl (hb hby hd) rfl (flt q).2.1 ho hp k
  · have q' : x < y := by first | exact q | exact Decidable.not_not.mp q
    exact (HN q').pull fun t k => Jvm.Free.XS.icmpNo X.here hx rfl (hb hby hd) rfl (tlt q').2.1 k
theorem g_icmp_gt (X : Stand p l e R s m args below meth c T locs cells slots) (hx : p.tables.exec = Jvm.exec) {o : Int} {pn : Nat} (hby : c.code = bytes) {x y : Int32} (hd : decode bytes pc = .ok (.if_icmp .gt o, 3)) (ho : 0 ≤ (pc : Int) + o) (hp : ((pc : Int) + o).toNat = pc') (hn : pc + 3 = pn)
    (HY : y < x → GoE p e below Fi (T.setTop (mkF m pc' Ls rest))) (HN : ¬ (y < x) → GoE p e below Fi (T.setTop (mkF m pn Ls rest))) : GoE p e below Fi (T.setTop (mkF m pc Ls (.int y :: .int x :: rest))) := by
  subst hn
  by_cases q : y < x
  · exact (HY q).pull fun t k => Jvm.Free.XS.icmpYes X.here hx rfl rfl (hb hby hd) rfl (tlt q).2.2.1 ho hp k
  · have q' : ¬ (y < x) := by first | exact q | exact Decidable.not_not.mp q
    exact (HN q').pull fun t k => Jvm.Free.XS.icmpNo X.here hx rfl (hb hby hd) rfl (flt q').2.2.1 k
theorem g_if_gt (X : Stand p l e R s m args below meth c T locs cells slots) (hx : p.tables.exec = Jvm.exec) {o : Int} {pn : Nat} (hby : c.code = bytes) {x : Int32} (hd : decode bytes pc = .ok (.ifCond .gt o, 3)) (ho : 0 ≤ (pc : Int) + o) (hp : ((pc : Int) + o).toNat = pc') (hn : pc + 3 = pn)
    (HY : 0 < x → GoE p e below Fi (T.setTop (mkF m pc' Ls rest))) (HN : ¬ (0 < x) → GoE p e below Fi (T.setTop (mkF m pn Ls rest))) : GoE p e below Fi (T.setTop (mkF m pc Ls (.int x :: rest))) := by
  subst hn
  by_cases q : 0 < x
  · exact (HY q).pull fun t k => Jvm.Free.XS.ifYes X.here hx rfl rfl (hb hby hd) rfl ((if0 _ _).trans (tlt q).2.2.1) ho hp k
  · have q' : ¬ (0 < x) := by first | exact q | exact Decidable.not_not.mp q
    exact (HN q').pull fun t k => Jvm.Free.XS.ifNo X.here hx rfl (hb hby hd) rfl ((if0 _ _).trans (flt q').2.2.1) k
theorem g_ifL_gt (X : Stand p l e R s m args below meth c T locs cells slots) (hx : p.tables.exec = Jvm.exec) {o : Int} {pn : Nat} (hby : c.code = bytes) {u v : Int64} (hd : decode bytes pc = .ok (.ifCond .gt o, 3)) (ho : 0 ≤ (pc : Int) + o) (hp : ((pc : Int) + o).toNat = pc') (hn : pc + 3 = pn)
    (HY : v < u → GoE p e below Fi (T.setTop (mkF m pc' Ls rest))) (HN : ¬ (v < u) → GoE p e below Fi (T.setTop (mkF m pn Ls rest))) : GoE p e below Fi (T.setTop (mkF m pc Ls (.int (cmpL u v) :: rest))) :=
  g_if_gt X hx hby hd ho hp hn (fun h => HY ((cl_gt u v).mp h)) (fun h => HN (fun z => h ((cl_gt u v).mpr z)))
theorem g_retI (X : Stand p l e R s m args below meth c T locs cells slots) (hx : p.tables.exec = Jvm.exec) {z : Int32} (hby : c.code = bytes) (hd : decode bytes pc = .ok (.ireturn, 1)) (hret : meth.sig.returnType = some .int) (hlk : meth.locks = false) (hc : cells ≤ rc) (hs : slots ≤ rs) (hQ : Q (some (.int z)) T.heap locs) : Go p e below s rc rs Q (T.setTop (mkF m pc Ls (.int z :: rest))) := by
  obtain ⟨fs, hr, hrun, hended, hW, hsame⟩ := X.leave (v := some (.int z)) (fun h => by first | rfl | (rw [hret] at h; cases h)) hlk
  exact ⟨_, _, retI X hx hret (hb hby hd) hr, hrun, hended, _, _, rfl, hQ, ⟨_, rfl⟩, hW, hsame.mono hc hs⟩
theorem g_retN (X : Stand p l e R s m args below meth c T locs cells slots) (hx : p.tables.exec = Jvm.exec) {z w : Int32} {t : FieldType} (hby : c.code = bytes) (hd : decode bytes pc = .ok (.ireturn, 1)) (hret : meth.sig.returnType = some t) (ht : t = .boolean ∨ t = .byte ∨ t = .char ∨ t = .short) (hnar : nar t z = w) (hlk : meth.locks = false) (hc : cells ≤ rc) (hs : slots ≤ rs) (hQ : Q (some (.int w)) T.heap locs) : Go p e below s rc rs Q (T.setTop (mkF m pc Ls (.int z :: rest))) := by
  subst hnar
  obtain ⟨fs, hr, hrun, hended, hW, hsame⟩ := X.leave (v := some (.int (nar t z))) (fun h => by rw [hret] at h; cases h) hlk
  exact ⟨_, _, retN X hx hret ht (hb hby hd) hr, hrun, hended, _, _, rfl, hQ, ⟨_, rfl⟩, hW, hsame.mono hc hs⟩
theorem g_retL (X : Stand p l e R s m args below meth c T locs cells slots) (hx : p.tables.exec = Jvm.exec) {z : Int64} (hby : c.code = bytes) (hd : decode bytes pc = .ok (.lreturn, 1)) (hret : meth.sig.returnType = some .long) (hlk : meth.locks = false) (hc : cells ≤ rc) (hs : slots ≤ rs) (hQ : Q (some (.long z)) T.heap locs) : Go p e below s rc rs Q (T.setTop (mkF m pc Ls [.long z])) := by
  obtain ⟨fs, hr, hrun, hended, hW, hsame⟩ := X.leave (v := some (.long z)) (fun h => by first | rfl | (rw [hret] at h; cases h)) hlk
  exact ⟨_, _, X.lreturnOut hx hret (hb hby hd) hr, hrun, hended, _, _, rfl, hQ, ⟨_, rfl⟩, hW, hsame.mono hc hs⟩
theorem g_callS (X : Stand p l e R s m args below meth c T locs cells slots) (hx : p.tables.exec = Jvm.exec) {Z : State} {a0 : Array Value} (hZ : Z.Warmed39 s.vm) {own : String} (hown : s.vm.findClass own = some m.cls) {y : MethodName} {cb : ByteArray} {maxL : Nat} {ret : Option FieldType} {rm : Room} {as' : Array Value} {h : Heap} {Q' : Option Value → Heap → List Loc → Prop} {W : Nat} {index : Nat} {argsL : List Value} (hby : c.code = bytes) (hd : decode bytes pc = .ok (.invokestatic index, 3)) (hp : pc + 3 = pc') (hml : Ls.size = c.maxLocals)
    (w1 : (Jvm.Cond.methodLink own index y).before a0 Z = true) (w2 : (Jvm.Cond.static y).before a0 Z = true) (w3 : (Jvm.Cond.initialized y.cls).before a0 Z = true) (w4 : (Jvm.Cond.code y cb maxL ret).before a0 Z = true) (hy : y.cls ≠ "java/lang/invoke/MethodHandle" ∧ y.cls ≠ "java/lang/invoke/VarHandle")
    (C : Ctr l Z y cb maxL ret [] rm as' h Q') (eT : T.heap = h) (hfr : rm.frames + 1 ≤ R.frames) (hlo : W + (maxL + 11) + rm.locals ≤ R.locals) (hce : cells + rm.cells ≤ R.cells) (hsl : slots + rm.slots ≤ R.slots) {stk : List Value} {psig : MethodDescriptor} (has : argsL.toArray = as') (hpd : parseMethodDescriptor y.desc = some psig) (hlen : argsL.length = psig.parameters.length) (hst : stk = argsL.reverse ++ rest) (hW : 2 * 0 + (rest.map fun v => v.category).sum ≤ W)
    (K : ∀ (v : Option Value) (T' : State) (L : List Loc), Stand p l e R s m args below meth c T' (locs ++ L) (cells + rm.cells) (slots + rm.slots) → Q' v T'.heap L → GoE p e below Fi (T'.setTop (mkF m pc' Ls (v.toList ++ rest)))) : GoE p e below Fi (T.setTop (mkF m pc Ls stk)) := by
  subst hp hst has
  obtain ⟨v, _, ⟨T4, L4, k4, n4⟩, -, X4, ⟨Lc, hQ, l4, y4, z4⟩, st⟩ := Jvm.LawKit.callS X hx (y := y) hown (mvT hZ w1) (mvT hZ w2) (mvT hZ w3) (mvT hZ w4) hy (backOf (W := W) C hZ w4 w3 hfr hlo) (g := mkF m pc Ls (argsL.reverse ++ rest)) rfl hml (argsL := argsL) (rest := rest) (fun sig h => by rw [hpd] at h; cases h; exact hlen) rfl hW (hb hby hd) (fun _ _ => ⟨rfl, eT, hce, hsl⟩)
  dsimp only [Pt.U, Pt.locs, Pt.cells, Pt.slots] at X4 l4 y4 z4 st hQ
  subst l4 y4 z4
  exact (K v T4 Lc X4 hQ).pull st
theorem g_eqI {a b : Int32} (h : a = b) (K : GoE p e below Fi (T.setTop (mkF m pc Ls (.int b :: rest)))) : GoE p e below Fi (T.setTop (mkF m pc Ls (.int a :: rest))) := h ▸ K
end GoKit

def stp (s : Int64) : Int64 := s * (2862933555777941757 : Int64) + (1 : Int64)
def uOf (s : Int64) : Int32 := (ushrL s (33 : Int32)).toInt32 + (1 : Int32)
def minL (a b : Int64) : Int64 := if b < a then b else a
def nxtV (b : Int32) (s : Int64) : Int32 := if 0 < uOf s then (minL (((b + (1 : Int32)).toInt64 <<< ((31 : Int32).toInt64 &&& 63)) / (uOf s).toInt64) (2147483647 : Int64)).toInt32 else -1
def nxI (b : Int32) (s : Int64) : Int32 := FP.d2i (FP.ddiv (FP.l2d (b + (1 : Int32)).toInt64) (FP.ddiv (FP.l2d (uOf s).toInt64) (4746794007248502784 : UInt64)))
def bk : Nat → Int64 → Int32 → Int32 → Int32 → Int32
  | 0, _, b, _, _ => b
  | k + 1, z, b, x, n => if x < 0 then b else if x < n then bk k (stp z) x (nxI x (stp z)) n else b
def FU : Nat := 2147483645
def bucketV (h : Int64) (n : Int32) : Int32 := bk (FU + 1 + 1 + 1) h 0 0 n
def ref2 (a : Int32) : Int32 := if a = 1 then 1 else 0
def ref3 (a c : Int32) : Int32 := if a = 1 then (if c = 2 then 2 else 1) else if a = 2 then 2 else 0
def nN (a : Int32) : Int32 := ((a &&& (2147483647 : Int32)) - ((a &&& (2147483647 : Int32)) / (2147483646 : Int32)) * (2147483646 : Int32)) + (1 : Int32)
theorem own_tl (a b : Int32) : (a < b) ↔ (a.toInt < b.toInt) := Int32.lt_iff_toInt_lt
theorem own_te (a b : Int32) : (a = b) ↔ (a.toInt = b.toInt) := Int32.toInt_inj.symm
theorem own_z0 : (0 : Int32).toInt = 0 := by decide
theorem own_z1 : (1 : Int32).toInt = 1 := by decide
theorem own_z2 : (2 : Int32).toInt = 2 := by decide
theorem own_z3 : (3 : Int32).toInt = 3 := by decide
theorem own_u (s : Int64) : (1 ≤ (uOf s).toInt ∧ (uOf s).toInt ≤ 2147483647) ∨ (uOf s).toInt = -2147483648 := by
  have h := c_lushr s 33 33 (by decide) (by decide)
  have e : ushrL s 33 = (s.toUInt64 >>> ((33 : Int32) &&& 0x3f).toInt64.toUInt64).toInt64 := by
    have e1 : ((33 : Int32).toInt64.toUInt64 &&& Int64.toUInt64 63) = ((33 : Int32) &&& 0x3f).toInt64.toUInt64 := by decide
    unfold ushrL; rw [e1]
  rw [← e] at h
  have e2 : ((2 ^ 33 : Nat) : Int) = 8589934592 := rfl
  rw [e2] at h
  unfold uOf
  have a := c_l2i (ushrL s 33)
  have r := rng32 (ushrL s 33).toInt32
  have b := c_iadd (ushrL s 33).toInt32 1
  rw [own_z1] at b
  have r2 := rng32 ((ushrL s 33).toInt32 + 1)
  have r3 := rng64 s
  omega
theorem own_d0 (u : Int64) : Jvm.Free.Fl.NoNaN64 (FP.l2d u) := (Jvm.Free.Fl.fin64_core.mpr (FP.Core.l2d_fin u)).noNaN
theorem own_d1 (u : Int64) : Jvm.Free.Fl.NoNaN64 (FP.ddiv (FP.l2d u) (4746794007248502784 : UInt64)) :=
  Jvm.Free.Fl.ddiv_out (own_d0 u) (Jvm.Free.Fl.fin64_core.mpr ⟨_, _, _, FP.Core.ow_c31⟩) (by unfold Jvm.Free.Fl.Nz64; decide)
theorem own_d2 (v s : Int64) : Jvm.Free.Fl.NoNaN64 (FP.ddiv (FP.l2d v) (FP.ddiv (FP.l2d (uOf s).toInt64) (4746794007248502784 : UInt64))) := by
  have u := own_u s
  have i := c_i2l (uOf s)
  obtain ⟨c, q, e, p, -⟩ := FP.Core.ow_rr (uOf s).toInt64 (by omega) (by omega)
  refine Jvm.Free.Fl.ddiv_out (own_d0 v) (Jvm.Free.Fl.fin64_core.mpr ⟨_, _, _, e⟩) (Jvm.Free.Fl.nz64_core.mpr ?_)
  rintro ⟨s', q', h⟩
  have h2 := e.symm.trans h
  injection h2 with h3 h4 h5
  omega
theorem own_p1 (x : Int32) (h0 : 0 ≤ x.toInt) (h1 : x.toInt < 2147483647) : (x + (1 : Int32)).toInt64.toInt = x.toInt + 1 := by
  have b := c_iadd x 1
  rw [own_z1] at b
  have r := rng32 (x + 1)
  rw [c_i2l]
  omega
theorem own_up (x : Int32) (s : Int64) (h0 : 0 ≤ x.toInt) (h1 : x.toInt < 2147483647) : (nxI x s).toInt < 0 ∨ x.toInt + 1 ≤ (nxI x s).toInt := by
  have u := own_u s
  have i := c_i2l (uOf s)
  have p := own_p1 x h0 h1
  rcases u with u | u
  · have t : (x + (1 : Int32)).toInt64.toInt ≤ (nxI x s).toInt := FP.Core.ow_up (x + (1 : Int32)).toInt64 (uOf s).toInt64 (by omega) (by omega) (by omega) (by omega)
    omega
  · have t : (nxI x s).toInt < 0 := FP.Core.ow_dn (x + (1 : Int32)).toInt64 (uOf s).toInt64 (by omega) (by omega) (by omega) (by omega)
    exact Or.inl t
theorem own_nm {s : Int64} (h : 1 ≤ (uOf s).toInt) : (uOf s).toInt64 ≠ -1 := by
  intro q
  have i := c_i2l (uOf s)
  rw [q] at i
  have e : (-1 : Int64).toInt = -1 := by decide
  omega
theorem own_minI (a b : Int64) : (minL a b).toInt = if b.toInt < a.toInt then b.toInt else a.toInt := by
  unfold minL; simp only [Int64.lt_iff_toInt_lt]; split <;> rfl
theorem own_rel {b : Int32} {B : Int} (h1 : ((b + (1 : Int32)).toInt64 <<< ((31 : Int32).toInt64 &&& 63)).toInt = B) (h2 : (b + (1 : Int32)).toInt64.toInt * 2147483648 = B) (h3 : 0 < (b + (1 : Int32)).toInt64.toInt) (h4 : (b + (1 : Int32)).toInt64.toInt ≤ 2) (s : Int64) : nxtV b s = nxI b s ∨ ((nxtV b s).toInt = -1 ∧ (nxI b s).toInt < 0) := by
  have u := own_u s
  have i := c_i2l (uOf s)
  have k : (0 < uOf s) ↔ 0 < (uOf s).toInt := by rw [own_tl, own_z0]
  rcases u with u | u
  · refine Or.inl (Int32.toInt_inj.mp ?_)
    have t : (nxI b s).toInt = min 2147483647 ((b + (1 : Int32)).toInt64.toInt * 2147483648 / (uOf s).toInt64.toInt) := FP.Core.ow_ex (b + (1 : Int32)).toInt64 (uOf s).toInt64 h3 h4 (by omega) (by omega)
    rw [t, h2]
    unfold nxtV
    rw [if_pos (k.mpr (by omega))]
    have d := (c_ldiv ((b + (1 : Int32)).toInt64 <<< ((31 : Int32).toInt64 &&& 63)) (uOf s).toInt64 (uOf s).toInt64.toInt rfl (own_nm u.1)).1 (by omega)
    rw [h1] at d
    generalize ((b + (1 : Int32)).toInt64 <<< ((31 : Int32).toInt64 &&& 63)) / (uOf s).toInt64 = q at d ⊢
    have q0 : 0 ≤ B / (uOf s).toInt64.toInt := Int.ediv_nonneg (by omega) (by omega)
    generalize B / (uOf s).toInt64.toInt = w at d q0 ⊢
    have mi := own_minI q 2147483647
    have e7 : (2147483647 : Int64).toInt = 2147483647 := by decide
    rw [e7] at mi
    have l := c_l2i (minL q 2147483647)
    have r := rng32 (minL q 2147483647).toInt32
    generalize minL q 2147483647 = g at mi l r ⊢
    split at mi <;> omega
  · refine Or.inr ⟨?_, ?_⟩
    · unfold nxtV
      rw [if_neg (fun q => by have := k.mp q; omega)]
      decide
    · exact FP.Core.ow_dn (b + (1 : Int32)).toInt64 (uOf s).toInt64 (by omega) (by omega) (by omega) (by omega)
theorem own_rel0 (s : Int64) : nxtV 0 s = nxI 0 s ∨ ((nxtV 0 s).toInt = -1 ∧ (nxI 0 s).toInt < 0) := own_rel (B := 2147483648) (by decide +kernel) (by decide +kernel) (by decide +kernel) (by decide +kernel) s
theorem own_rel1 (s : Int64) : nxtV 1 s = nxI 1 s ∨ ((nxtV 1 s).toInt = -1 ∧ (nxI 1 s).toInt < 0) := own_rel (B := 4294967296) (by decide +kernel) (by decide +kernel) (by decide +kernel) (by decide +kernel) s
theorem own_bk0 (z : Int64) (b x n : Int32) : bk 0 z b x n = b := rfl
theorem own_bk (k : Nat) (z : Int64) (b x n : Int32) : bk (k + 1) z b x n = if x < 0 then b else if x < n then bk k (stp z) x (nxI x (stp z)) n else b := rfl
theorem own_bkY {k : Nat} {z : Int64} {b x n : Int32} (h1 : ¬ x < 0) (h2 : x < n) : bk (k + 1) z b x n = bk k (stp z) x (nxI x (stp z)) n := by rw [own_bk, if_neg h1, if_pos h2]
theorem own_bkA {k : Nat} {z : Int64} {b x n : Int32} (h1 : x < 0) : bk (k + 1) z b x n = b := by rw [own_bk, if_pos h1]
theorem own_bkB {k : Nat} {z : Int64} {b x n : Int32} (h1 : ¬ x < 0) (h2 : ¬ x < n) : bk (k + 1) z b x n = b := by rw [own_bk, if_neg h1, if_neg h2]
theorem own_rng (k : Nat) : ∀ (z : Int64) (b x n : Int32), 0 ≤ b.toInt → b.toInt < n.toInt → 0 ≤ (bk k z b x n).toInt ∧ (bk k z b x n).toInt < n.toInt := by
  induction k with
  | zero => intro z b x n h1 h2; exact ⟨h1, h2⟩
  | succ k ih =>
    intro z b x n h1 h2
    by_cases c1 : x < 0
    · rw [own_bkA c1]; exact ⟨h1, h2⟩
    · by_cases c2 : x < n
      · rw [own_bkY c1 c2]
        rw [own_tl, own_z0] at c1
        rw [own_tl] at c2
        exact ih _ _ _ _ (by omega) (by omega)
      · rw [own_bkB c1 c2]; exact ⟨h1, h2⟩
theorem own_mono (k : Nat) : ∀ (z : Int64) (b x n : Int32), (x.toInt < 0 ∨ b.toInt ≤ x.toInt) → b.toInt ≤ (bk k z b x n).toInt := by
  induction k with
  | zero => intro z b x n h; exact Int.le_refl _
  | succ k ih =>
    intro z b x n h
    by_cases c1 : x < 0
    · rw [own_bkA c1]; exact Int.le_refl _
    · by_cases c2 : x < n
      · rw [own_bkY c1 c2]
        rw [own_tl, own_z0] at c1
        rw [own_tl] at c2
        have r := rng32 n
        have u := own_up x (stp z) (by omega) (by omega)
        have t := ih (stp z) x (nxI x (stp z)) n (by omega)
        omega
      · rw [own_bkB c1 c2]; exact Int.le_refl _
theorem own_stop (k : Nat) (z : Int64) (b x n : Int32) (h : x.toInt < 0 ∨ n.toInt ≤ x.toInt) : bk k z b x n = b := by
  cases k with
  | zero => rfl
  | succ k =>
    by_cases c1 : x < 0
    · exact own_bkA c1
    · refine own_bkB c1 ?_
      rw [own_tl, own_z0] at c1
      rw [own_tl]
      omega
theorem own_cons (k : Nat) : ∀ (z : Int64) (b x n n' : Int32), n'.toInt = n.toInt + 1 → 0 ≤ n.toInt → bk k z b x n' = bk k z b x n ∨ bk k z b x n' = n := by
  induction k with
  | zero => intro z b x n n' h h2; exact Or.inl rfl
  | succ k ih =>
    intro z b x n n' h h2
    have r := rng32 n'
    by_cases c1 : x < 0
    · rw [own_bkA c1, own_bkA c1]; exact Or.inl rfl
    · by_cases c2 : x < n
      · have c3 : x < n' := by rw [own_tl] at c2 ⊢; omega
        rw [own_bkY c1 c2, own_bkY c1 c3]
        exact ih _ _ _ _ _ h h2
      · rw [own_bkB c1 c2]
        by_cases c3 : x < n'
        · refine Or.inr ?_
          rw [own_bkY c1 c3]
          rw [own_tl, own_z0] at c1
          rw [own_tl] at c2 c3
          have e : x = n := Int32.toInt_inj.mp (by omega)
          have u := own_up x (stp z) (by omega) (by omega)
          rw [own_stop k (stp z) x (nxI x (stp z)) n' (by omega), e]
        · rw [own_bkB c1 c3]; exact Or.inl rfl
theorem own_b0 {h : Int64} {n : Int32} (hn : 0 < n) : bucketV h n = bk (FU + 1 + 1) (stp h) 0 (nxI 0 (stp h)) n := own_bkY (by decide) hn
theorem own_bz {h : Int64} {n : Int32} (hn : ¬ 0 < n) : bucketV h n = 0 := own_bkB (by decide) hn
theorem own_zero {n x : Int32} (h1 : x.toInt < 0 ∨ n.toInt - x.toInt ≤ ((0 : Nat) : Int)) (h2 : ¬ x < 0) : ¬ x < n := by
  rw [own_tl, own_z0] at h2
  rw [own_tl]
  omega
theorem own_inv {k : Nat} {n x : Int32} (s : Int64) (h1 : x.toInt < 0 ∨ n.toInt - x.toInt ≤ ((k + 1 : Nat) : Int)) (h2 : ¬ x < 0) (h3 : x < n) : (nxI x s).toInt < 0 ∨ n.toInt - (nxI x s).toInt ≤ (k : Int) := by
  rw [own_tl, own_z0] at h2
  rw [own_tl] at h3
  have r := rng32 n
  have u := own_up x s (by omega) (by omega)
  omega
theorem own_inv0 (n : Int32) (s : Int64) : (nxI 0 s).toInt < 0 ∨ n.toInt - (nxI 0 s).toInt ≤ ((FU + 1 + 1 : Nat) : Int) := by
  have e : FU = 2147483645 := rfl
  rw [e]
  have r := rng32 n
  have u := own_up 0 s (by decide) (by decide)
  rw [own_z0] at u
  omega
theorem own_first (h : Int64) (n : Int32) (hn : 1 ≤ n.toInt) : (1 ≤ (nxtV 0 (stp h)).toInt → (nxtV 0 (stp h)).toInt < n.toInt → (nxtV 0 (stp h)).toInt ≤ (bucketV h n).toInt) ∧ (((nxtV 0 (stp h)).toInt < 1 ∨ n.toInt ≤ (nxtV 0 (stp h)).toInt) → bucketV h n = 0) := by
  have n0 : 0 < n := by rw [own_tl, own_z0]; omega
  have u := own_up 0 (stp h) (by decide) (by decide)
  rw [own_z0] at u
  have r := rng32 n
  rw [own_b0 n0]
  rcases own_rel0 (stp h) with e | ⟨e1, e2⟩
  · rw [e]
    refine ⟨fun a b => ?_, fun a => ?_⟩
    · have c1 : ¬ nxI 0 (stp h) < 0 := by rw [own_tl, own_z0]; omega
      have c2 : nxI 0 (stp h) < n := by rw [own_tl]; omega
      rw [own_bkY c1 c2]
      have v := own_up (nxI 0 (stp h)) (stp (stp h)) (by omega) (by omega)
      exact own_mono (FU + 1) _ _ _ _ (by omega)
    · exact own_stop _ _ _ _ _ (by omega)
  · refine ⟨fun a b => by omega, fun a => ?_⟩
    exact own_stop _ _ _ _ _ (Or.inl e2)
theorem own_R (h : Int64) (n : Int32) (hn : 1 ≤ n.toInt) : 0 ≤ (bucketV h n).toInt ∧ (bucketV h n).toInt < n.toInt := by
  refine own_rng (FU + 1 + 1 + 1) h 0 0 n ?_ ?_
  · rw [own_z0]; omega
  · rw [own_z0]; omega
theorem own_L1 (h : Int64) : bucketV h 1 = 0 := by
  have a := own_R h 1 (by decide)
  rw [own_z1] at a
  exact Int32.toInt_inj.mp (by rw [own_z0]; omega)
theorem own_L2 (h : Int64) : bucketV h 2 = ref2 (nxtV 0 (stp h)) := by
  have a := own_R h 2 (by decide)
  have f := own_first h 2 (by decide)
  rw [own_z2] at a f
  unfold ref2
  by_cases c : nxtV 0 (stp h) = 1
  · rw [if_pos c]
    rw [c, own_z1] at f
    have g := f.1 (by omega) (by omega)
    exact Int32.toInt_inj.mp (by rw [own_z1]; omega)
  · rw [if_neg c]
    rw [own_te, own_z1] at c
    exact f.2 (by omega)
theorem own_L3 (h : Int64) : bucketV h 3 = ref3 (nxtV 0 (stp h)) (nxtV 1 (stp (stp h))) := by
  have a := own_R h 3 (by decide)
  have f := own_first h 3 (by decide)
  rw [own_z3] at a f
  unfold ref3
  by_cases c : nxtV 0 (stp h) = 1
  · rw [if_pos c]
    have e1 : nxI 0 (stp h) = 1 := by
      rcases own_rel0 (stp h) with e | ⟨e, -⟩
      · exact e.symm.trans c
      · rw [c, own_z1] at e; omega
    have t0 : (0 : Int32) < 3 := by decide
    have t1 : ¬ (1 : Int32) < 0 := by decide
    have t2 : (1 : Int32) < 3 := by decide
    have t3 : ¬ (2 : Int32) < 0 := by decide
    have t4 : (2 : Int32) < 3 := by decide
    have e2 : bucketV h 3 = bk (FU + 1) (stp (stp h)) 1 (nxI 1 (stp (stp h))) 3 := by
      rw [own_b0 t0, e1, own_bkY t1 t2]
    have u := own_up 1 (stp (stp h)) (by decide) (by decide)
    rw [own_z1] at u
    by_cases d : nxtV 1 (stp (stp h)) = 2
    · rw [if_pos d]
      have e3 : nxI 1 (stp (stp h)) = 2 := by
        rcases own_rel1 (stp (stp h)) with e | ⟨e, -⟩
        · exact e.symm.trans d
        · rw [d, own_z2] at e; omega
      have e4 : bucketV h 3 = bk FU (stp (stp (stp h))) 2 (nxI 2 (stp (stp (stp h)))) 3 := by
        rw [e2, e3, own_bkY t3 t4]
      have v := own_up 2 (stp (stp (stp h))) (by decide) (by decide)
      rw [own_z2] at v
      have m := own_mono FU (stp (stp (stp h))) 2 (nxI 2 (stp (stp (stp h)))) 3 (by rw [own_z2]; omega)
      rw [← e4, own_z2] at m
      exact Int32.toInt_inj.mp (by rw [own_z2]; omega)
    · rw [if_neg d, e2]
      refine own_stop _ _ _ _ _ ?_
      rw [own_z3]
      rcases own_rel1 (stp (stp h)) with e | ⟨-, e⟩
      · rw [e, own_te, own_z2] at d
        omega
      · exact Or.inl e
  · rw [if_neg c]
    rw [own_te, own_z1] at c
    by_cases d : nxtV 0 (stp h) = 2
    · rw [if_pos d]
      rw [own_te, own_z2] at d
      have g := f.1 (by omega) (by omega)
      exact Int32.toInt_inj.mp (by rw [own_z2]; omega)
    · rw [if_neg d]
      rw [own_te, own_z2] at d
      exact f.2 (by omega)
theorem own_n (a : Int32) : 1 ≤ (nN a).toInt ∧ (nN a).toInt ≤ 2147483646 := by
  have h := c_mask a 2147483647 31 (by decide) (by decide)
  have e : ((2 ^ 31 : Nat) : Int) = 2147483648 := rfl
  rw [e] at h
  unfold nN
  generalize a &&& (2147483647 : Int32) = y at h ⊢
  have ry := rng32 y
  have dv := (c_idiv y 2147483646 2147483646 (by decide) (by decide)).1 (by omega)
  generalize y / (2147483646 : Int32) = z at dv ⊢
  have m := c_imul z 2147483646
  have e3 : (2147483646 : Int32).toInt = 2147483646 := by decide
  rw [e3] at m
  generalize z * (2147483646 : Int32) = t at m ⊢
  have s := c_isub y t
  have r1 := rng32 t
  have r2 := rng32 (y - t)
  have s2 := c_iadd (y - t) 1
  rw [own_z1] at s2
  have r3 := rng32 ((y - t) + 1)
  omega
theorem own_n1 (a : Int32) : (nN a + (1 : Int32)).toInt = (nN a).toInt + 1 := by
  have h := own_n a
  have s2 := c_iadd (nN a) 1
  rw [own_z1] at s2
  have r3 := rng32 (nN a + 1)
  omega
theorem own_a1 (h : Int64) (a : Int32) : ¬ (bucketV h (nN a) < 0) := by
  have n := own_n a
  have r := own_R h (nN a) n.1
  rw [own_tl, own_z0]
  omega
theorem own_a2 (h : Int64) (a : Int32) : bucketV h (nN a) < nN a := by
  have n := own_n a
  rw [own_tl]
  exact (own_R h (nN a) n.1).2
theorem own_a3 (h : Int64) (a : Int32) : ¬ (bucketV h (nN a + (1 : Int32)) < 0) := by
  have n := own_n a
  have n1 := own_n1 a
  have r := own_R h (nN a + (1 : Int32)) (by omega)
  rw [own_tl, own_z0]
  omega
theorem own_a4 (h : Int64) (a : Int32) : bucketV h (nN a + (1 : Int32)) < nN a + (1 : Int32) := by
  have n := own_n a
  have n1 := own_n1 a
  rw [own_tl]
  exact (own_R h (nN a + (1 : Int32)) (by omega)).2
theorem own_a5 (h : Int64) (a : Int32) : bucketV h (nN a + (1 : Int32)) = bucketV h (nN a) ∨ bucketV h (nN a + (1 : Int32)) = nN a := by
  have n := own_n a
  have n1 := own_n1 a
  exact own_cons (FU + 1 + 1 + 1) h 0 0 (nN a) (nN a + (1 : Int32)) n1 (by omega)
theorem own_a6 (h : Int64) (a : Int32) (h1 : ¬ nxtV (0 : Int32) (stp h) < (1 : Int32)) (h2 : nxtV (0 : Int32) (stp h) < nN a) : ¬ bucketV h (nN a) < nxtV (0 : Int32) (stp h) := by
  have n := own_n a
  rw [own_tl, own_z1] at h1
  rw [own_tl] at h2 ⊢
  have f := (own_first h (nN a) n.1).1 (by omega) h2
  omega
theorem own_a7 (h : Int64) (a : Int32) (h1 : nxtV (0 : Int32) (stp h) < (1 : Int32) ∨ ¬ nxtV (0 : Int32) (stp h) < nN a) : bucketV h (nN a) = 0 := by
  have n := own_n a
  rw [own_tl, own_z1, own_tl] at h1
  exact (own_first h (nN a) n.1).2 (by omega)
theorem own_a8 (h : Int64) (a : Int32) (h1 : ¬ nxtV (0 : Int32) (stp h) < (1 : Int32)) (h2 : ¬ nN a < nxtV (0 : Int32) (stp h)) : ¬ bucketV h (nN a + (1 : Int32)) < nxtV (0 : Int32) (stp h) := by
  have n := own_n a
  have n1 := own_n1 a
  rw [own_tl, own_z1] at h1
  rw [own_tl] at h2 ⊢
  have f := (own_first h (nN a + (1 : Int32)) (by omega)).1 (by omega) (by omega)
  omega
theorem own_a9 (h : Int64) (a : Int32) (h1 : nxtV (0 : Int32) (stp h) < (1 : Int32) ∨ nN a < nxtV (0 : Int32) (stp h)) : bucketV h (nN a + (1 : Int32)) = 0 := by
  have n := own_n a
  have n1 := own_n1 a
  rw [own_tl, own_z1, own_tl] at h1
  exact (own_first h (nN a + (1 : Int32)) (by omega)).2 (by omega)
theorem own_nz {s : Int64} (h : 0 < uOf s) : (uOf s).toInt64 ≠ 0 := by
  intro q
  rw [own_tl, own_z0] at h
  have i := c_i2l (uOf s)
  rw [q] at i
  have e : (0 : Int64).toInt = 0 := by decide
  omega
theorem w_0 {Z : State} {a0 : Array Value} (hw : ∀ d ∈ tables_1, d.before a0 Z = true) : (Jvm.Cond.constant "com/example/astilla/astilla/JumpPlacementBucketPinLaw" (17 : Nat) (2147483647 : Int32)).before a0 Z = true := hw _ (List.mem_of_getElem? (i := 0) rfl)
theorem w_1 {Z : State} {a0 : Array Value} (hw : ∀ d ∈ tables_1, d.before a0 Z = true) : (Jvm.Cond.constant "com/example/astilla/astilla/JumpPlacementBucketPinLaw" (18 : Nat) (2147483646 : Int32)).before a0 Z = true := hw _ (List.mem_of_getElem? (i := 1) rfl)
theorem w_2 {Z : State} {a0 : Array Value} (hw : ∀ d ∈ tables_1, d.before a0 Z = true) : (Jvm.Cond.methodLink "com/example/astilla/astilla/JumpPlacementBucketPinLaw" (19 : Nat) ({ cls := "com/example/astilla/astilla/JumpPlacementBucketPinLaw", name := "step", desc := "(J)J" } : Jvm.MethodName)).before a0 Z = true := hw _ (List.mem_of_getElem? (i := 2) rfl)
theorem w_3 {Z : State} {a0 : Array Value} (hw : ∀ d ∈ tables_1, d.before a0 Z = true) : (Jvm.Cond.static ({ cls := "com/example/astilla/astilla/JumpPlacementBucketPinLaw", name := "step", desc := "(J)J" } : Jvm.MethodName)).before a0 Z = true := hw _ (List.mem_of_getElem? (i := 3) rfl)
theorem w_4 {Z : State} {a0 : Array Value} (hw : ∀ d ∈ tables_1, d.before a0 Z = true) : (Jvm.Cond.initialized "com/example/astilla/astilla/JumpPlacementBucketPinLaw").before a0 Z = true := hw _ (List.mem_of_getElem? (i := 4) rfl)
theorem w_5 {Z : State} {a0 : Array Value} (hw : ∀ d ∈ tables_1, d.before a0 Z = true) : (Jvm.Cond.code ({ cls := "com/example/astilla/astilla/JumpPlacementBucketPinLaw", name := "step", desc := "(J)J" } : Jvm.MethodName) method_2_code (2 : Nat) (Option.some Jvm.ClassFile.FieldType.long)).before a0 Z = true := hw _ (List.mem_of_getElem? (i := 5) rfl)
theorem w_6 {Z : State} {a0 : Array Value} (hw : ∀ d ∈ tables_1, d.before a0 Z = true) : (Jvm.Cond.constantLong "com/example/astilla/astilla/JumpPlacementBucketPinLaw" (7 : Nat) (2862933555777941757 : Int64)).before a0 Z = true := hw _ (List.mem_of_getElem? (i := 6) rfl)
theorem w_7 {Z : State} {a0 : Array Value} (hw : ∀ d ∈ tables_1, d.before a0 Z = true) : (Jvm.Cond.methodLink "com/example/astilla/astilla/JumpPlacementBucketPinLaw" (25 : Nat) ({ cls := "com/example/astilla/astilla/JumpPlacementBucketPinLaw", name := "nxt", desc := "(IJ)I" } : Jvm.MethodName)).before a0 Z = true := hw _ (List.mem_of_getElem? (i := 7) rfl)
theorem w_8 {Z : State} {a0 : Array Value} (hw : ∀ d ∈ tables_1, d.before a0 Z = true) : (Jvm.Cond.static ({ cls := "com/example/astilla/astilla/JumpPlacementBucketPinLaw", name := "nxt", desc := "(IJ)I" } : Jvm.MethodName)).before a0 Z = true := hw _ (List.mem_of_getElem? (i := 8) rfl)
theorem w_9 {Z : State} {a0 : Array Value} (hw : ∀ d ∈ tables_1, d.before a0 Z = true) : (Jvm.Cond.code ({ cls := "com/example/astilla/astilla/JumpPlacementBucketPinLaw", name := "nxt", desc := "(IJ)I" } : Jvm.MethodName) method_3_code (6 : Nat) (Option.some Jvm.ClassFile.FieldType.int)).before a0 Z = true := hw _ (List.mem_of_getElem? (i := 9) rfl)
theorem w_10 {Z : State} {a0 : Array Value} (hw : ∀ d ∈ tables_1, d.before a0 Z = true) : (Jvm.Cond.constantLong "com/example/astilla/astilla/JumpPlacementBucketPinLaw" (9 : Nat) (2147483647 : Int64)).before a0 Z = true := hw _ (List.mem_of_getElem? (i := 10) rfl)
theorem w_11 {Z : State} {a0 : Array Value} (hw : ∀ d ∈ tables_1, d.before a0 Z = true) : (Jvm.Cond.methodLink "com/example/astilla/astilla/JumpPlacementBucketPinLaw" (11 : Nat) ({ cls := "java/lang/Math", name := "min", desc := "(JJ)J" } : Jvm.MethodName)).before a0 Z = true := hw _ (List.mem_of_getElem? (i := 11) rfl)
theorem w_12 {Z : State} {a0 : Array Value} (hw : ∀ d ∈ tables_1, d.before a0 Z = true) : (Jvm.Cond.static ({ cls := "java/lang/Math", name := "min", desc := "(JJ)J" } : Jvm.MethodName)).before a0 Z = true := hw _ (List.mem_of_getElem? (i := 12) rfl)
theorem w_13 {Z : State} {a0 : Array Value} (hw : ∀ d ∈ tables_1, d.before a0 Z = true) : (Jvm.Cond.initialized "java/lang/Math").before a0 Z = true := hw _ (List.mem_of_getElem? (i := 13) rfl)
theorem w_14 {Z : State} {a0 : Array Value} (hw : ∀ d ∈ tables_1, d.before a0 Z = true) : (Jvm.Cond.code ({ cls := "java/lang/Math", name := "min", desc := "(JJ)J" } : Jvm.MethodName) jdk_29_method_70_code (4 : Nat) (Option.some Jvm.ClassFile.FieldType.long)).before a0 Z = true := hw _ (List.mem_of_getElem? (i := 14) rfl)
theorem w_15 {Z : State} {a0 : Array Value} (hw : ∀ d ∈ tables_1, d.before a0 Z = true) : (Jvm.Cond.methodLink "com/example/astilla/astilla/JumpPlacementBucketPinLaw" (29 : Nat) ({ cls := "com/example/astilla/astilla/JumpPlacement", name := "bucket", desc := "(JI)I" } : Jvm.MethodName)).before a0 Z = true := hw _ (List.mem_of_getElem? (i := 15) rfl)
theorem w_16 {Z : State} {a0 : Array Value} (hw : ∀ d ∈ tables_1, d.before a0 Z = true) : (Jvm.Cond.static ({ cls := "com/example/astilla/astilla/JumpPlacement", name := "bucket", desc := "(JI)I" } : Jvm.MethodName)).before a0 Z = true := hw _ (List.mem_of_getElem? (i := 16) rfl)
theorem w_17 {Z : State} {a0 : Array Value} (hw : ∀ d ∈ tables_1, d.before a0 Z = true) : (Jvm.Cond.initialized "com/example/astilla/astilla/JumpPlacement").before a0 Z = true := hw _ (List.mem_of_getElem? (i := 17) rfl)
theorem w_18 {Z : State} {a0 : Array Value} (hw : ∀ d ∈ tables_1, d.before a0 Z = true) : (Jvm.Cond.code ({ cls := "com/example/astilla/astilla/JumpPlacement", name := "bucket", desc := "(JI)I" } : Jvm.MethodName) prog_5_method_4_code (9 : Nat) (Option.some Jvm.ClassFile.FieldType.int)).before a0 Z = true := hw _ (List.mem_of_getElem? (i := 18) rfl)
theorem w_19 {Z : State} {a0 : Array Value} (hw : ∀ d ∈ tables_1, d.before a0 Z = true) : (Jvm.Cond.constantLong "com/example/astilla/astilla/JumpPlacement" (36 : Nat) (2862933555777941757 : Int64)).before a0 Z = true := hw _ (List.mem_of_getElem? (i := 19) rfl)
theorem w_20 {Z : State} {a0 : Array Value} (hw : ∀ d ∈ tables_1, d.before a0 Z = true) : (Jvm.Cond.constantDouble "com/example/astilla/astilla/JumpPlacement" (38 : Nat) (4746794007248502784 : UInt64)).before a0 Z = true := hw _ (List.mem_of_getElem? (i := 20) rfl)
theorem d1_0 : decode method_2_code 0 = .ok (.lload_n 0, 1) := by decide +kernel
theorem d1_1 : decode method_2_code 1 = .ok (.ldc2_w 7, 3) := by decide +kernel
theorem d1_4 : decode method_2_code 4 = .ok (.lmul, 1) := by decide +kernel
theorem d1_5 : decode method_2_code 5 = .ok (.lconst 1, 1) := by decide +kernel
theorem d1_6 : decode method_2_code 6 = .ok (.ladd, 1) := by decide +kernel
theorem d1_7 : decode method_2_code 7 = .ok (.lreturn, 1) := by decide +kernel
theorem d3_0 : decode jdk_29_method_70_code 0 = .ok (.lload_n 0, 1) := by decide +kernel
theorem d3_1 : decode jdk_29_method_70_code 1 = .ok (.lload_n 2, 1) := by decide +kernel
theorem d3_2 : decode jdk_29_method_70_code 2 = .ok (.lcmp, 1) := by decide +kernel
theorem d3_3 : decode jdk_29_method_70_code 3 = .ok (.ifCond .gt 7, 3) := by decide +kernel
theorem d3_6 : decode jdk_29_method_70_code 6 = .ok (.lload_n 0, 1) := by decide +kernel
theorem d3_7 : decode jdk_29_method_70_code 7 = .ok (.goto 4, 3) := by decide +kernel
theorem d3_10 : decode jdk_29_method_70_code 10 = .ok (.lload_n 2, 1) := by decide +kernel
theorem d3_11 : decode jdk_29_method_70_code 11 = .ok (.lreturn, 1) := by decide +kernel
theorem d2_0 : decode method_3_code 0 = .ok (.lload_n 1, 1) := by decide +kernel
theorem d2_1 : decode method_3_code 1 = .ok (.bipush 33, 2) := by decide +kernel
theorem d2_3 : decode method_3_code 3 = .ok (.lushr, 1) := by decide +kernel
theorem d2_4 : decode method_3_code 4 = .ok (.l2i, 1) := by decide +kernel
theorem d2_5 : decode method_3_code 5 = .ok (.iconst 1, 1) := by decide +kernel
theorem d2_6 : decode method_3_code 6 = .ok (.iadd, 1) := by decide +kernel
theorem d2_7 : decode method_3_code 7 = .ok (.istore_n 3, 1) := by decide +kernel
theorem d2_8 : decode method_3_code 8 = .ok (.iload_n 3, 1) := by decide +kernel
theorem d2_9 : decode method_3_code 9 = .ok (.ifCond .gt 5, 3) := by decide +kernel
theorem d2_12 : decode method_3_code 12 = .ok (.iconst (-1), 1) := by decide +kernel
theorem d2_13 : decode method_3_code 13 = .ok (.ireturn, 1) := by decide +kernel
theorem d2_14 : decode method_3_code 14 = .ok (.iload_n 0, 1) := by decide +kernel
theorem d2_15 : decode method_3_code 15 = .ok (.iconst 1, 1) := by decide +kernel
theorem d2_16 : decode method_3_code 16 = .ok (.iadd, 1) := by decide +kernel
theorem d2_17 : decode method_3_code 17 = .ok (.i2l, 1) := by decide +kernel
theorem d2_18 : decode method_3_code 18 = .ok (.bipush 31, 2) := by decide +kernel
theorem d2_20 : decode method_3_code 20 = .ok (.lshl, 1) := by decide +kernel
theorem d2_21 : decode method_3_code 21 = .ok (.iload_n 3, 1) := by decide +kernel
theorem d2_22 : decode method_3_code 22 = .ok (.i2l, 1) := by decide +kernel
theorem d2_23 : decode method_3_code 23 = .ok (.ldiv, 1) := by decide +kernel
theorem d2_24 : decode method_3_code 24 = .ok (.lstore 4, 2) := by decide +kernel
theorem d2_26 : decode method_3_code 26 = .ok (.lload 4, 2) := by decide +kernel
theorem d2_28 : decode method_3_code 28 = .ok (.ldc2_w 9, 3) := by decide +kernel
theorem d2_31 : decode method_3_code 31 = .ok (.invokestatic 11, 3) := by decide +kernel
theorem d2_34 : decode method_3_code 34 = .ok (.l2i, 1) := by decide +kernel
theorem d2_35 : decode method_3_code 35 = .ok (.ireturn, 1) := by decide +kernel
theorem d4_0 : decode prog_5_method_4_code 0 = .ok (.lload_n 0, 1) := by decide +kernel
theorem d4_1 : decode prog_5_method_4_code 1 = .ok (.lstore_n 3, 1) := by decide +kernel
theorem d4_2 : decode prog_5_method_4_code 2 = .ok (.iconst 0, 1) := by decide +kernel
theorem d4_3 : decode prog_5_method_4_code 3 = .ok (.istore 5, 2) := by decide +kernel
theorem d4_5 : decode prog_5_method_4_code 5 = .ok (.iconst 0, 1) := by decide +kernel
theorem d4_6 : decode prog_5_method_4_code 6 = .ok (.istore 6, 2) := by decide +kernel
theorem d4_8 : decode prog_5_method_4_code 8 = .ok (.iload 6, 2) := by decide +kernel
theorem d4_10 : decode prog_5_method_4_code 10 = .ok (.ifCond .lt 49, 3) := by decide +kernel
theorem d4_13 : decode prog_5_method_4_code 13 = .ok (.iload 6, 2) := by decide +kernel
theorem d4_15 : decode prog_5_method_4_code 15 = .ok (.iload_n 2, 1) := by decide +kernel
theorem d4_16 : decode prog_5_method_4_code 16 = .ok (.if_icmp .ge 43, 3) := by decide +kernel
theorem d4_19 : decode prog_5_method_4_code 19 = .ok (.iload 6, 2) := by decide +kernel
theorem d4_21 : decode prog_5_method_4_code 21 = .ok (.istore 5, 2) := by decide +kernel
theorem d4_23 : decode prog_5_method_4_code 23 = .ok (.lload_n 3, 1) := by decide +kernel
theorem d4_24 : decode prog_5_method_4_code 24 = .ok (.ldc2_w 36, 3) := by decide +kernel
theorem d4_27 : decode prog_5_method_4_code 27 = .ok (.lmul, 1) := by decide +kernel
theorem d4_28 : decode prog_5_method_4_code 28 = .ok (.lconst 1, 1) := by decide +kernel
theorem d4_29 : decode prog_5_method_4_code 29 = .ok (.ladd, 1) := by decide +kernel
theorem d4_30 : decode prog_5_method_4_code 30 = .ok (.lstore_n 3, 1) := by decide +kernel
theorem d4_31 : decode prog_5_method_4_code 31 = .ok (.lload_n 3, 1) := by decide +kernel
theorem d4_32 : decode prog_5_method_4_code 32 = .ok (.bipush 33, 2) := by decide +kernel
theorem d4_34 : decode prog_5_method_4_code 34 = .ok (.lushr, 1) := by decide +kernel
theorem d4_35 : decode prog_5_method_4_code 35 = .ok (.l2i, 1) := by decide +kernel
theorem d4_36 : decode prog_5_method_4_code 36 = .ok (.iconst 1, 1) := by decide +kernel
theorem d4_37 : decode prog_5_method_4_code 37 = .ok (.iadd, 1) := by decide +kernel
theorem d4_38 : decode prog_5_method_4_code 38 = .ok (.i2d, 1) := by decide +kernel
theorem d4_39 : decode prog_5_method_4_code 39 = .ok (.ldc2_w 38, 3) := by decide +kernel
theorem d4_42 : decode prog_5_method_4_code 42 = .ok (.ddiv, 1) := by decide +kernel
theorem d4_43 : decode prog_5_method_4_code 43 = .ok (.dstore 7, 2) := by decide +kernel
theorem d4_45 : decode prog_5_method_4_code 45 = .ok (.iload 5, 2) := by decide +kernel
theorem d4_47 : decode prog_5_method_4_code 47 = .ok (.iconst 1, 1) := by decide +kernel
theorem d4_48 : decode prog_5_method_4_code 48 = .ok (.iadd, 1) := by decide +kernel
theorem d4_49 : decode prog_5_method_4_code 49 = .ok (.i2d, 1) := by decide +kernel
theorem d4_50 : decode prog_5_method_4_code 50 = .ok (.dload 7, 2) := by decide +kernel
theorem d4_52 : decode prog_5_method_4_code 52 = .ok (.ddiv, 1) := by decide +kernel
theorem d4_53 : decode prog_5_method_4_code 53 = .ok (.d2i, 1) := by decide +kernel
theorem d4_54 : decode prog_5_method_4_code 54 = .ok (.istore 6, 2) := by decide +kernel
theorem d4_56 : decode prog_5_method_4_code 56 = .ok (.goto (-48), 3) := by decide +kernel
theorem d4_59 : decode prog_5_method_4_code 59 = .ok (.iload 5, 2) := by decide +kernel
theorem d4_61 : decode prog_5_method_4_code 61 = .ok (.ireturn, 1) := by decide +kernel
theorem pd__28JJ_29J : parseMethodDescriptor "(JJ)J" = some ⟨[.long, .long], some .long⟩ := by decide +kernel
theorem pd__28J_29J : parseMethodDescriptor "(J)J" = some ⟨[.long], some .long⟩ := by decide +kernel
theorem pd__28IJ_29I : parseMethodDescriptor "(IJ)I" = some ⟨[.int, .long], some .int⟩ := by decide +kernel
theorem pd__28JI_29I : parseMethodDescriptor "(JI)I" = some ⟨[.long, .int], some .int⟩ := by decide +kernel
theorem ef_rm1 (q1 : Int64) (m : MethodId) : entryFrame m #[.long q1] 2 = mkF m 0 #[.val (.long q1), .second] [] := by
  first | (simp [entryFrame, mkF, argsToLocals, Value.category]; done) | rfl
theorem pn_rm1 : plainName "com/example/astilla/astilla/JumpPlacementBucketPinLaw" = true := by first | (simp [plainName, overriddenIn]; done) | decide +kernel
set_option maxRecDepth 65536 in
set_option maxHeartbeats 40000000 in
theorem rm1 (l : Launch) (Z : State) (a0 : Array Value) (hw : ∀ d ∈ tables_1, d.before a0 Z = true) (ws : List Jvm.Cond) (q1 : Int64) (h0 : Heap) (n0 : Nat)  :
    Ctr l Z ({ cls := "com/example/astilla/astilla/JumpPlacementBucketPinLaw", name := "step", desc := "(J)J" } : Jvm.MethodName) method_2_code 2 (some .long) ws ({ frames := 0, cells := 0, slots := 0, locals := 0 } : Room) #[.long q1] h0 (fun v h L => v = some (.long (stp q1)) ∧ Fr n0 L ∧ h = h0) := by
  refine Ctr.enter (Ls := #[.val (.long q1), .second]) (plainFor_of_name pn_rm1) (fun m => ef_rm1 q1 m) ?_
  intro p e s m below meth c T hx hby hml hown hnm hret hlk hZ hh X0 e0
  have N0 := Fr.nil n0
  refine g_lloadN X0 hx hby d1_0 (pc' := 1) rfl rfl ?_
  refine g_ldcL X0 hx hZ hown hby d1_1 (pc' := 4) rfl (w_6 hw) ?_
  refine g_lmul X0 hx hby d1_4 (pc' := 5) rfl ?_
  refine g_lconst X0 hx hby d1_5 (pc' := 6) rfl (z := (1 : Int64)) rfl ?_
  refine g_ladd X0 hx hby d1_6 (pc' := 7) rfl ?_
  exact g_retL (Q := (fun v h L => v = some (.long (stp q1)) ∧ Fr n0 L ∧ h = h0)) X0 hx hby d1_7 hret hlk (by decide) (by decide) ⟨rfl, N0, e0⟩
theorem ef_rm3 (q1 : Int64) (q2 : Int64) (m : MethodId) : entryFrame m #[.long q1, .long q2] 4 = mkF m 0 #[.val (.long q1), .second, .val (.long q2), .second] [] := by
  first | (simp [entryFrame, mkF, argsToLocals, Value.category]; done) | rfl
set_option maxRecDepth 65536 in
set_option maxHeartbeats 40000000 in
theorem rm3 (l : Launch) (Z : State) (a0 : Array Value) (hw : ∀ d ∈ tables_1, d.before a0 Z = true) (ws : List Jvm.Cond) (q1 : Int64) (q2 : Int64) (h0 : Heap) (n0 : Nat)  :
    Ctr l Z ({ cls := "java/lang/Math", name := "min", desc := "(JJ)J" } : Jvm.MethodName) jdk_29_method_70_code 4 (some .long) ws ({ frames := 0, cells := 0, slots := 0, locals := 0 } : Room) #[.long q1, .long q2] h0 (fun v h L => v = some (.long (minL q1 q2)) ∧ Fr n0 L ∧ h = h0) := by
  refine Ctr.enter (Ls := #[.val (.long q1), .second, .val (.long q2), .second]) (by decide +kernel) (fun m => ef_rm3 q1 q2 m) ?_
  intro p e s m below meth c T hx hby hml hown hnm hret hlk hZ hh X0 e0
  have N0 := Fr.nil n0
  refine g_lloadN X0 hx hby d3_0 (pc' := 1) rfl rfl ?_
  refine g_lloadN X0 hx hby d3_1 (pc' := 2) rfl rfl ?_
  refine g_lcmp X0 hx hby d3_2 (pc' := 3) rfl ?_
  refine g_ifL_gt X0 hx hby d3_3 (by decide) (pc' := 10) (by decide) (pn := 6) rfl (fun hc3_1 => ?_) (fun hc3_1 => ?_)
  · refine g_lloadN X0 hx hby d3_10 (pc' := 11) rfl rfl ?_
    exact g_retL (Q := (fun v h L => v = some (.long (minL q1 q2)) ∧ Fr n0 L ∧ h = h0)) X0 hx hby d3_11 hret hlk (by decide) (by decide) ⟨congrArg (fun z : Int64 => some (Value.long z)) (by simp only [minL, hc3_1, if_true, if_false, ↓reduceIte]), N0, e0⟩
  · refine g_lloadN X0 hx hby d3_6 (pc' := 7) rfl rfl ?_
    refine g_goto X0 hx hby d3_7 (by decide) (pc' := 11) (by decide) ?_
    exact g_retL (Q := (fun v h L => v = some (.long (minL q1 q2)) ∧ Fr n0 L ∧ h = h0)) X0 hx hby d3_11 hret hlk (by decide) (by decide) ⟨congrArg (fun z : Int64 => some (Value.long z)) (by simp only [minL, hc3_1, if_true, if_false, ↓reduceIte]), N0, e0⟩
theorem ef_rm2 (q1 : Int32) (q2 : Int64) (m : MethodId) : entryFrame m #[.int q1, .long q2] 6 = mkF m 0 #[.val (.int q1), .val (.long q2), .second, .unset, .unset, .unset] [] := by
  first | (simp [entryFrame, mkF, argsToLocals, Value.category]; done) | rfl
theorem pn_rm2 : plainName "com/example/astilla/astilla/JumpPlacementBucketPinLaw" = true := by first | (simp [plainName, overriddenIn]; done) | decide +kernel
set_option maxRecDepth 65536 in
set_option maxHeartbeats 40000000 in
theorem rm2 (l : Launch) (Z : State) (a0 : Array Value) (hw : ∀ d ∈ tables_1, d.before a0 Z = true) (ws : List Jvm.Cond) (q1 : Int32) (q2 : Int64) (h0 : Heap) (n0 : Nat)  :
    Ctr l Z ({ cls := "com/example/astilla/astilla/JumpPlacementBucketPinLaw", name := "nxt", desc := "(IJ)I" } : Jvm.MethodName) method_3_code 6 (some .int) ws ({ frames := 1, cells := 0, slots := 0, locals := 15 } : Room) #[.int q1, .long q2] h0 (fun v h L => v = some (.int (nxtV q1 q2)) ∧ Fr n0 L ∧ h = h0) := by
  refine Ctr.enter (Ls := #[.val (.int q1), .val (.long q2), .second, .unset, .unset, .unset]) (plainFor_of_name pn_rm2) (fun m => ef_rm2 q1 q2 m) ?_
  intro p e s m below meth c T hx hby hml hown hnm hret hlk hZ hh X0 e0
  have N0 := Fr.nil n0
  refine g_lloadN X0 hx hby d2_0 (pc' := 1) rfl rfl ?_
  refine g_bipush X0 hx hby d2_1 (pc' := 3) rfl (z := (33 : Int32)) rfl ?_
  refine g_lushr X0 hx hby d2_3 (pc' := 4) rfl ?_
  refine g_l2i X0 hx hby d2_4 (pc' := 5) rfl ?_
  refine g_iconst X0 hx hby d2_5 (pc' := 6) rfl (z := (1 : Int32)) rfl ?_
  refine g_iadd X0 hx hby d2_6 (pc' := 7) rfl ?_
  refine g_istoreN X0 hx hby d2_7 (pc' := 8) rfl (l' := #[.val (.int q1), .val (.long q2), .second, .val (.int (uOf q2)), .unset, .unset]) rfl ?_
  refine g_iloadN X0 hx hby d2_8 (pc' := 9) rfl rfl ?_
  refine g_if_gt X0 hx hby d2_9 (by decide) (pc' := 14) (by decide) (pn := 12) rfl (fun hc9_1 => ?_) (fun hc9_1 => ?_)
  · refine g_iloadN X0 hx hby d2_14 (pc' := 15) rfl rfl ?_
    refine g_iconst X0 hx hby d2_15 (pc' := 16) rfl (z := (1 : Int32)) rfl ?_
    refine g_iadd X0 hx hby d2_16 (pc' := 17) rfl ?_
    refine g_i2l X0 hx hby d2_17 (pc' := 18) rfl ?_
    refine g_bipush X0 hx hby d2_18 (pc' := 20) rfl (z := (31 : Int32)) rfl ?_
    refine g_lshl X0 hx hby d2_20 (pc' := 21) rfl ?_
    refine g_iloadN X0 hx hby d2_21 (pc' := 22) rfl rfl ?_
    refine g_i2l X0 hx hby d2_22 (pc' := 23) rfl ?_
    refine g_ldiv X0 hx hby d2_23 (pc' := 24) rfl (own_nz hc9_1) ?_
    refine g_lstore X0 hx hby d2_24 (pc' := 26) rfl (l' := #[.val (.int q1), .val (.long q2), .second, .val (.int (uOf q2)), .val (.long (((q1 + (1 : Int32)).toInt64 <<< ((31 : Int32).toInt64 &&& 63)) / (uOf q2).toInt64)), .second]) rfl ?_
    refine g_lload X0 hx hby d2_26 (pc' := 28) rfl rfl ?_
    refine g_ldcL X0 hx hZ hown hby d2_28 (pc' := 31) rfl (w_10 hw) ?_
    refine g_callS X0 hx hZ hown (W := 0) (argsL := [.long (((q1 + (1 : Int32)).toInt64 <<< ((31 : Int32).toInt64 &&& 63)) / (uOf q2).toInt64), .long (2147483647 : Int64)]) (rest := []) hby d2_31 (pc' := 34) rfl (by rw [hml]; rfl) (w_11 hw) (w_12 hw) (w_13 hw) (w_14 hw) (by decide) (rm3 l Z a0 hw [] (((q1 + (1 : Int32)).toInt64 <<< ((31 : Int32).toInt64 &&& 63)) / (uOf q2).toInt64) (2147483647 : Int64) h0 n0) e0 (by decide) (by decide) (by decide) (by decide) rfl pd__28JJ_29J rfl rfl (Nat.le_of_eq rfl) ?_
    rintro _ T2 L2 X2 ⟨rfl, N2q, e2⟩
    have N2 := Fr.app N0 N2q
    show GoE p e below _ (T2.setTop (mkF m 34 #[.val (.int q1), .val (.long q2), .second, .val (.int (uOf q2)), .val (.long (((q1 + (1 : Int32)).toInt64 <<< ((31 : Int32).toInt64 &&& 63)) / (uOf q2).toInt64)), .second] [.long (minL (((q1 + (1 : Int32)).toInt64 <<< ((31 : Int32).toInt64 &&& 63)) / (uOf q2).toInt64) (2147483647 : Int64))]))
    refine g_l2i X2 hx hby d2_34 (pc' := 35) rfl ?_
    exact g_retI (Q := (fun v h L => v = some (.int (nxtV q1 q2)) ∧ Fr n0 L ∧ h = h0)) X2 hx hby d2_35 hret hlk (by decide) (by decide) ⟨congrArg (fun z : Int32 => some (Value.int z)) (by unfold nxtV; rw [if_pos hc9_1]), N2, e2⟩
  · refine g_iconst X0 hx hby d2_12 (pc' := 13) rfl (z := (-1 : Int32)) rfl ?_
    exact g_retI (Q := (fun v h L => v = some (.int (nxtV q1 q2)) ∧ Fr n0 L ∧ h = h0)) X0 hx hby d2_13 hret hlk (by decide) (by decide) ⟨congrArg (fun z : Int32 => some (Value.int z)) (by unfold nxtV; rw [if_neg hc9_1]), N0, e0⟩
theorem ef_rm4 (q1 : Int64) (q2 : Int32) (m : MethodId) : entryFrame m #[.long q1, .int q2] 9 = mkF m 0 #[.val (.long q1), .second, .val (.int q2), .unset, .unset, .unset, .unset, .unset, .unset] [] := by
  first | (simp [entryFrame, mkF, argsToLocals, Value.category]; done) | rfl
theorem pn_rm4 : plainName "com/example/astilla/astilla/JumpPlacement" = true := by first | (simp [plainName, overriddenIn]; done) | decide +kernel
set_option maxRecDepth 65536 in
set_option maxHeartbeats 40000000 in
theorem rm4 (l : Launch) (Z : State) (a0 : Array Value) (hw : ∀ d ∈ tables_1, d.before a0 Z = true) (ws : List Jvm.Cond) (q1 : Int64) (q2 : Int32) (h0 : Heap) (n0 : Nat)  :
    Ctr l Z ({ cls := "com/example/astilla/astilla/JumpPlacement", name := "bucket", desc := "(JI)I" } : Jvm.MethodName) prog_5_method_4_code 9 (some .int) ws ({ frames := 0, cells := 0, slots := 0, locals := 0 } : Room) #[.long q1, .int q2] h0 (fun v h L => v = some (.int (bucketV q1 q2)) ∧ Fr n0 L ∧ h = h0) := by
  refine Ctr.enter (Ls := #[.val (.long q1), .second, .val (.int q2), .unset, .unset, .unset, .unset, .unset, .unset]) (plainFor_of_name pn_rm4) (fun m => ef_rm4 q1 q2 m) ?_
  intro p e s m below meth c T hx hby hml hown hnm hret hlk hZ hh X0 e0
  have N0 := Fr.nil n0
  refine g_lloadN X0 hx hby d4_0 (pc' := 1) rfl rfl ?_
  refine g_lstoreN X0 hx hby d4_1 (pc' := 2) rfl (l' := #[.val (.long q1), .second, .val (.int q2), .val (.long q1), .second, .unset, .unset, .unset, .unset]) rfl ?_
  refine g_iconst X0 hx hby d4_2 (pc' := 3) rfl (z := (0 : Int32)) rfl ?_
  refine g_istore X0 hx hby d4_3 (pc' := 5) rfl (l' := #[.val (.long q1), .second, .val (.int q2), .val (.long q1), .second, .val (.int (0 : Int32)), .unset, .unset, .unset]) rfl ?_
  refine g_iconst X0 hx hby d4_5 (pc' := 6) rfl (z := (0 : Int32)) rfl ?_
  refine g_istore X0 hx hby d4_6 (pc' := 8) rfl (l' := #[.val (.long q1), .second, .val (.int q2), .val (.long q1), .second, .val (.int (0 : Int32)), .val (.int (0 : Int32)), .unset, .unset]) rfl ?_
  have loop : ∀ (k : Nat) (z : Int64) (b x : Int32) (r : UInt64), bucketV q1 q2 = bk k z b x q2 → (x.toInt < 0 ∨ q2.toInt - x.toInt ≤ (k : Int)) → Go p e below s ({ frames := 0, cells := 0, slots := 0, locals := 0 } : Room).cells ({ frames := 0, cells := 0, slots := 0, locals := 0 } : Room).slots (fun v h L => v = some (.int (bucketV q1 q2)) ∧ Fr n0 L ∧ h = h0) (T.setTop (mkF m 8 #[.val (.long q1), .second, .val (.int q2), .val (.long z), .second, .val (.int b), .val (.int x), .val (.double r), .second] [])) := by
    intro k
    induction k with
    | zero =>
      intro z b x r hv hi
      refine g_iload X0 hx hby d4_8 (pc' := 10) rfl rfl ?_
      refine g_if_lt X0 hx hby d4_10 (by decide) (pc' := 59) (by decide) (pn := 13) rfl (fun hc10_1 => ?_) (fun hc10_1 => ?_)
      · refine g_iload X0 hx hby d4_59 (pc' := 61) rfl rfl ?_
        exact g_retI (Q := (fun v h L => v = some (.int (bucketV q1 q2)) ∧ Fr n0 L ∧ h = h0)) X0 hx hby d4_61 hret hlk (by decide) (by decide) ⟨congrArg (fun z : Int32 => some (Value.int z)) (hv.trans (own_bk0 _ _ _ _)).symm, N0, e0⟩
      · refine g_iload X0 hx hby d4_13 (pc' := 15) rfl rfl ?_
        refine g_iloadN X0 hx hby d4_15 (pc' := 16) rfl rfl ?_
        refine g_icmp_ge X0 hx hby d4_16 (by decide) (pc' := 59) (by decide) (pn := 19) rfl (fun hc16_2 => ?_) (fun z => absurd z (own_zero hi hc10_1))
        refine g_iload X0 hx hby d4_59 (pc' := 61) rfl rfl ?_
        exact g_retI (Q := (fun v h L => v = some (.int (bucketV q1 q2)) ∧ Fr n0 L ∧ h = h0)) X0 hx hby d4_61 hret hlk (by decide) (by decide) ⟨congrArg (fun z : Int32 => some (Value.int z)) (hv.trans (own_bk0 _ _ _ _)).symm, N0, e0⟩
    | succ k ih =>
      intro z b x r hv hi
      refine g_iload X0 hx hby d4_8 (pc' := 10) rfl rfl ?_
      refine g_if_lt X0 hx hby d4_10 (by decide) (pc' := 59) (by decide) (pn := 13) rfl (fun hc10_3 => ?_) (fun hc10_3 => ?_)
      · refine g_iload X0 hx hby d4_59 (pc' := 61) rfl rfl ?_
        exact g_retI (Q := (fun v h L => v = some (.int (bucketV q1 q2)) ∧ Fr n0 L ∧ h = h0)) X0 hx hby d4_61 hret hlk (by decide) (by decide) ⟨congrArg (fun z : Int32 => some (Value.int z)) (hv.trans (own_bkA hc10_3)).symm, N0, e0⟩
      · refine g_iload X0 hx hby d4_13 (pc' := 15) rfl rfl ?_
        refine g_iloadN X0 hx hby d4_15 (pc' := 16) rfl rfl ?_
        refine g_icmp_ge X0 hx hby d4_16 (by decide) (pc' := 59) (by decide) (pn := 19) rfl (fun hc16_4 => ?_) (fun hc16_4 => ?_)
        · refine g_iload X0 hx hby d4_59 (pc' := 61) rfl rfl ?_
          exact g_retI (Q := (fun v h L => v = some (.int (bucketV q1 q2)) ∧ Fr n0 L ∧ h = h0)) X0 hx hby d4_61 hret hlk (by decide) (by decide) ⟨congrArg (fun z : Int32 => some (Value.int z)) (hv.trans (own_bkB hc10_3 hc16_4)).symm, N0, e0⟩
        · refine g_iload X0 hx hby d4_19 (pc' := 21) rfl rfl ?_
          refine g_istore X0 hx hby d4_21 (pc' := 23) rfl (l' := #[.val (.long q1), .second, .val (.int q2), .val (.long z), .second, .val (.int x), .val (.int x), .val (.double r), .second]) rfl ?_
          refine g_lloadN X0 hx hby d4_23 (pc' := 24) rfl rfl ?_
          refine g_ldcL X0 hx hZ hown hby d4_24 (pc' := 27) rfl (w_19 hw) ?_
          refine g_lmul X0 hx hby d4_27 (pc' := 28) rfl ?_
          refine g_lconst X0 hx hby d4_28 (pc' := 29) rfl (z := (1 : Int64)) rfl ?_
          refine g_ladd X0 hx hby d4_29 (pc' := 30) rfl ?_
          refine g_lstoreN X0 hx hby d4_30 (pc' := 31) rfl (l' := #[.val (.long q1), .second, .val (.int q2), .val (.long (stp z)), .second, .val (.int x), .val (.int x), .val (.double r), .second]) rfl ?_
          refine g_lloadN X0 hx hby d4_31 (pc' := 32) rfl rfl ?_
          refine g_bipush X0 hx hby d4_32 (pc' := 34) rfl (z := (33 : Int32)) rfl ?_
          refine g_lushr X0 hx hby d4_34 (pc' := 35) rfl ?_
          refine g_l2i X0 hx hby d4_35 (pc' := 36) rfl ?_
          refine g_iconst X0 hx hby d4_36 (pc' := 37) rfl (z := (1 : Int32)) rfl ?_
          refine g_iadd X0 hx hby d4_37 (pc' := 38) rfl ?_
          refine g_i2d X0 hx hby d4_38 (pc' := 39) rfl ?_
          refine g_ldcD X0 hx hZ hown hby d4_39 (pc' := 42) rfl (w_20 hw) ?_
          refine g_ddiv X0 hx hby d4_42 (pc' := 43) rfl (own_d1 _) ?_
          refine g_dstore X0 hx hby d4_43 (pc' := 45) rfl (l' := #[.val (.long q1), .second, .val (.int q2), .val (.long (stp z)), .second, .val (.int x), .val (.int x), .val (.double (FP.ddiv (FP.l2d (uOf (stp z)).toInt64) (4746794007248502784 : UInt64))), .second]) rfl ?_
          refine g_iload X0 hx hby d4_45 (pc' := 47) rfl rfl ?_
          refine g_iconst X0 hx hby d4_47 (pc' := 48) rfl (z := (1 : Int32)) rfl ?_
          refine g_iadd X0 hx hby d4_48 (pc' := 49) rfl ?_
          refine g_i2d X0 hx hby d4_49 (pc' := 50) rfl ?_
          refine g_dload X0 hx hby d4_50 (pc' := 52) rfl rfl ?_
          refine g_ddiv X0 hx hby d4_52 (pc' := 53) rfl (own_d2 _ _) ?_
          refine g_d2i X0 hx hby d4_53 (pc' := 54) rfl ?_
          refine g_istore X0 hx hby d4_54 (pc' := 56) rfl (l' := #[.val (.long q1), .second, .val (.int q2), .val (.long (stp z)), .second, .val (.int x), .val (.int (nxI x (stp z))), .val (.double (FP.ddiv (FP.l2d (uOf (stp z)).toInt64) (4746794007248502784 : UInt64))), .second]) rfl ?_
          refine g_goto X0 hx hby d4_56 (by decide) (pc' := 8) (by decide) ?_
          exact ih (stp z) x (nxI x (stp z)) _ (hv.trans (own_bkY hc10_3 hc16_4)) (own_inv _ hi hc10_3 hc16_4)
  refine g_iload X0 hx hby d4_8 (pc' := 10) rfl rfl ?_
  refine g_if_lt X0 hx hby d4_10 (by decide) (pc' := 59) (by decide) (pn := 13) rfl (fun z => absurd z (by decide)) (fun _ => ?_)
  refine g_iload X0 hx hby d4_13 (pc' := 15) rfl rfl ?_
  refine g_iloadN X0 hx hby d4_15 (pc' := 16) rfl rfl ?_
  refine g_icmp_ge X0 hx hby d4_16 (by decide) (pc' := 59) (by decide) (pn := 19) rfl (fun hc16_5 => ?_) (fun hc16_5 => ?_)
  · refine g_iload X0 hx hby d4_59 (pc' := 61) rfl rfl ?_
    exact g_retI (Q := (fun v h L => v = some (.int (bucketV q1 q2)) ∧ Fr n0 L ∧ h = h0)) X0 hx hby d4_61 hret hlk (by decide) (by decide) ⟨congrArg (fun z : Int32 => some (Value.int z)) (own_bz hc16_5).symm, N0, e0⟩
  · refine g_iload X0 hx hby d4_19 (pc' := 21) rfl rfl ?_
    refine g_istore X0 hx hby d4_21 (pc' := 23) rfl (l' := #[.val (.long q1), .second, .val (.int q2), .val (.long q1), .second, .val (.int (0 : Int32)), .val (.int (0 : Int32)), .unset, .unset]) rfl ?_
    refine g_lloadN X0 hx hby d4_23 (pc' := 24) rfl rfl ?_
    refine g_ldcL X0 hx hZ hown hby d4_24 (pc' := 27) rfl (w_19 hw) ?_
    refine g_lmul X0 hx hby d4_27 (pc' := 28) rfl ?_
    refine g_lconst X0 hx hby d4_28 (pc' := 29) rfl (z := (1 : Int64)) rfl ?_
    refine g_ladd X0 hx hby d4_29 (pc' := 30) rfl ?_
    refine g_lstoreN X0 hx hby d4_30 (pc' := 31) rfl (l' := #[.val (.long q1), .second, .val (.int q2), .val (.long (stp q1)), .second, .val (.int (0 : Int32)), .val (.int (0 : Int32)), .unset, .unset]) rfl ?_
    refine g_lloadN X0 hx hby d4_31 (pc' := 32) rfl rfl ?_
    refine g_bipush X0 hx hby d4_32 (pc' := 34) rfl (z := (33 : Int32)) rfl ?_
    refine g_lushr X0 hx hby d4_34 (pc' := 35) rfl ?_
    refine g_l2i X0 hx hby d4_35 (pc' := 36) rfl ?_
    refine g_iconst X0 hx hby d4_36 (pc' := 37) rfl (z := (1 : Int32)) rfl ?_
    refine g_iadd X0 hx hby d4_37 (pc' := 38) rfl ?_
    refine g_i2d X0 hx hby d4_38 (pc' := 39) rfl ?_
    refine g_ldcD X0 hx hZ hown hby d4_39 (pc' := 42) rfl (w_20 hw) ?_
    refine g_ddiv X0 hx hby d4_42 (pc' := 43) rfl (own_d1 _) ?_
    refine g_dstore X0 hx hby d4_43 (pc' := 45) rfl (l' := #[.val (.long q1), .second, .val (.int q2), .val (.long (stp q1)), .second, .val (.int (0 : Int32)), .val (.int (0 : Int32)), .val (.double (FP.ddiv (FP.l2d (uOf (stp q1)).toInt64) (4746794007248502784 : UInt64))), .second]) rfl ?_
    refine g_iload X0 hx hby d4_45 (pc' := 47) rfl rfl ?_
    refine g_iconst X0 hx hby d4_47 (pc' := 48) rfl (z := (1 : Int32)) rfl ?_
    refine g_iadd X0 hx hby d4_48 (pc' := 49) rfl ?_
    refine g_i2d X0 hx hby d4_49 (pc' := 50) rfl ?_
    refine g_dload X0 hx hby d4_50 (pc' := 52) rfl rfl ?_
    refine g_ddiv X0 hx hby d4_52 (pc' := 53) rfl (own_d2 _ _) ?_
    refine g_d2i X0 hx hby d4_53 (pc' := 54) rfl ?_
    refine g_istore X0 hx hby d4_54 (pc' := 56) rfl (l' := #[.val (.long q1), .second, .val (.int q2), .val (.long (stp q1)), .second, .val (.int (0 : Int32)), .val (.int (nxI (0 : Int32) (stp q1))), .val (.double (FP.ddiv (FP.l2d (uOf (stp q1)).toInt64) (4746794007248502784 : UInt64))), .second]) rfl ?_
    refine g_goto X0 hx hby d4_56 (by decide) (pc' := 8) (by decide) ?_
    exact loop (FU + 1 + 1) (stp q1) (0 : Int32) (nxI (0 : Int32) (stp q1)) _ (own_b0 hc16_5) (own_inv0 _ _)
theorem ef_rm0 (q1 : Int64) (q2 : Int32) (m : MethodId) : entryFrame m #[.long q1, .int q2] maxLocals = mkF m 0 #[.val (.long q1), .second, .val (.int q2), .unset, .unset, .unset, .unset, .unset, .unset, .unset, .unset, .unset, .unset, .unset, .unset, .unset, .unset, .unset, .unset, .unset] [] := by
  first | (simp [entryFrame, mkF, argsToLocals, Value.category, maxLocals]; done) | rfl
theorem pn_rm0 : plainName "com/example/astilla/astilla/JumpPlacementBucketPinLaw" = true := by first | (simp [plainName, overriddenIn]; done) | decide +kernel
set_option maxRecDepth 65536 in
set_option maxHeartbeats 40000000 in
theorem rm0 (l : Launch) (Z : State) (a0 : Array Value) (hw : ∀ d ∈ tables_1, d.before a0 Z = true) (ws : List Jvm.Cond) (q1 : Int64) (q2 : Int32) (h0 : Heap) (n0 : Nat)  :
    Ctr l Z x code maxLocals ret ws room_1 #[.long q1, .int q2] h0 (fun v h L => v = some (.int 1) ∧ Fr n0 L) := by
  refine Ctr.enter (Ls := #[.val (.long q1), .second, .val (.int q2), .unset, .unset, .unset, .unset, .unset, .unset, .unset, .unset, .unset, .unset, .unset, .unset, .unset, .unset, .unset, .unset, .unset]) (plainFor_of_name pn_rm0) (fun m => ef_rm0 q1 q2 m) ?_
  intro p e s m below meth c T hx hby hml hown hnm hret hlk hZ hh X0 e0
  have N0 := Fr.nil n0
  refine g_iloadN X0 hx hby at_0 (pc' := 1) rfl rfl ?_
  refine g_ldcI X0 hx hZ hown hby at_1 (pc' := 3) rfl (w_0 hw) ?_
  refine g_iand X0 hx hby at_3 (pc' := 4) rfl ?_
  refine g_ldcI X0 hx hZ hown hby at_4 (pc' := 6) rfl (w_1 hw) ?_
  refine g_irem X0 hx hby at_6 (pc' := 7) rfl (by decide) ?_
  refine g_iconst X0 hx hby at_7 (pc' := 8) rfl (z := (1 : Int32)) rfl ?_
  refine g_iadd X0 hx hby at_8 (pc' := 9) rfl ?_
  refine g_istoreN X0 hx hby at_9 (pc' := 10) rfl (l' := #[.val (.long q1), .second, .val (.int q2), .val (.int (nN q2)), .unset, .unset, .unset, .unset, .unset, .unset, .unset, .unset, .unset, .unset, .unset, .unset, .unset, .unset, .unset, .unset]) rfl ?_
  refine g_lloadN X0 hx hby at_10 (pc' := 11) rfl rfl ?_
  refine g_callS X0 hx hZ hown (W := 0) (argsL := [.long q1]) (rest := []) hby at_11 (pc' := 14) rfl (by rw [hml]; rfl) (w_2 hw) (w_3 hw) (w_4 hw) (w_5 hw) (by decide) (rm1 l Z a0 hw [] q1 h0 n0) e0 (by decide) (by decide) (by decide) (by decide) rfl pd__28J_29J rfl rfl (Nat.le_of_eq rfl) ?_
  rintro _ T1 L1 X1 ⟨rfl, N1q, e1⟩
  have N1 := Fr.app N0 N1q
  show GoE p e below _ (T1.setTop (mkF m 14 #[.val (.long q1), .second, .val (.int q2), .val (.int (nN q2)), .unset, .unset, .unset, .unset, .unset, .unset, .unset, .unset, .unset, .unset, .unset, .unset, .unset, .unset, .unset, .unset] [.long (stp q1)]))
  refine g_lstore X1 hx hby at_14 (pc' := 16) rfl (l' := #[.val (.long q1), .second, .val (.int q2), .val (.int (nN q2)), .val (.long (stp q1)), .second, .unset, .unset, .unset, .unset, .unset, .unset, .unset, .unset, .unset, .unset, .unset, .unset, .unset, .unset]) rfl ?_
  refine g_iconst X1 hx hby at_16 (pc' := 17) rfl (z := (0 : Int32)) rfl ?_
  refine g_lload X1 hx hby at_17 (pc' := 19) rfl rfl ?_
  refine g_callS X1 hx hZ hown (W := 0) (argsL := [.int (0 : Int32), .long (stp q1)]) (rest := []) hby at_19 (pc' := 22) rfl (by rw [hml]; rfl) (w_7 hw) (w_8 hw) (w_4 hw) (w_9 hw) (by decide) (rm2 l Z a0 hw [] (0 : Int32) (stp q1) h0 n0) e1 (by decide) (by decide) (by decide) (by decide) rfl pd__28IJ_29I rfl rfl (Nat.le_of_eq rfl) ?_
  rintro _ T2 L2 X2 ⟨rfl, N2q, e2⟩
  have N2 := Fr.app N1 N2q
  show GoE p e below _ (T2.setTop (mkF m 22 #[.val (.long q1), .second, .val (.int q2), .val (.int (nN q2)), .val (.long (stp q1)), .second, .unset, .unset, .unset, .unset, .unset, .unset, .unset, .unset, .unset, .unset, .unset, .unset, .unset, .unset] [.int (nxtV (0 : Int32) (stp q1))]))
  refine g_istore X2 hx hby at_22 (pc' := 24) rfl (l' := #[.val (.long q1), .second, .val (.int q2), .val (.int (nN q2)), .val (.long (stp q1)), .second, .val (.int (nxtV (0 : Int32) (stp q1))), .unset, .unset, .unset, .unset, .unset, .unset, .unset, .unset, .unset, .unset, .unset, .unset, .unset]) rfl ?_
  refine g_lload X2 hx hby at_24 (pc' := 26) rfl rfl ?_
  refine g_callS X2 hx hZ hown (W := 0) (argsL := [.long (stp q1)]) (rest := []) hby at_26 (pc' := 29) rfl (by rw [hml]; rfl) (w_2 hw) (w_3 hw) (w_4 hw) (w_5 hw) (by decide) (rm1 l Z a0 hw [] (stp q1) h0 n0) e2 (by decide) (by decide) (by decide) (by decide) rfl pd__28J_29J rfl rfl (Nat.le_of_eq rfl) ?_
  rintro _ T3 L3 X3 ⟨rfl, N3q, e3⟩
  have N3 := Fr.app N2 N3q
  show GoE p e below _ (T3.setTop (mkF m 29 #[.val (.long q1), .second, .val (.int q2), .val (.int (nN q2)), .val (.long (stp q1)), .second, .val (.int (nxtV (0 : Int32) (stp q1))), .unset, .unset, .unset, .unset, .unset, .unset, .unset, .unset, .unset, .unset, .unset, .unset, .unset] [.long (stp (stp q1))]))
  refine g_lstore X3 hx hby at_29 (pc' := 31) rfl (l' := #[.val (.long q1), .second, .val (.int q2), .val (.int (nN q2)), .val (.long (stp q1)), .second, .val (.int (nxtV (0 : Int32) (stp q1))), .val (.long (stp (stp q1))), .second, .unset, .unset, .unset, .unset, .unset, .unset, .unset, .unset, .unset, .unset, .unset]) rfl ?_
  have cut4 : ∀ (T4 : State) (L4 : List Loc), Stand p l e room_1 s m #[.long q1, .int q2] below meth c T4 L4 0 0 → T4.heap = h0 → Fr n0 L4 → Go p e below s room_1.cells room_1.slots (fun v h L => v = some (.int 1) ∧ Fr n0 L) (T4.setTop (mkF m 42 #[.val (.long q1), .second, .val (.int q2), .val (.int (nN q2)), .val (.long (stp q1)), .second, .val (.int (nxtV (0 : Int32) (stp q1))), .val (.long (stp (stp q1))), .second, .unset, .unset, .unset, .unset, .unset, .unset, .unset, .unset, .unset, .unset, .unset] [.int (ref2 (nxtV (0 : Int32) (stp q1)))])) := by
    intro T4 L4 X4 e4 N4
    refine g_istore X4 hx hby at_42 (pc' := 44) rfl (l' := #[.val (.long q1), .second, .val (.int q2), .val (.int (nN q2)), .val (.long (stp q1)), .second, .val (.int (nxtV (0 : Int32) (stp q1))), .val (.long (stp (stp q1))), .second, .val (.int (ref2 (nxtV (0 : Int32) (stp q1)))), .unset, .unset, .unset, .unset, .unset, .unset, .unset, .unset, .unset, .unset]) rfl ?_
    have cut5 : ∀ (T5 : State) (L5 : List Loc), Stand p l e room_1 s m #[.long q1, .int q2] below meth c T5 L5 0 0 → T5.heap = h0 → Fr n0 L5 → Go p e below s room_1.cells room_1.slots (fun v h L => v = some (.int 1) ∧ Fr n0 L) (T5.setTop (mkF m 85 #[.val (.long q1), .second, .val (.int q2), .val (.int (nN q2)), .val (.long (stp q1)), .second, .val (.int (nxtV (0 : Int32) (stp q1))), .val (.long (stp (stp q1))), .second, .val (.int (ref2 (nxtV (0 : Int32) (stp q1)))), .val (.int (ref3 (nxtV (0 : Int32) (stp q1)) (nxtV (1 : Int32) (stp (stp q1))))), .unset, .unset, .unset, .unset, .unset, .unset, .unset, .unset, .unset] [])) := by
      intro T5 L5 X5 e5 N5
      refine g_lloadN X5 hx hby at_85 (pc' := 86) rfl rfl ?_
      refine g_iconst X5 hx hby at_86 (pc' := 87) rfl (z := (1 : Int32)) rfl ?_
      refine g_callS X5 hx hZ hown (W := 0) (argsL := [.long q1, .int (1 : Int32)]) (rest := []) hby at_87 (pc' := 90) rfl (by rw [hml]; rfl) (w_15 hw) (w_16 hw) (w_17 hw) (w_18 hw) (by decide) (rm4 l Z a0 hw [] q1 (1 : Int32) h0 n0) e5 (by decide) (by decide) (by decide) (by decide) rfl pd__28JI_29I rfl rfl (Nat.le_of_eq rfl) ?_
      rintro _ T6 L6 X6 ⟨rfl, N6q, e6⟩
      have N6 := Fr.app N5 N6q
      show GoE p e below _ (T6.setTop (mkF m 90 #[.val (.long q1), .second, .val (.int q2), .val (.int (nN q2)), .val (.long (stp q1)), .second, .val (.int (nxtV (0 : Int32) (stp q1))), .val (.long (stp (stp q1))), .second, .val (.int (ref2 (nxtV (0 : Int32) (stp q1)))), .val (.int (ref3 (nxtV (0 : Int32) (stp q1)) (nxtV (1 : Int32) (stp (stp q1))))), .unset, .unset, .unset, .unset, .unset, .unset, .unset, .unset, .unset] [.int (bucketV q1 (1 : Int32))]))
      refine g_istore X6 hx hby at_90 (pc' := 92) rfl (l' := #[.val (.long q1), .second, .val (.int q2), .val (.int (nN q2)), .val (.long (stp q1)), .second, .val (.int (nxtV (0 : Int32) (stp q1))), .val (.long (stp (stp q1))), .second, .val (.int (ref2 (nxtV (0 : Int32) (stp q1)))), .val (.int (ref3 (nxtV (0 : Int32) (stp q1)) (nxtV (1 : Int32) (stp (stp q1))))), .val (.int (bucketV q1 (1 : Int32))), .unset, .unset, .unset, .unset, .unset, .unset, .unset, .unset]) rfl ?_
      refine g_lloadN X6 hx hby at_92 (pc' := 93) rfl rfl ?_
      refine g_iconst X6 hx hby at_93 (pc' := 94) rfl (z := (2 : Int32)) rfl ?_
      refine g_callS X6 hx hZ hown (W := 0) (argsL := [.long q1, .int (2 : Int32)]) (rest := []) hby at_94 (pc' := 97) rfl (by rw [hml]; rfl) (w_15 hw) (w_16 hw) (w_17 hw) (w_18 hw) (by decide) (rm4 l Z a0 hw [] q1 (2 : Int32) h0 n0) e6 (by decide) (by decide) (by decide) (by decide) rfl pd__28JI_29I rfl rfl (Nat.le_of_eq rfl) ?_
      rintro _ T7 L7 X7 ⟨rfl, N7q, e7⟩
      have N7 := Fr.app N6 N7q
      show GoE p e below _ (T7.setTop (mkF m 97 #[.val (.long q1), .second, .val (.int q2), .val (.int (nN q2)), .val (.long (stp q1)), .second, .val (.int (nxtV (0 : Int32) (stp q1))), .val (.long (stp (stp q1))), .second, .val (.int (ref2 (nxtV (0 : Int32) (stp q1)))), .val (.int (ref3 (nxtV (0 : Int32) (stp q1)) (nxtV (1 : Int32) (stp (stp q1))))), .val (.int (bucketV q1 (1 : Int32))), .unset, .unset, .unset, .unset, .unset, .unset, .unset, .unset] [.int (bucketV q1 (2 : Int32))]))
      refine g_istore X7 hx hby at_97 (pc' := 99) rfl (l' := #[.val (.long q1), .second, .val (.int q2), .val (.int (nN q2)), .val (.long (stp q1)), .second, .val (.int (nxtV (0 : Int32) (stp q1))), .val (.long (stp (stp q1))), .second, .val (.int (ref2 (nxtV (0 : Int32) (stp q1)))), .val (.int (ref3 (nxtV (0 : Int32) (stp q1)) (nxtV (1 : Int32) (stp (stp q1))))), .val (.int (bucketV q1 (1 : Int32))), .val (.int (bucketV q1 (2 : Int32))), .unset, .unset, .unset, .unset, .unset, .unset, .unset]) rfl ?_
      refine g_lloadN X7 hx hby at_99 (pc' := 100) rfl rfl ?_
      refine g_iconst X7 hx hby at_100 (pc' := 101) rfl (z := (3 : Int32)) rfl ?_
      refine g_callS X7 hx hZ hown (W := 0) (argsL := [.long q1, .int (3 : Int32)]) (rest := []) hby at_101 (pc' := 104) rfl (by rw [hml]; rfl) (w_15 hw) (w_16 hw) (w_17 hw) (w_18 hw) (by decide) (rm4 l Z a0 hw [] q1 (3 : Int32) h0 n0) e7 (by decide) (by decide) (by decide) (by decide) rfl pd__28JI_29I rfl rfl (Nat.le_of_eq rfl) ?_
      rintro _ T8 L8 X8 ⟨rfl, N8q, e8⟩
      have N8 := Fr.app N7 N8q
      show GoE p e below _ (T8.setTop (mkF m 104 #[.val (.long q1), .second, .val (.int q2), .val (.int (nN q2)), .val (.long (stp q1)), .second, .val (.int (nxtV (0 : Int32) (stp q1))), .val (.long (stp (stp q1))), .second, .val (.int (ref2 (nxtV (0 : Int32) (stp q1)))), .val (.int (ref3 (nxtV (0 : Int32) (stp q1)) (nxtV (1 : Int32) (stp (stp q1))))), .val (.int (bucketV q1 (1 : Int32))), .val (.int (bucketV q1 (2 : Int32))), .unset, .unset, .unset, .unset, .unset, .unset, .unset] [.int (bucketV q1 (3 : Int32))]))
      refine g_istore X8 hx hby at_104 (pc' := 106) rfl (l' := #[.val (.long q1), .second, .val (.int q2), .val (.int (nN q2)), .val (.long (stp q1)), .second, .val (.int (nxtV (0 : Int32) (stp q1))), .val (.long (stp (stp q1))), .second, .val (.int (ref2 (nxtV (0 : Int32) (stp q1)))), .val (.int (ref3 (nxtV (0 : Int32) (stp q1)) (nxtV (1 : Int32) (stp (stp q1))))), .val (.int (bucketV q1 (1 : Int32))), .val (.int (bucketV q1 (2 : Int32))), .val (.int (bucketV q1 (3 : Int32))), .unset, .unset, .unset, .unset, .unset, .unset]) rfl ?_
      refine g_lloadN X8 hx hby at_106 (pc' := 107) rfl rfl ?_
      refine g_iloadN X8 hx hby at_107 (pc' := 108) rfl rfl ?_
      refine g_callS X8 hx hZ hown (W := 0) (argsL := [.long q1, .int (nN q2)]) (rest := []) hby at_108 (pc' := 111) rfl (by rw [hml]; rfl) (w_15 hw) (w_16 hw) (w_17 hw) (w_18 hw) (by decide) (rm4 l Z a0 hw [] q1 (nN q2) h0 n0) e8 (by decide) (by decide) (by decide) (by decide) rfl pd__28JI_29I rfl rfl (Nat.le_of_eq rfl) ?_
      rintro _ T9 L9 X9 ⟨rfl, N9q, e9⟩
      have N9 := Fr.app N8 N9q
      show GoE p e below _ (T9.setTop (mkF m 111 #[.val (.long q1), .second, .val (.int q2), .val (.int (nN q2)), .val (.long (stp q1)), .second, .val (.int (nxtV (0 : Int32) (stp q1))), .val (.long (stp (stp q1))), .second, .val (.int (ref2 (nxtV (0 : Int32) (stp q1)))), .val (.int (ref3 (nxtV (0 : Int32) (stp q1)) (nxtV (1 : Int32) (stp (stp q1))))), .val (.int (bucketV q1 (1 : Int32))), .val (.int (bucketV q1 (2 : Int32))), .val (.int (bucketV q1 (3 : Int32))), .unset, .unset, .unset, .unset, .unset, .unset] [.int (bucketV q1 (nN q2))]))
      refine g_istore X9 hx hby at_111 (pc' := 113) rfl (l' := #[.val (.long q1), .second, .val (.int q2), .val (.int (nN q2)), .val (.long (stp q1)), .second, .val (.int (nxtV (0 : Int32) (stp q1))), .val (.long (stp (stp q1))), .second, .val (.int (ref2 (nxtV (0 : Int32) (stp q1)))), .val (.int (ref3 (nxtV (0 : Int32) (stp q1)) (nxtV (1 : Int32) (stp (stp q1))))), .val (.int (bucketV q1 (1 : Int32))), .val (.int (bucketV q1 (2 : Int32))), .val (.int (bucketV q1 (3 : Int32))), .val (.int (bucketV q1 (nN q2))), .unset, .unset, .unset, .unset, .unset]) rfl ?_
      refine g_lloadN X9 hx hby at_113 (pc' := 114) rfl rfl ?_
      refine g_iloadN X9 hx hby at_114 (pc' := 115) rfl rfl ?_
      refine g_iconst X9 hx hby at_115 (pc' := 116) rfl (z := (1 : Int32)) rfl ?_
      refine g_iadd X9 hx hby at_116 (pc' := 117) rfl ?_
      refine g_callS X9 hx hZ hown (W := 0) (argsL := [.long q1, .int ((nN q2) + (1 : Int32))]) (rest := []) hby at_117 (pc' := 120) rfl (by rw [hml]; rfl) (w_15 hw) (w_16 hw) (w_17 hw) (w_18 hw) (by decide) (rm4 l Z a0 hw [] q1 ((nN q2) + (1 : Int32)) h0 n0) e9 (by decide) (by decide) (by decide) (by decide) rfl pd__28JI_29I rfl rfl (Nat.le_of_eq rfl) ?_
      rintro _ T10 L10 X10 ⟨rfl, N10q, e10⟩
      have N10 := Fr.app N9 N10q
      show GoE p e below _ (T10.setTop (mkF m 120 #[.val (.long q1), .second, .val (.int q2), .val (.int (nN q2)), .val (.long (stp q1)), .second, .val (.int (nxtV (0 : Int32) (stp q1))), .val (.long (stp (stp q1))), .second, .val (.int (ref2 (nxtV (0 : Int32) (stp q1)))), .val (.int (ref3 (nxtV (0 : Int32) (stp q1)) (nxtV (1 : Int32) (stp (stp q1))))), .val (.int (bucketV q1 (1 : Int32))), .val (.int (bucketV q1 (2 : Int32))), .val (.int (bucketV q1 (3 : Int32))), .val (.int (bucketV q1 (nN q2))), .unset, .unset, .unset, .unset, .unset] [.int (bucketV q1 ((nN q2) + (1 : Int32)))]))
      refine g_istore X10 hx hby at_120 (pc' := 122) rfl (l' := #[.val (.long q1), .second, .val (.int q2), .val (.int (nN q2)), .val (.long (stp q1)), .second, .val (.int (nxtV (0 : Int32) (stp q1))), .val (.long (stp (stp q1))), .second, .val (.int (ref2 (nxtV (0 : Int32) (stp q1)))), .val (.int (ref3 (nxtV (0 : Int32) (stp q1)) (nxtV (1 : Int32) (stp (stp q1))))), .val (.int (bucketV q1 (1 : Int32))), .val (.int (bucketV q1 (2 : Int32))), .val (.int (bucketV q1 (3 : Int32))), .val (.int (bucketV q1 (nN q2))), .val (.int (bucketV q1 ((nN q2) + (1 : Int32)))), .unset, .unset, .unset, .unset]) rfl ?_
      refine g_iconst X10 hx hby at_122 (pc' := 123) rfl (z := (0 : Int32)) rfl ?_
      refine g_iload X10 hx hby at_123 (pc' := 125) rfl rfl ?_
      refine g_icmp_gt X10 hx hby at_125 (by decide) (pc' := 152) (by decide) (pn := 128) rfl (fun z => absurd z (own_a1 q1 q2)) (fun hc125_11 => ?_)
      refine g_iload X10 hx hby at_128 (pc' := 130) rfl rfl ?_
      refine g_iloadN X10 hx hby at_130 (pc' := 131) rfl rfl ?_
      refine g_icmp_ge X10 hx hby at_131 (by decide) (pc' := 152) (by decide) (pn := 134) rfl (fun z => absurd z (fun z => z (own_a2 q1 q2))) (fun hc131_12 => ?_)
      refine g_iconst X10 hx hby at_134 (pc' := 135) rfl (z := (0 : Int32)) rfl ?_
      refine g_iload X10 hx hby at_135 (pc' := 137) rfl rfl ?_
      refine g_icmp_gt X10 hx hby at_137 (by decide) (pc' := 152) (by decide) (pn := 140) rfl (fun z => absurd z (own_a3 q1 q2)) (fun hc137_13 => ?_)
      refine g_iload X10 hx hby at_140 (pc' := 142) rfl rfl ?_
      refine g_iloadN X10 hx hby at_142 (pc' := 143) rfl rfl ?_
      refine g_iconst X10 hx hby at_143 (pc' := 144) rfl (z := (1 : Int32)) rfl ?_
      refine g_iadd X10 hx hby at_144 (pc' := 145) rfl ?_
      refine g_icmp_ge X10 hx hby at_145 (by decide) (pc' := 152) (by decide) (pn := 148) rfl (fun z => absurd z (fun z => z (own_a4 q1 q2))) (fun hc145_14 => ?_)
      refine g_iconst X10 hx hby at_148 (pc' := 149) rfl (z := (1 : Int32)) rfl ?_
      refine g_goto X10 hx hby at_149 (by decide) (pc' := 153) (by decide) ?_
      refine g_istore X10 hx hby at_153 (pc' := 155) rfl (l' := #[.val (.long q1), .second, .val (.int q2), .val (.int (nN q2)), .val (.long (stp q1)), .second, .val (.int (nxtV (0 : Int32) (stp q1))), .val (.long (stp (stp q1))), .second, .val (.int (ref2 (nxtV (0 : Int32) (stp q1)))), .val (.int (ref3 (nxtV (0 : Int32) (stp q1)) (nxtV (1 : Int32) (stp (stp q1))))), .val (.int (bucketV q1 (1 : Int32))), .val (.int (bucketV q1 (2 : Int32))), .val (.int (bucketV q1 (3 : Int32))), .val (.int (bucketV q1 (nN q2))), .val (.int (bucketV q1 ((nN q2) + (1 : Int32)))), .val (.int (1 : Int32)), .unset, .unset, .unset]) rfl ?_
      have cut15 : ∀ (T15 : State) (L15 : List Loc), Stand p l e room_1 s m #[.long q1, .int q2] below meth c T15 L15 0 0 → T15.heap = h0 → Fr n0 L15 → Go p e below s room_1.cells room_1.slots (fun v h L => v = some (.int 1) ∧ Fr n0 L) (T15.setTop (mkF m 168 #[.val (.long q1), .second, .val (.int q2), .val (.int (nN q2)), .val (.long (stp q1)), .second, .val (.int (nxtV (0 : Int32) (stp q1))), .val (.long (stp (stp q1))), .second, .val (.int (ref2 (nxtV (0 : Int32) (stp q1)))), .val (.int (ref3 (nxtV (0 : Int32) (stp q1)) (nxtV (1 : Int32) (stp (stp q1))))), .val (.int (bucketV q1 (1 : Int32))), .val (.int (bucketV q1 (2 : Int32))), .val (.int (bucketV q1 (3 : Int32))), .val (.int (bucketV q1 (nN q2))), .val (.int (bucketV q1 ((nN q2) + (1 : Int32)))), .val (.int (1 : Int32)), .unset, .unset, .unset] [])) := by
        intro T15 L15 X15 e15 N15
        refine g_iconst X15 hx hby at_168 (pc' := 169) rfl (z := (1 : Int32)) rfl ?_
        refine g_goto X15 hx hby at_169 (by decide) (pc' := 173) (by decide) ?_
        refine g_istore X15 hx hby at_173 (pc' := 175) rfl (l' := #[.val (.long q1), .second, .val (.int q2), .val (.int (nN q2)), .val (.long (stp q1)), .second, .val (.int (nxtV (0 : Int32) (stp q1))), .val (.long (stp (stp q1))), .second, .val (.int (ref2 (nxtV (0 : Int32) (stp q1)))), .val (.int (ref3 (nxtV (0 : Int32) (stp q1)) (nxtV (1 : Int32) (stp (stp q1))))), .val (.int (bucketV q1 (1 : Int32))), .val (.int (bucketV q1 (2 : Int32))), .val (.int (bucketV q1 (3 : Int32))), .val (.int (bucketV q1 (nN q2))), .val (.int (bucketV q1 ((nN q2) + (1 : Int32)))), .val (.int (1 : Int32)), .val (.int (1 : Int32)), .unset, .unset]) rfl ?_
        have cut16 : ∀ (T16 : State) (L16 : List Loc), Stand p l e room_1 s m #[.long q1, .int q2] below meth c T16 L16 0 0 → T16.heap = h0 → Fr n0 L16 → Go p e below s room_1.cells room_1.slots (fun v h L => v = some (.int 1) ∧ Fr n0 L) (T16.setTop (mkF m 212 #[.val (.long q1), .second, .val (.int q2), .val (.int (nN q2)), .val (.long (stp q1)), .second, .val (.int (nxtV (0 : Int32) (stp q1))), .val (.long (stp (stp q1))), .second, .val (.int (ref2 (nxtV (0 : Int32) (stp q1)))), .val (.int (ref3 (nxtV (0 : Int32) (stp q1)) (nxtV (1 : Int32) (stp (stp q1))))), .val (.int (bucketV q1 (1 : Int32))), .val (.int (bucketV q1 (2 : Int32))), .val (.int (bucketV q1 (3 : Int32))), .val (.int (bucketV q1 (nN q2))), .val (.int (bucketV q1 ((nN q2) + (1 : Int32)))), .val (.int (1 : Int32)), .val (.int (1 : Int32)), .unset, .unset] [.int (1 : Int32)])) := by
          intro T16 L16 X16 e16 N16
          refine g_istore X16 hx hby at_212 (pc' := 214) rfl (l' := #[.val (.long q1), .second, .val (.int q2), .val (.int (nN q2)), .val (.long (stp q1)), .second, .val (.int (nxtV (0 : Int32) (stp q1))), .val (.long (stp (stp q1))), .second, .val (.int (ref2 (nxtV (0 : Int32) (stp q1)))), .val (.int (ref3 (nxtV (0 : Int32) (stp q1)) (nxtV (1 : Int32) (stp (stp q1))))), .val (.int (bucketV q1 (1 : Int32))), .val (.int (bucketV q1 (2 : Int32))), .val (.int (bucketV q1 (3 : Int32))), .val (.int (bucketV q1 (nN q2))), .val (.int (bucketV q1 ((nN q2) + (1 : Int32)))), .val (.int (1 : Int32)), .val (.int (1 : Int32)), .val (.int (1 : Int32)), .unset]) rfl ?_
          have cut17 : ∀ (T17 : State) (L17 : List Loc), Stand p l e room_1 s m #[.long q1, .int q2] below meth c T17 L17 0 0 → T17.heap = h0 → Fr n0 L17 → Go p e below s room_1.cells room_1.slots (fun v h L => v = some (.int 1) ∧ Fr n0 L) (T17.setTop (mkF m 251 #[.val (.long q1), .second, .val (.int q2), .val (.int (nN q2)), .val (.long (stp q1)), .second, .val (.int (nxtV (0 : Int32) (stp q1))), .val (.long (stp (stp q1))), .second, .val (.int (ref2 (nxtV (0 : Int32) (stp q1)))), .val (.int (ref3 (nxtV (0 : Int32) (stp q1)) (nxtV (1 : Int32) (stp (stp q1))))), .val (.int (bucketV q1 (1 : Int32))), .val (.int (bucketV q1 (2 : Int32))), .val (.int (bucketV q1 (3 : Int32))), .val (.int (bucketV q1 (nN q2))), .val (.int (bucketV q1 ((nN q2) + (1 : Int32)))), .val (.int (1 : Int32)), .val (.int (1 : Int32)), .val (.int (1 : Int32)), .unset] [.int (1 : Int32)])) := by
            intro T17 L17 X17 e17 N17
            refine g_istore X17 hx hby at_251 (pc' := 253) rfl (l' := #[.val (.long q1), .second, .val (.int q2), .val (.int (nN q2)), .val (.long (stp q1)), .second, .val (.int (nxtV (0 : Int32) (stp q1))), .val (.long (stp (stp q1))), .second, .val (.int (ref2 (nxtV (0 : Int32) (stp q1)))), .val (.int (ref3 (nxtV (0 : Int32) (stp q1)) (nxtV (1 : Int32) (stp (stp q1))))), .val (.int (bucketV q1 (1 : Int32))), .val (.int (bucketV q1 (2 : Int32))), .val (.int (bucketV q1 (3 : Int32))), .val (.int (bucketV q1 (nN q2))), .val (.int (bucketV q1 ((nN q2) + (1 : Int32)))), .val (.int (1 : Int32)), .val (.int (1 : Int32)), .val (.int (1 : Int32)), .val (.int (1 : Int32))]) rfl ?_
            refine g_iload X17 hx hby at_253 (pc' := 255) rfl rfl ?_
            refine g_if_ne X17 hx hby at_255 (by decide) (pc' := 296) (by decide) (pn := 258) rfl (fun z => absurd z (fun z => z (own_L1 q1))) (fun hc255_18 => ?_)
            refine g_iload X17 hx hby at_258 (pc' := 260) rfl rfl ?_
            refine g_iload X17 hx hby at_260 (pc' := 262) rfl rfl ?_
            refine g_icmp_ne X17 hx hby at_262 (by decide) (pc' := 296) (by decide) (pn := 265) rfl (fun z => absurd z (fun z => z (own_L2 q1))) (fun hc262_19 => ?_)
            refine g_iload X17 hx hby at_265 (pc' := 267) rfl rfl ?_
            refine g_iload X17 hx hby at_267 (pc' := 269) rfl rfl ?_
            refine g_icmp_ne X17 hx hby at_269 (by decide) (pc' := 296) (by decide) (pn := 272) rfl (fun z => absurd z (fun z => z (own_L3 q1))) (fun hc269_20 => ?_)
            refine g_iload X17 hx hby at_272 (pc' := 274) rfl rfl ?_
            refine g_if_eq X17 hx hby at_274 (by decide) (pc' := 296) (by decide) (pn := 277) rfl (fun z => absurd z (by decide)) (fun _ => ?_)
            refine g_iload X17 hx hby at_277 (pc' := 279) rfl rfl ?_
            refine g_if_eq X17 hx hby at_279 (by decide) (pc' := 296) (by decide) (pn := 282) rfl (fun z => absurd z (by decide)) (fun _ => ?_)
            refine g_iload X17 hx hby at_282 (pc' := 284) rfl rfl ?_
            refine g_if_eq X17 hx hby at_284 (by decide) (pc' := 296) (by decide) (pn := 287) rfl (fun z => absurd z (by decide)) (fun _ => ?_)
            refine g_iload X17 hx hby at_287 (pc' := 289) rfl rfl ?_
            refine g_if_eq X17 hx hby at_289 (by decide) (pc' := 296) (by decide) (pn := 292) rfl (fun z => absurd z (by decide)) (fun _ => ?_)
            refine g_iconst X17 hx hby at_292 (pc' := 293) rfl (z := (1 : Int32)) rfl ?_
            refine g_goto X17 hx hby at_293 (by decide) (pc' := 297) (by decide) ?_
            exact g_retN (Q := (fun v h L => v = some (.int 1) ∧ Fr n0 L)) (w := (1 : Int32)) X17 hx hby at_297 hret (by simp) (by first | decide | rfl) hlk (by decide) (by decide) ⟨rfl, N17⟩
          refine g_iload X16 hx hby at_214 (pc' := 216) rfl rfl ?_
          refine g_iconst X16 hx hby at_216 (pc' := 217) rfl (z := (1 : Int32)) rfl ?_
          refine g_icmp_lt X16 hx hby at_217 (by decide) (pc' := 241) (by decide) (pn := 220) rfl (fun hc217_21 => ?_) (fun hc217_21 => ?_)
          · refine g_iload X16 hx hby at_241 (pc' := 243) rfl rfl ?_
            refine g_if_ne X16 hx hby at_243 (by decide) (pc' := 250) (by decide) (pn := 246) rfl (fun z => absurd z (fun z => z (own_a9 q1 q2 (Or.inl hc217_21)))) (fun hc243_22 => ?_)
            refine g_iconst X16 hx hby at_246 (pc' := 247) rfl (z := (1 : Int32)) rfl ?_
            refine g_goto X16 hx hby at_247 (by decide) (pc' := 251) (by decide) ?_
            exact (cut17 _ _ X16 e16 N16)
          · refine g_iload X16 hx hby at_220 (pc' := 222) rfl rfl ?_
            refine g_iloadN X16 hx hby at_222 (pc' := 223) rfl rfl ?_
            refine g_icmp_gt X16 hx hby at_223 (by decide) (pc' := 241) (by decide) (pn := 226) rfl (fun hc223_23 => ?_) (fun hc223_23 => ?_)
            · refine g_iload X16 hx hby at_241 (pc' := 243) rfl rfl ?_
              refine g_if_ne X16 hx hby at_243 (by decide) (pc' := 250) (by decide) (pn := 246) rfl (fun z => absurd z (fun z => z (own_a9 q1 q2 (Or.inr hc223_23)))) (fun hc243_24 => ?_)
              refine g_iconst X16 hx hby at_246 (pc' := 247) rfl (z := (1 : Int32)) rfl ?_
              refine g_goto X16 hx hby at_247 (by decide) (pc' := 251) (by decide) ?_
              exact (cut17 _ _ X16 e16 N16)
            · refine g_iload X16 hx hby at_226 (pc' := 228) rfl rfl ?_
              refine g_iload X16 hx hby at_228 (pc' := 230) rfl rfl ?_
              refine g_icmp_lt X16 hx hby at_230 (by decide) (pc' := 237) (by decide) (pn := 233) rfl (fun z => absurd z (own_a8 q1 q2 hc217_21 hc223_23)) (fun hc230_25 => ?_)
              refine g_iconst X16 hx hby at_233 (pc' := 234) rfl (z := (1 : Int32)) rfl ?_
              refine g_goto X16 hx hby at_234 (by decide) (pc' := 251) (by decide) ?_
              exact (cut17 _ _ X16 e16 N16)
        refine g_iload X15 hx hby at_175 (pc' := 177) rfl rfl ?_
        refine g_iconst X15 hx hby at_177 (pc' := 178) rfl (z := (1 : Int32)) rfl ?_
        refine g_icmp_lt X15 hx hby at_178 (by decide) (pc' := 202) (by decide) (pn := 181) rfl (fun hc178_26 => ?_) (fun hc178_26 => ?_)
        · refine g_iload X15 hx hby at_202 (pc' := 204) rfl rfl ?_
          refine g_if_ne X15 hx hby at_204 (by decide) (pc' := 211) (by decide) (pn := 207) rfl (fun z => absurd z (fun z => z (own_a7 q1 q2 (Or.inl hc178_26)))) (fun hc204_27 => ?_)
          refine g_iconst X15 hx hby at_207 (pc' := 208) rfl (z := (1 : Int32)) rfl ?_
          refine g_goto X15 hx hby at_208 (by decide) (pc' := 212) (by decide) ?_
          exact (cut16 _ _ X15 e15 N15)
        · refine g_iload X15 hx hby at_181 (pc' := 183) rfl rfl ?_
          refine g_iloadN X15 hx hby at_183 (pc' := 184) rfl rfl ?_
          refine g_icmp_ge X15 hx hby at_184 (by decide) (pc' := 202) (by decide) (pn := 187) rfl (fun hc184_28 => ?_) (fun hc184_28 => ?_)
          · refine g_iload X15 hx hby at_202 (pc' := 204) rfl rfl ?_
            refine g_if_ne X15 hx hby at_204 (by decide) (pc' := 211) (by decide) (pn := 207) rfl (fun z => absurd z (fun z => z (own_a7 q1 q2 (Or.inr hc184_28)))) (fun hc204_29 => ?_)
            refine g_iconst X15 hx hby at_207 (pc' := 208) rfl (z := (1 : Int32)) rfl ?_
            refine g_goto X15 hx hby at_208 (by decide) (pc' := 212) (by decide) ?_
            exact (cut16 _ _ X15 e15 N15)
          · refine g_iload X15 hx hby at_187 (pc' := 189) rfl rfl ?_
            refine g_iload X15 hx hby at_189 (pc' := 191) rfl rfl ?_
            refine g_icmp_lt X15 hx hby at_191 (by decide) (pc' := 198) (by decide) (pn := 194) rfl (fun z => absurd z (own_a6 q1 q2 hc178_26 hc184_28)) (fun hc191_30 => ?_)
            refine g_iconst X15 hx hby at_194 (pc' := 195) rfl (z := (1 : Int32)) rfl ?_
            refine g_goto X15 hx hby at_195 (by decide) (pc' := 212) (by decide) ?_
            exact (cut16 _ _ X15 e15 N15)
      refine g_iload X10 hx hby at_155 (pc' := 157) rfl rfl ?_
      refine g_iload X10 hx hby at_157 (pc' := 159) rfl rfl ?_
      refine g_icmp_eq X10 hx hby at_159 (by decide) (pc' := 168) (by decide) (pn := 162) rfl (fun hc159_31 => ?_) (fun hc159_31 => ?_)
      · exact (cut15 _ _ X10 e10 N10)
      · refine g_iload X10 hx hby at_162 (pc' := 164) rfl rfl ?_
        refine g_iloadN X10 hx hby at_164 (pc' := 165) rfl rfl ?_
        refine g_icmp_ne X10 hx hby at_165 (by decide) (pc' := 172) (by decide) (pn := 168) rfl (fun z => absurd z (fun z => z ((own_a5 q1 q2).resolve_left hc159_31))) (fun hc165_32 => ?_)
        exact (cut15 _ _ X10 e10 N10)
    refine g_iload X4 hx hby at_44 (pc' := 46) rfl rfl ?_
    refine g_iconst X4 hx hby at_46 (pc' := 47) rfl (z := (1 : Int32)) rfl ?_
    refine g_icmp_ne X4 hx hby at_47 (by decide) (pc' := 70) (by decide) (pn := 50) rfl (fun hc47_33 => ?_) (fun hc47_33 => ?_)
    · refine g_iload X4 hx hby at_70 (pc' := 72) rfl rfl ?_
      refine g_iconst X4 hx hby at_72 (pc' := 73) rfl (z := (2 : Int32)) rfl ?_
      refine g_icmp_ne X4 hx hby at_73 (by decide) (pc' := 82) (by decide) (pn := 76) rfl (fun hc73_34 => ?_) (fun hc73_34 => ?_)
      · refine g_iconst X4 hx hby at_82 (pc' := 83) rfl (z := (0 : Int32)) rfl ?_
        refine g_eqI (b := (ref3 (nxtV (0 : Int32) (stp q1)) (nxtV (1 : Int32) (stp (stp q1))))) (show (0 : Int32) = (ref3 (nxtV (0 : Int32) (stp q1)) (nxtV (1 : Int32) (stp (stp q1)))) from by unfold ref3; rw [if_neg hc47_33, if_neg hc73_34]) ?_
        refine g_istore X4 hx hby at_83 (pc' := 85) rfl (l' := #[.val (.long q1), .second, .val (.int q2), .val (.int (nN q2)), .val (.long (stp q1)), .second, .val (.int (nxtV (0 : Int32) (stp q1))), .val (.long (stp (stp q1))), .second, .val (.int (ref2 (nxtV (0 : Int32) (stp q1)))), .val (.int (ref3 (nxtV (0 : Int32) (stp q1)) (nxtV (1 : Int32) (stp (stp q1))))), .unset, .unset, .unset, .unset, .unset, .unset, .unset, .unset, .unset]) rfl ?_
        exact (cut5 _ _ X4 e4 N4)
      · refine g_iconst X4 hx hby at_76 (pc' := 77) rfl (z := (2 : Int32)) rfl ?_
        refine g_eqI (b := (ref3 (nxtV (0 : Int32) (stp q1)) (nxtV (1 : Int32) (stp (stp q1))))) (show (2 : Int32) = (ref3 (nxtV (0 : Int32) (stp q1)) (nxtV (1 : Int32) (stp (stp q1)))) from by unfold ref3; rw [if_neg hc47_33, if_pos hc73_34]) ?_
        refine g_istore X4 hx hby at_77 (pc' := 79) rfl (l' := #[.val (.long q1), .second, .val (.int q2), .val (.int (nN q2)), .val (.long (stp q1)), .second, .val (.int (nxtV (0 : Int32) (stp q1))), .val (.long (stp (stp q1))), .second, .val (.int (ref2 (nxtV (0 : Int32) (stp q1)))), .val (.int (ref3 (nxtV (0 : Int32) (stp q1)) (nxtV (1 : Int32) (stp (stp q1))))), .unset, .unset, .unset, .unset, .unset, .unset, .unset, .unset, .unset]) rfl ?_
        refine g_goto X4 hx hby at_79 (by decide) (pc' := 85) (by decide) ?_
        exact (cut5 _ _ X4 e4 N4)
    · refine g_iconst X4 hx hby at_50 (pc' := 51) rfl (z := (1 : Int32)) rfl ?_
      refine g_lload X4 hx hby at_51 (pc' := 53) rfl rfl ?_
      refine g_callS X4 hx hZ hown (W := 0) (argsL := [.int (1 : Int32), .long (stp (stp q1))]) (rest := []) hby at_53 (pc' := 56) rfl (by rw [hml]; rfl) (w_7 hw) (w_8 hw) (w_4 hw) (w_9 hw) (by decide) (rm2 l Z a0 hw [] (1 : Int32) (stp (stp q1)) h0 n0) e4 (by decide) (by decide) (by decide) (by decide) rfl pd__28IJ_29I rfl rfl (Nat.le_of_eq rfl) ?_
      rintro _ T35 L35 X35 ⟨rfl, N35q, e35⟩
      have N35 := Fr.app N4 N35q
      show GoE p e below _ (T35.setTop (mkF m 56 #[.val (.long q1), .second, .val (.int q2), .val (.int (nN q2)), .val (.long (stp q1)), .second, .val (.int (nxtV (0 : Int32) (stp q1))), .val (.long (stp (stp q1))), .second, .val (.int (ref2 (nxtV (0 : Int32) (stp q1)))), .unset, .unset, .unset, .unset, .unset, .unset, .unset, .unset, .unset, .unset] [.int (nxtV (1 : Int32) (stp (stp q1)))]))
      refine g_iconst X35 hx hby at_56 (pc' := 57) rfl (z := (2 : Int32)) rfl ?_
      refine g_icmp_ne X35 hx hby at_57 (by decide) (pc' := 64) (by decide) (pn := 60) rfl (fun hc57_36 => ?_) (fun hc57_36 => ?_)
      · refine g_iconst X35 hx hby at_64 (pc' := 65) rfl (z := (1 : Int32)) rfl ?_
        refine g_eqI (b := (ref3 (nxtV (0 : Int32) (stp q1)) (nxtV (1 : Int32) (stp (stp q1))))) (show (1 : Int32) = (ref3 (nxtV (0 : Int32) (stp q1)) (nxtV (1 : Int32) (stp (stp q1)))) from by unfold ref3; rw [if_pos hc47_33, if_neg hc57_36]) ?_
        refine g_istore X35 hx hby at_65 (pc' := 67) rfl (l' := #[.val (.long q1), .second, .val (.int q2), .val (.int (nN q2)), .val (.long (stp q1)), .second, .val (.int (nxtV (0 : Int32) (stp q1))), .val (.long (stp (stp q1))), .second, .val (.int (ref2 (nxtV (0 : Int32) (stp q1)))), .val (.int (ref3 (nxtV (0 : Int32) (stp q1)) (nxtV (1 : Int32) (stp (stp q1))))), .unset, .unset, .unset, .unset, .unset, .unset, .unset, .unset, .unset]) rfl ?_
        refine g_goto X35 hx hby at_67 (by decide) (pc' := 85) (by decide) ?_
        exact (cut5 _ _ X35 e35 N35)
      · refine g_iconst X35 hx hby at_60 (pc' := 61) rfl (z := (2 : Int32)) rfl ?_
        refine g_goto X35 hx hby at_61 (by decide) (pc' := 65) (by decide) ?_
        refine g_eqI (b := (ref3 (nxtV (0 : Int32) (stp q1)) (nxtV (1 : Int32) (stp (stp q1))))) (show (2 : Int32) = (ref3 (nxtV (0 : Int32) (stp q1)) (nxtV (1 : Int32) (stp (stp q1)))) from by unfold ref3; rw [if_pos hc47_33, if_pos hc57_36]) ?_
        refine g_istore X35 hx hby at_65 (pc' := 67) rfl (l' := #[.val (.long q1), .second, .val (.int q2), .val (.int (nN q2)), .val (.long (stp q1)), .second, .val (.int (nxtV (0 : Int32) (stp q1))), .val (.long (stp (stp q1))), .second, .val (.int (ref2 (nxtV (0 : Int32) (stp q1)))), .val (.int (ref3 (nxtV (0 : Int32) (stp q1)) (nxtV (1 : Int32) (stp (stp q1))))), .unset, .unset, .unset, .unset, .unset, .unset, .unset, .unset, .unset]) rfl ?_
        refine g_goto X35 hx hby at_67 (by decide) (pc' := 85) (by decide) ?_
        exact (cut5 _ _ X35 e35 N35)
  refine g_iload X3 hx hby at_31 (pc' := 33) rfl rfl ?_
  refine g_iconst X3 hx hby at_33 (pc' := 34) rfl (z := (1 : Int32)) rfl ?_
  refine g_icmp_ne X3 hx hby at_34 (by decide) (pc' := 41) (by decide) (pn := 37) rfl (fun hc34_37 => ?_) (fun hc34_37 => ?_)
  · refine g_iconst X3 hx hby at_41 (pc' := 42) rfl (z := (0 : Int32)) rfl ?_
    exact g_eqI (b := ref2 (nxtV (0 : Int32) (stp q1))) (show (0 : Int32) = ref2 (nxtV (0 : Int32) (stp q1)) from (if_neg hc34_37).symm) (cut4 _ _ X3 e3 N3)
  · refine g_iconst X3 hx hby at_37 (pc' := 38) rfl (z := (1 : Int32)) rfl ?_
    refine g_goto X3 hx hby at_38 (by decide) (pc' := 42) (by decide) ?_
    exact g_eqI (b := ref2 (nxtV (0 : Int32) (stp q1))) (show (1 : Int32) = ref2 (nxtV (0 : Int32) (stp q1)) from (if_pos hc34_37).symm) (cut4 _ _ X3 e3 N3)
set_option maxRecDepth 65536 in
set_option maxHeartbeats 40000000 in
theorem comes_1 {Post : Tables → Env → Array Value → State → Outcome → State → Prop} (hpost : ∀ tb e args s v u, (limb_1_1.after args s (.returned v) u = true ∧ limb_1_2.after args s (.returned v) u = true ∧ True) → FrameEnd s (.returned v) u (Jvm.fieldLocs frame_1_writes args s ++ Jvm.arrayLocs frame_1_arrays args s ++ Jvm.staticLocs frame_1_statics s) 0 0 → Post tb e args s (.returned v) u) :
    ArmFor flags0 classFile x code maxLocals ret World_1 tables_1 room_1 Calls_1 rest_1 Pre_1 Post := by
  intro l hfl _ _ p e ha hc hk s m args below hf hA hF happ hP
  obtain ⟨hcalls, hrest, hpre⟩ := hP
  obtain ⟨-, -, -, hnamed, -, -, -, hat⟩ := (Spec.applies_iff hf).mp happ
  obtain ⟨hg, hn⟩ := and_e (Cond.before_iff.mp (show (Jvm.Cond.and given_1 narrow_1).before args s = true from hpre))
  obtain ⟨h1, g0⟩ := and_e hg
  obtain ⟨a0, g1⟩ := and_e g0
  have a1 := g1
  obtain ⟨u0, u1, rfl⟩ : ∃ u0 u1 : Value, args = #[u0, u1] := by
    have hs : args.size = 2 := by simpa [Cond.value, given_1] using h1
    obtain ⟨L⟩ := args
    match L, hs with
    | [u0, u1], _ => exact ⟨u0, u1, rfl⟩
  have hw := fun d (hd : d ∈ tables_1) => atoms_spec (ws := Jvm.Cond.code x code maxLocals ret :: tables_1) hat d (List.mem_cons_of_mem _ hd)
  have hfit : Fit s := fun {y c} hc i hi => by
    obtain ⟨ha, rfl⟩ := Array.getElem?_eq_some_iff.mp hc
    have q := List.all_eq_true.mp ((Array.all_eq_true_iff_forall_mem.mp hF) _ (Array.getElem_mem ha)) i (List.mem_range.mpr hi)
    simpa [Array.getElem?_eq_getElem hi] using q
  obtain ⟨i0, e0⟩ := isL_v a0
  obtain rfl : u0 = (.long i0) := Option.some.inj e0
  obtain ⟨i1, e1⟩ := is_v a1
  obtain rfl : u1 = (.int i1) := Option.some.inj e1
  obtain ⟨n, o, h1, h2, h3, _, L, rfl, ⟨rfl, N⟩, hq⟩ := rm0 l s _ hw tables_1 i0 i1  s.heap s.heap.size  p e ha hc hk s m _ below hf ((Spec.applies_iff_loose hf).mp happ).1 ⟨rfl, State.Warmed39.refl s, rfl⟩ trivial
  refine ⟨n, _, h1, h2, h3, hpost _ _ _ _ _ _ ⟨Cond.after_iff.mpr rfl, Cond.after_iff.mpr (eq_i res_at (Term.int_eval (1)) rfl), trivial⟩ ⟨hq.1, hq.2.1, (hq.2.2.sift fun y hy => Or.inr (N y hy)).mono (by decide) (by decide)⟩⟩
theorem main_1_1 : Claimed_1_1 := comes_1 fun _ _ _ _ _ _ h hF => ⟨h.1, hF⟩
theorem main_1_2 : Claimed_1_2 := comes_1 fun _ _ _ _ _ _ h hF => ⟨h.2.1, hF⟩
end Jvm.Pilot.@@N@@
namespace Jvm.Pilot.@@N@@
open Jvm Jvm.ClassFile Sem Op Lib Jvm.Free Jvm.Stand Jvm.Pilot.@@N@@.Jvm.D
/-! MADE BY PROGRAM (witnessworld.py) out of the Statement's table words and the real class files: 12 classes; the members and pool entries that the words name. The judged class is class 1, her method 3. -/
namespace start1
open Jvm.ClassFile
def u (s : String) : CpInfo := .utf8 (stringToUtf16 s)
/-- a pool by its gaps: so many unusable entries, then the entry; so many at the end -/
def gap : Nat → List CpInfo → List CpInfo
  | 0, r => r
  | n + 1, r => .unusable :: gap n r
def poolList (es : List (Nat × CpInfo)) (last : Nat) : List CpInfo := es.foldr (fun e r => gap e.1 (e.2 :: r)) (gap last [])
def pool (es : List (Nat × CpInfo)) (last : Nat) : Array CpInfo := ⟨poolList es last⟩
def fileOf (pool : Array CpInfo) (this : Nat) (attrs : Array Attribute := #[]) (ms : Array MethodInfo := #[]) (fl : Nat := 33) (sup : Nat := 0) (ifs : Array Nat := #[]) (fds : Array FieldInfo := #[]) : ClassFile where
  minorVersion := 0
  majorVersion := 65
  constantPool := pool
  accessFlags := fl
  thisClass := this
  superClass := sup
  interfaces := ifs
  fields := fds
  methods := ms
  attributes := attrs
def plain (name : String) (sup : Option ClassId) : Class where
  name := name
  kind := .ordinary
  loader := none
  accessFlags := 33
  super := sup
  interfaces := #[]
  cf := none
  fields := #[]
  methods := #[]
  instanceTypes := #[]
  staticTypes := #[]
  resolved := #[]
  callSites := []
  init := .initialized
  statics := none
  mirror := none

def pool0 : Array CpInfo := pool [(5, u "<init>"), (0, u "()V"), (1, .class_ 10), (1, u "java/lang/Object")] 113

def k0m0 : Method := { name := "<init>", desc := "()V", sig := { parameters := [], returnType := none }, accessFlags := 1, code := none }
/-- java/lang/Object -/
def k0 : Class := { plain "java/lang/Object" none with
  accessFlags := 33
  interfaces := #[]
  cf := some (fileOf pool0 8 #[] #[{ accessFlags := 1, nameIndex := 5, descriptorIndex := 6, attributes := #[] }] 33 0 #[] #[])
  fields := #[]
  methods := #[k0m0]
  instanceTypes := #[]
  staticTypes := #[]
  resolved := Array.replicate 124 none
  statics := none }

def pool1 : Array CpInfo := pool [(2, .class_ 4), (1, u "java/lang/Object"), (0, u "<init>"), (0, u "()V"), (0, .long 2862933555777941757), (1, .long 2147483647), (1, .methodref 12 13), (0, .class_ 14), (0, .nameAndType 15 16), (0, u "java/lang/Math"), (0, u "min"), (0, u "(JJ)J"), (0, .integer 2147483647), (0, .integer 2147483646), (0, .methodref 20 21), (0, .class_ 22), (0, .nameAndType 23 24), (0, u "com/example/astilla/astilla/JumpPlacementBucketPinLaw"), (0, u "step"), (0, u "(J)J"), (0, .methodref 20 26), (0, .nameAndType 27 28), (0, u "nxt"), (0, u "(IJ)I"), (0, .methodref 30 31), (0, .class_ 32), (0, .nameAndType 33 34), (0, u "com/example/astilla/astilla/JumpPlacement"), (0, u "bucket"), (0, u "(JI)I"), (3, u "law"), (0, u "(JI)Z")] 2

def k1m0 : Method := { name := "<init>", desc := "()V", sig := { parameters := [], returnType := none }, accessFlags := 1, code := none }
def k1c1 : Code := { maxStack := 4, maxLocals := 2, code := method_2_code, exceptionTable := #[], attributes := #[] }
def k1m1 : Method := { name := "step", desc := "(J)J", sig := { parameters := [.long], returnType := some .long }, accessFlags := 10, code := some k1c1 }
def k1c2 : Code := { maxStack := 4, maxLocals := 6, code := method_3_code, exceptionTable := #[], attributes := #[] }
def k1m2 : Method := { name := "nxt", desc := "(IJ)I", sig := { parameters := [.int, .long], returnType := some .int }, accessFlags := 10, code := some k1c2 }
def k1c3 : Code := { maxStack := 4, maxLocals := 20, code := code, exceptionTable := #[], attributes := #[] }
def k1m3 : Method := { name := "law", desc := "(JI)Z", sig := { parameters := [.long, .int], returnType := some .boolean }, accessFlags := 9, code := some k1c3 }
/-- com/example/astilla/astilla/JumpPlacementBucketPinLaw -/
def k1 : Class := { plain "com/example/astilla/astilla/JumpPlacementBucketPinLaw" (some 0) with
  accessFlags := 49
  interfaces := #[]
  cf := some (fileOf pool1 20 #[] #[{ accessFlags := 1, nameIndex := 5, descriptorIndex := 6, attributes := #[] }, { accessFlags := 10, nameIndex := 23, descriptorIndex := 24, attributes := #[] }, { accessFlags := 10, nameIndex := 27, descriptorIndex := 28, attributes := #[] }, { accessFlags := 9, nameIndex := 38, descriptorIndex := 39, attributes := #[] }] 49 2 #[] #[])
  fields := #[]
  methods := #[k1m0, k1m1, k1m2, k1m3]
  instanceTypes := #[]
  staticTypes := #[]
  resolved := Array.replicate 42 none
  statics := none }

def pool2 : Array CpInfo := pool [(1, .class_ 2), (0, u "java/lang/Math"), (1, .class_ 6), (1, u "java/lang/Object"), (0, u "<init>"), (0, u "()V"), (89, .class_ 100), (1, u "java/lang/Math$RandomNumberGeneratorHolder"), (20, u "(JJ)J"), (50, u "negativeZeroFloatBits"), (0, u "J"), (2, u "negativeZeroDoubleBits"), (24, u "min"), (43, u "$assertionsDisabled"), (0, u "Z"), (91, u "twoToTheDoubleScaleDown"), (0, u "D"), (4, u "twoToTheDoubleScaleUp"), (9, u "E"), (3, u "PI"), (2, u "TAU"), (2, u "DEGREES_TO_RADIANS"), (0, u "RADIANS_TO_DEGREES")] 94

def k2m0 : Method := { name := "<init>", desc := "()V", sig := { parameters := [], returnType := none }, accessFlags := 2, code := none }
def k2c1 : Code := { maxStack := 4, maxLocals := 4, code := jdk_29_method_70_code, exceptionTable := #[], attributes := #[] }
def k2m1 : Method := { name := "min", desc := "(JJ)J", sig := { parameters := [.long, .long], returnType := some .long }, accessFlags := 9, code := some k2c1 }
/-- java/lang/Math -/
def k2 : Class := { plain "java/lang/Math" (some 0) with
  accessFlags := 49
  interfaces := #[]
  cf := some (fileOf pool2 1 #[.nestMembers #[98]] #[{ accessFlags := 2, nameIndex := 7, descriptorIndex := 8, attributes := #[] }, { accessFlags := 9, nameIndex := 201, descriptorIndex := 121, attributes := #[] }] 49 4 #[] #[{ accessFlags := 25, nameIndex := 354, descriptorIndex := 339, attributes := #[] }, { accessFlags := 25, nameIndex := 358, descriptorIndex := 339, attributes := #[] }, { accessFlags := 25, nameIndex := 361, descriptorIndex := 339, attributes := #[] }, { accessFlags := 26, nameIndex := 364, descriptorIndex := 339, attributes := #[] }, { accessFlags := 26, nameIndex := 365, descriptorIndex := 339, attributes := #[] }, { accessFlags := 26, nameIndex := 172, descriptorIndex := 173, attributes := #[] }, { accessFlags := 26, nameIndex := 176, descriptorIndex := 173, attributes := #[] }, { accessFlags := 8, nameIndex := 344, descriptorIndex := 339, attributes := #[] }, { accessFlags := 8, nameIndex := 338, descriptorIndex := 339, attributes := #[] }, { accessFlags := 4120, nameIndex := 245, descriptorIndex := 246, attributes := #[] }])
  fields := #[{ name := "E", type := .double, accessFlags := 25, slot := 0, constantValue := 0 }, { name := "PI", type := .double, accessFlags := 25, slot := 1, constantValue := 0 }, { name := "TAU", type := .double, accessFlags := 25, slot := 2, constantValue := 0 }, { name := "DEGREES_TO_RADIANS", type := .double, accessFlags := 26, slot := 3, constantValue := 0 }, { name := "RADIANS_TO_DEGREES", type := .double, accessFlags := 26, slot := 4, constantValue := 0 }, { name := "negativeZeroFloatBits", type := .long, accessFlags := 26, slot := 5, constantValue := 0 }, { name := "negativeZeroDoubleBits", type := .long, accessFlags := 26, slot := 6, constantValue := 0 }, { name := "twoToTheDoubleScaleUp", type := .double, accessFlags := 8, slot := 7, constantValue := 0 }, { name := "twoToTheDoubleScaleDown", type := .double, accessFlags := 8, slot := 8, constantValue := 0 }, { name := "$assertionsDisabled", type := .boolean, accessFlags := 4120, slot := 9, constantValue := 0 }]
  methods := #[k2m0, k2m1]
  instanceTypes := #[]
  staticTypes := #[.double, .double, .double, .double, .double, .long, .long, .double, .double, .boolean]
  resolved := Array.replicate 460 none
  statics := none }

def pool3 : Array CpInfo := pool [(2, .class_ 4), (1, u "com/example/astilla/astilla/Placement"), (27, .class_ 33), (0, u "java/lang/Object")] 11

/-- com/example/astilla/astilla/Placement -/
def k3 : Class := { plain "com/example/astilla/astilla/Placement" (some 0) with
  accessFlags := 1537
  interfaces := #[]
  cf := some (fileOf pool3 2 #[] #[] 1537 32 #[] #[])
  fields := #[]
  methods := #[]
  instanceTypes := #[]
  staticTypes := #[]
  resolved := Array.replicate 45 none
  statics := none }

def pool4 : Array CpInfo := pool [(2, .class_ 4), (1, u "java/lang/Object"), (3, u "nodes"), (9, .class_ 20), (1, u "com/example/astilla/astilla/HashedPlacement"), (0, u "Lcom/example/astilla/astilla/Nodes;"), (1, u "routing"), (4, u "Lcom/example/astilla/astilla/Routing;"), (39, .class_ 69), (0, u "com/example/astilla/astilla/Placement")] 11

/-- com/example/astilla/astilla/HashedPlacement -/
def k4 : Class := { plain "com/example/astilla/astilla/HashedPlacement" (some 0) with
  accessFlags := 1056
  interfaces := #[3]
  cf := some (fileOf pool4 18 #[] #[] 1056 2 #[68] #[{ accessFlags := 18, nameIndex := 8, descriptorIndex := 21, attributes := #[] }, { accessFlags := 18, nameIndex := 23, descriptorIndex := 28, attributes := #[] }])
  fields := #[{ name := "nodes", type := (.object "com/example/astilla/astilla/Nodes"), accessFlags := 18, slot := 0, constantValue := 0 }, { name := "routing", type := (.object "com/example/astilla/astilla/Routing"), accessFlags := 18, slot := 1, constantValue := 0 }]
  methods := #[]
  instanceTypes := #[(.object "com/example/astilla/astilla/Nodes"), (.object "com/example/astilla/astilla/Routing")]
  staticTypes := #[]
  resolved := Array.replicate 81 none
  statics := none }

def pool5 : Array CpInfo := pool [(8, .class_ 10), (1, u "com/example/astilla/astilla/JumpPlacement"), (3, .class_ 15), (0, u "com/example/astilla/astilla/HashedPlacement"), (14, u "count"), (0, u "I"), (2, u "bucket"), (0, u "(JI)I"), (0, .long 2862933555777941757), (1, .double 4746794007248502784), (16, u "MULTIPLIER"), (0, u "J"), (1, u "TWO_TO_THE_31"), (0, u "D")] 9

def k5c0 : Code := { maxStack := 4, maxLocals := 9, code := prog_5_method_4_code, exceptionTable := #[], attributes := #[] }
def k5m0 : Method := { name := "bucket", desc := "(JI)I", sig := { parameters := [.long, .int], returnType := some .int }, accessFlags := 8, code := some k5c0 }
/-- com/example/astilla/astilla/JumpPlacement -/
def k5 : Class := { plain "com/example/astilla/astilla/JumpPlacement" (some 4) with
  accessFlags := 49
  interfaces := #[]
  cf := some (fileOf pool5 8 #[] #[{ accessFlags := 8, nameIndex := 34, descriptorIndex := 35, attributes := #[] }] 49 14 #[] #[{ accessFlags := 26, nameIndex := 55, descriptorIndex := 56, attributes := #[] }, { accessFlags := 26, nameIndex := 58, descriptorIndex := 59, attributes := #[] }, { accessFlags := 18, nameIndex := 30, descriptorIndex := 31, attributes := #[] }])
  fields := #[{ name := "MULTIPLIER", type := .long, accessFlags := 26, slot := 0, constantValue := 0 }, { name := "TWO_TO_THE_31", type := .double, accessFlags := 26, slot := 1, constantValue := 0 }, { name := "count", type := .int, accessFlags := 18, slot := 2, constantValue := 0 }]
  methods := #[k5m0]
  instanceTypes := #[(.object "com/example/astilla/astilla/Nodes"), (.object "com/example/astilla/astilla/Routing"), .int]
  staticTypes := #[.long, .double]
  resolved := Array.replicate 69 none
  statics := none }

def pool6 : Array CpInfo := pool [(1, u "java/lang/Cloneable"), (0, .class_ 1), (0, u "java/lang/Object"), (0, .class_ 3)] 3

/-- java/lang/Cloneable -/
def k6 : Class := { plain "java/lang/Cloneable" (some 0) with
  accessFlags := 1537
  interfaces := #[]
  cf := some (fileOf pool6 2 #[] #[] 1537 4 #[] #[])
  fields := #[]
  methods := #[]
  instanceTypes := #[]
  staticTypes := #[]
  resolved := Array.replicate 8 none
  statics := none }

def pool7 : Array CpInfo := pool [(1, u "java/io/Serializable"), (0, .class_ 1), (0, u "java/lang/Object"), (0, .class_ 3)] 3

/-- java/io/Serializable -/
def k7 : Class := { plain "java/io/Serializable" (some 0) with
  accessFlags := 1537
  interfaces := #[]
  cf := some (fileOf pool7 2 #[] #[] 1537 4 #[] #[])
  fields := #[]
  methods := #[]
  instanceTypes := #[]
  staticTypes := #[]
  resolved := Array.replicate 8 none
  statics := none }

/-- the primitive byte -/
def k8 : Class := { plain "byte" none with kind := .primitive 'B', accessFlags := 0x411 }
/-- [B -/
def k9 : Class := { plain "[B" (some 0) with kind := .array 8 .byte, interfaces := #[6, 7], accessFlags := 1041 }

/-- the primitive int -/
def k10 : Class := { plain "int" none with kind := .primitive 'I', accessFlags := 0x411 }
/-- [I -/
def k11 : Class := { plain "[I" (some 0) with kind := .array 10 .int, interfaces := #[6, 7], accessFlags := 1041 }

def heap : Heap := #[]
def classes : Array Class := #[k0, k1, k2, k3, k4, k5, k6, k7, k8, k9, k10, k11]
def interned : List (Array UInt16 × Addr) := []
def slotsUsed : Nat := 0
def theMethod : MethodId := ⟨1, 3⟩
def args0 : Array Value := #[.long 5, .int 7]
def aboutOver (below : List Frame) : State where
  vm := { classes := classes, interned := interned.toArray }
  heap := heap
  slotsUsed := slotsUsed
  threads := #[{ frames := .invoking theMethod args0 :: below }]
def below0 : List Frame := [.native { method := ⟨0, 0⟩, args := #[] }]
def about1 : State := aboutOver below0
def p0 : Program := .bare "" "" ""
def e0 : Env := launch0.env 0 0 0
theorem w_frames : about1.frames = Frame.invoking theMethod args0 :: below0 := rfl
set_option maxRecDepth 65536 in
theorem w_args : argsFit about1.vm theMethod args0 = true := by decide +kernel
set_option maxRecDepth 65536 in
theorem w_heap : heapFits about1 = true := by decide +kernel
set_option maxRecDepth 65536 in
theorem w_runnable : about1.curStatus? = some .runnable := by decide +kernel
set_option maxRecDepth 65536 in
theorem w_alone : about1.alone = true := by decide +kernel
set_option maxRecDepth 65536 in
theorem w_named : about1.methodNamed? x = some theMethod := by decide +kernel
set_option maxRecDepth 65536 in
theorem w_hears : about1.hears theMethod below0 = true := by decide +kernel
set_option maxRecDepth 65536 in
theorem w_ripe : about1.ripe theMethod args0 below0 = true := by decide +kernel
theorem w_running : about1.status = .running := rfl
set_option maxRecDepth 65536 in
theorem w_room : about1.hasRoom e0.platform room_1 = true :=
  launch0.hasRoom_least _ room_1 (by decide +kernel) (by decide +kernel) (by decide +kernel) (by decide +kernel) (by decide +kernel) (by decide +kernel)
theorem allAtoms_all (ts : List Jvm.Cond) (a : Array Jvm.Value) (st : Jvm.State) : (allAtoms ts).before a st = ts.all (fun c => c.before a st) := by
  induction ts with
  | nil => rfl
  | cons c t ih =>
    show (Jvm.Cond.and c (allAtoms t)).before a st = _
    rw [Jvm.Cond.before_and, ih, List.all_cons]
def words1 : List Jvm.Cond := Jvm.Cond.code x code maxLocals ret :: tables_1
/-- a 'code' word, met by the world's own term for the bytes: nothing is compared byte by byte -/
theorem code_word {y : MethodName} {bytes : ByteArray} {mx : Nat} {rt : Option FieldType} {a : Array Value} {s : State} {m : MethodId} {meth : Method} {c : Code} (h1 : s.methodNamed? y = some m) (h2 : s.vm.method? m = some meth) (h3 : meth.code = some c) (h4 : c.code = bytes)
    (h5 : (c.maxLocals == mx && c.exceptionTable.isEmpty && decide (c.maxStack ≤ mostOperands) && decide (meth.sig.returnType = rt) && !meth.locks && decide (parseMethodDescriptor y.desc = some meth.sig)) = true) : (Jvm.Cond.code y bytes mx rt).before a s = true := by
  simp only [Bool.and_eq_true, beq_iff_eq, Bool.not_eq_true', decide_eq_true_eq] at h5
  obtain ⟨⟨⟨⟨⟨g1, g2⟩, g3⟩, g4⟩, g5⟩, g6⟩ := h5
  simp [Cond.before, Cond.holds, Cond.value, h1, h2, h3, h4, g1, g2, g3, g4, g5, g6]
def isCode : Jvm.Cond → Bool
  | .code _ _ _ _ => true
  | _ => false
theorem all_split {L : List Jvm.Cond} {P : Jvm.Cond → Bool} (h1 : L.all (fun c => isCode c || P c) = true) (h2 : ∀ c ∈ L.filter isCode, P c = true) : L.all P = true := by
  refine List.all_eq_true.mpr fun c hc => ?_
  have h := List.all_eq_true.mp h1 c hc
  rcases Bool.eq_false_or_eq_true (isCode c) with hi | hi
  · exact h2 c (List.mem_filter.mpr ⟨hc, hi⟩)
  · simpa [hi] using h
set_option maxRecDepth 65536 in
theorem w_c0 : (Jvm.Cond.code x code maxLocals ret).before args0 about1 = true := code_word (m := ⟨1, 3⟩) (meth := k1m3) (c := k1c3) (by decide +kernel) rfl rfl rfl (by decide +kernel)
set_option maxRecDepth 65536 in
theorem w_c1 : (Jvm.Cond.code ({ cls := "com/example/astilla/astilla/JumpPlacementBucketPinLaw", name := "step", desc := "(J)J" } : Jvm.MethodName) method_2_code (2 : Nat) (Option.some Jvm.ClassFile.FieldType.long)).before args0 about1 = true := code_word (m := ⟨1, 1⟩) (meth := k1m1) (c := k1c1) (by decide +kernel) rfl rfl rfl (by decide +kernel)
set_option maxRecDepth 65536 in
theorem w_c2 : (Jvm.Cond.code ({ cls := "com/example/astilla/astilla/JumpPlacementBucketPinLaw", name := "nxt", desc := "(IJ)I" } : Jvm.MethodName) method_3_code (6 : Nat) (Option.some Jvm.ClassFile.FieldType.int)).before args0 about1 = true := code_word (m := ⟨1, 2⟩) (meth := k1m2) (c := k1c2) (by decide +kernel) rfl rfl rfl (by decide +kernel)
set_option maxRecDepth 65536 in
theorem w_c3 : (Jvm.Cond.code ({ cls := "java/lang/Math", name := "min", desc := "(JJ)J" } : Jvm.MethodName) jdk_29_method_70_code (4 : Nat) (Option.some Jvm.ClassFile.FieldType.long)).before args0 about1 = true := code_word (m := ⟨2, 1⟩) (meth := k2m1) (c := k2c1) (by decide +kernel) rfl rfl rfl (by decide +kernel)
set_option maxRecDepth 65536 in
theorem w_c4 : (Jvm.Cond.code ({ cls := "com/example/astilla/astilla/JumpPlacement", name := "bucket", desc := "(JI)I" } : Jvm.MethodName) prog_5_method_4_code (9 : Nat) (Option.some Jvm.ClassFile.FieldType.int)).before args0 about1 = true := code_word (m := ⟨5, 0⟩) (meth := k5m0) (c := k5c0) (by decide +kernel) rfl rfl rfl (by decide +kernel)
def codes1 : List Jvm.Cond := [Jvm.Cond.code x code maxLocals ret, Jvm.Cond.code ({ cls := "com/example/astilla/astilla/JumpPlacementBucketPinLaw", name := "step", desc := "(J)J" } : Jvm.MethodName) method_2_code (2 : Nat) (Option.some Jvm.ClassFile.FieldType.long), Jvm.Cond.code ({ cls := "com/example/astilla/astilla/JumpPlacementBucketPinLaw", name := "nxt", desc := "(IJ)I" } : Jvm.MethodName) method_3_code (6 : Nat) (Option.some Jvm.ClassFile.FieldType.int), Jvm.Cond.code ({ cls := "java/lang/Math", name := "min", desc := "(JJ)J" } : Jvm.MethodName) jdk_29_method_70_code (4 : Nat) (Option.some Jvm.ClassFile.FieldType.long), Jvm.Cond.code ({ cls := "com/example/astilla/astilla/JumpPlacement", name := "bucket", desc := "(JI)I" } : Jvm.MethodName) prog_5_method_4_code (9 : Nat) (Option.some Jvm.ClassFile.FieldType.int)]
set_option maxRecDepth 65536 in
theorem codes_eq : words1.filter isCode = codes1 := rfl
theorem w_codes : ∀ c ∈ words1.filter isCode, c.before args0 about1 = true := by
  rw [codes_eq]
  intro c hc
  simp only [codes1, List.mem_cons, List.not_mem_nil, or_false] at hc
  rcases hc with rfl | rfl | rfl | rfl | rfl
  · exact w_c0
  · exact w_c1
  · exact w_c2
  · exact w_c3
  · exact w_c4
set_option maxRecDepth 65536 in
theorem w_t1 : words1.all (fun c => isCode c || c.before args0 about1) = true := by decide +kernel
theorem w_tables : (allAtoms (Jvm.Cond.code x code maxLocals ret :: tables_1)).before args0 about1 = true := by
  rw [allAtoms_all]
  show words1.all (fun c => c.before args0 about1) = true
  refine all_split ?_ w_codes
  rw [w_t1]
set_option maxRecDepth 65536 in
theorem w_case : (Jvm.Cond.and given_1 narrow_1).before args0 about1 = true := by decide +kernel
theorem w_applies : (headSpec (Jvm.Cond.code x code maxLocals ret :: tables_1) room_1).applies x e0.platform about1 = true :=
  (Spec.applies_iff w_frames).mpr ⟨w_running, w_runnable, w_alone, w_named, w_hears, w_ripe, w_room, w_tables⟩
theorem atStart : AtStart classFile x code maxLocals ret World_1 tables_1 room_1 Calls_1 rest_1 Pre_1 launch0 p0 e0 about1 theMethod args0 below0 :=
  ⟨lists_1, trivial, launch0.admits_env _ _ _, launch0.least_env, fairChoices_fair.cas, fairChoices_fair.clock, w_frames, w_args, w_heap, w_applies, trivial, trivial, w_case⟩
end start1
theorem witness_1 : WitnessClaimed_1 := ⟨start1.p0, start1.e0, start1.about1, start1.theMethod, start1.args0, start1.below0, start1.atStart⟩
end Jvm.Pilot.@@N@@
