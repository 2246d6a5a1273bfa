import JvmDerived
import JvmDerived.Pilot.@@N@@Statement
import JvmDerived.Pilot.@@N@@Code
set_option linter.unusedVariables false
set_option linter.unusedSimpArgs false
namespace Jvm.RoadKit
open Sem ClassFile Op Lib Jvm.Stand Jvm.Free Jvm.LawKit
section New
variable {p : Program} {l : Launch} {e : Env} {R : Room} {s : State} {m : MethodId} {args : Array Value} {below : List Frame} {meth : Method} {c : Code} {T : State} {locs : List Loc} {cells slots : Nat}
theorem retI (X : Stand p l e R s m args below meth c T locs cells slots) (hx : p.tables.exec = Jvm.exec) {pc : Nat} {Ls : Array Slot} {z : Int32} {rest : List Value} (hret : meth.sig.returnType = some .int) (hd : decode c.code pc = .ok (.ireturn, 1)) {fs : List Frame}
    (hl : ∀ (f : JFrame) (acts : List Action), f.method = m → f.locked = none → f.entered = [] → (doReturn e (T.setTop f) acts (some (.int z))).1 = T.setFrames fs) : Steps p.tables e below (T.setTop (mkF m pc Ls (.int z :: rest))) (T.setFrames fs) := by
  have hm' : T.vm.method? m = some meth := X.method'
  have hn : narrow .int (.int z) = .int z := rfl
  show Steps p.tables e below (T.setTop { method := m, pc := pc, locals := Ls, stack := _ :: rest, locked := none }) _
  jvm_step X.here [X.here.top, hx, hd, hm', hret, hn]
  first | (intro acts; rw [hl _ acts rfl rfl rfl]) | rw [hl _ _ rfl rfl rfl]
  exact Steps.refl _
end New
end Jvm.RoadKit
namespace Jvm.FP.Core
theorem own_sgn (s t : Bool) (v : Int) : signed (sumSign s t v) v.natAbs = v := by
  unfold sumSign signed
  by_cases h : v = 0
  · subst h; simp
  · by_cases g : v < 0
    · simp [h, g]; omega
    · simp [h, g]; omega
theorem own_units {f : Fmt} {s : Bool} {c : Nat} {q e : Int} (h1 : f.qmin ≤ e) (h2 : e ≤ q) : signed s (inUnits c q e) * ((2 ^ (e - f.qmin).toNat : Nat) : Int) = zval f (.fin s c q) := by
  rw [← signed_mul]
  show signed s (c * 2 ^ (q - e).toNat * 2 ^ (e - f.qmin).toNat) = signed s (c * 2 ^ (q - f.qmin).toNat)
  rw [Nat.mul_assoc, ← Nat.pow_add, show (q - e).toNat + (e - f.qmin).toNat = (q - f.qmin).toNat by omega]
theorem own_sum {f : Fmt} {s t : Bool} {c d : Nat} {q r : Int} (h1 : f.qmin ≤ q) (h2 : f.qmin ≤ r) : ∃ s' c' q', exactSum (.fin s c q) (.fin t d r) = .fin s' c' q' ∧ f.qmin ≤ q' ∧ signed s' (inUnits c' q' f.qmin) = zval f (.fin s c q) + zval f (.fin t d r) := by
  refine ⟨_, _, _, rfl, by omega, ?_⟩
  unfold inUnits
  rw [signed_mul, own_sgn]
  unfold sumUnits
  rw [Int.add_mul, own_units (by omega) (by omega), own_units (by omega) (by omega)]
theorem own_qm {a : UInt64} {s : Bool} {c : Nat} {q : Int} (h : val64 a = .fin s c q) : b64.qmin ≤ q := by
  have := val64_fits a
  rw [h] at this
  exact this.2.1
theorem own_add_nan {a b : UInt64} (fa : DFin a) (fb : DFin b) : val64 (dadd a b) ≠ .nan := by
  obtain ⟨s, c, q, ea⟩ := fa
  obtain ⟨t, d, r, eb⟩ := fb
  rw [val64_dadd, ea, eb]
  intro h
  rw [round_nan] at h
  cases h
theorem own_add_le {a b V : UInt64} (fa : DFin a) (fb : DFin b) (hV : val64 V ≠ .nan) (h : zval b64 (val64 a) + zval b64 (val64 b) ≤ zval b64 (val64 V)) : zval b64 (val64 (dadd a b)) ≤ zval b64 (val64 V) := by
  obtain ⟨s, c, q, ea⟩ := fa
  obtain ⟨t, d, r, eb⟩ := fb
  obtain ⟨s', c', q', e1, e2, e3⟩ := own_sum (f := b64) (s := s) (t := t) (c := c) (d := d) (own_qm ea) (own_qm eb)
  rw [val64_dadd, ea, eb, e1]
  refine zval_round_le good_b64 (val64_fits V) hV (e0 := b64.qmin) (Int.le_refl _) e2 ?_
  rw [e3, Int.sub_self, ← ea, ← eb]
  show _ ≤ _ * ((1 : Nat) : Int)
  rw [show ((1 : Nat) : Int) = 1 from rfl, Int.mul_one]; exact h
theorem own_add_ge {a b V : UInt64} (fa : DFin a) (fb : DFin b) (hV : val64 V ≠ .nan) (h : zval b64 (val64 V) ≤ zval b64 (val64 a) + zval b64 (val64 b)) : zval b64 (val64 V) ≤ zval b64 (val64 (dadd a b)) := by
  obtain ⟨s, c, q, ea⟩ := fa
  obtain ⟨t, d, r, eb⟩ := fb
  obtain ⟨s', c', q', e1, e2, e3⟩ := own_sum (f := b64) (s := s) (t := t) (c := c) (d := d) (own_qm ea) (own_qm eb)
  rw [val64_dadd, ea, eb, e1]
  refine zval_round_ge good_b64 (val64_fits V) hV (e0 := b64.qmin) (Int.le_refl _) e2 ?_
  rw [e3, Int.sub_self, ← ea, ← eb]
  show _ * ((1 : Nat) : Int) ≤ _
  rw [show ((1 : Nat) : Int) = 1 from rfl, Int.mul_one]; exact h
def cC : UInt64 := 4427486594234968593
theorem own_C : val64 cC = .fin false 4951760157141521 (-92) := by decide +kernel
theorem own_q : b64.qmin = -1074 := by decide +kernel
theorem own_prod {t : Bool} {d : Nat} {r : Int} (h : b64.qmin ≤ r) : signed (false != t) (inUnits (4951760157141521 * d) (-92 + r) (-1166)) = 4951760157141521 * zval b64 (.fin t d r) := by
  have e : (false != t) = t := by cases t <;> rfl
  rw [e]
  have z : zval b64 (.fin t d r) = signed t (d * 2 ^ (r - b64.qmin).toNat) := rfl
  rw [z]
  unfold inUnits
  rw [own_q] at h ⊢
  rw [show (-92 + r - -1166).toNat = (r - -1074).toNat by omega, Nat.mul_assoc]
  unfold signed
  cases t <;> simp [Int.mul_neg]
theorem own_mul_nan {b : UInt64} (fb : DFin b) : val64 (dmul cC b) ≠ .nan := by
  obtain ⟨t, d, r, eb⟩ := fb
  rw [val64_dmul, own_C, eb]
  intro h
  rw [round_nan] at h
  cases h
theorem own_92 : ((2 ^ (b64.qmin - -1166).toNat : Nat) : Int) = 4951760157141521099596496896 := by decide +kernel
theorem own_mul_le {b : UInt64} {V : Datum} (fb : DFin b) (fV : fits b64 V) (hV : V ≠ .nan) (h : 4951760157141521 * zval b64 (val64 b) ≤ zval b64 V * 4951760157141521099596496896) : zval b64 (val64 (dmul cC b)) ≤ zval b64 V := by
  obtain ⟨t, d, r, eb⟩ := fb
  have hq := own_qm eb
  rw [val64_dmul, own_C, eb]
  refine zval_round_le good_b64 fV hV (e0 := -1166) (by decide +kernel) (by rw [own_q] at hq; omega) ?_
  rw [own_prod hq, own_92, ← eb]
  exact h
theorem own_mul_ge {b : UInt64} {V : Datum} (fb : DFin b) (fV : fits b64 V) (hV : V ≠ .nan) (h : zval b64 V * 4951760157141521099596496896 ≤ 4951760157141521 * zval b64 (val64 b)) : zval b64 V ≤ zval b64 (val64 (dmul cC b)) := by
  obtain ⟨t, d, r, eb⟩ := fb
  have hq := own_qm eb
  rw [val64_dmul, own_C, eb]
  refine zval_round_ge good_b64 fV hV (e0 := -1166) (by decide +kernel) (by rw [own_q] at hq; omega) ?_
  rw [own_prod hq, own_92, ← eb]
  exact h
theorem own_addD_le {a b : UInt64} {V : Datum} (fa : DFin a) (fb : DFin b) (fV : fits b64 V) (hV : V ≠ .nan) (h : zval b64 (val64 a) + zval b64 (val64 b) ≤ zval b64 V) : zval b64 (val64 (dadd a b)) ≤ zval b64 V := by
  obtain ⟨s, c, q, ea⟩ := fa
  obtain ⟨t, d, r, eb⟩ := fb
  obtain ⟨s', c', q', e1, e2, e3⟩ := own_sum (f := b64) (s := s) (t := t) (c := c) (d := d) (own_qm ea) (own_qm eb)
  rw [val64_dadd, ea, eb, e1]
  refine zval_round_le good_b64 fV hV (e0 := b64.qmin) (Int.le_refl _) e2 ?_
  rw [e3, Int.sub_self, ← ea, ← eb]
  show _ ≤ _ * ((1 : Nat) : Int)
  rw [show ((1 : Nat) : Int) = 1 from rfl, Int.mul_one]; exact h
theorem own_qx : b64.qmax = 971 := by decide +kernel
theorem own_V (k : Nat) (hk : k ≤ 1074) (c : Nat) (hc : c < 9007199254740992) : ∃ V, fits b64 V ∧ V ≠ .nan ∧ zval b64 V * ((2 ^ k : Nat) : Int) = (c : Int) * (one64 : Int) ∧ ∃ s c q, V = .fin s c q := by
  obtain ⟨c', q', e1, e2⟩ := round_exact good_b64 false (c := c) (q := -(k : Int)) hc (by rw [own_q]; omega) (by rw [own_qx]; omega)
  refine ⟨.fin false c' q', e1 ▸ round_fits good_b64 _, (fun h => by cases h), ?_, _, _, _, rfl⟩
  have z : zval b64 (.fin false c' q') = ((inUnits c' q' b64.qmin : Nat) : Int) := rfl
  rw [z, e2]
  unfold inUnits
  rw [own_q]
  have p : 2 ^ (-(k : Int) - -1074).toNat * 2 ^ k = one64 := by
    unfold one64
    rw [← Nat.pow_add]
    congr 1
    omega
  rw [← Int.natCast_mul, Nat.mul_assoc, p, Int.natCast_mul]
theorem own_top {V : Datum} (h : ∃ s c q, V = .fin s c q) (fV : fits b64 V) : zval b64 V < ((b64.tails * 2 ^ (b64.exps - 2) : Nat) : Int) := by
  obtain ⟨s, c, q, rfl⟩ := h
  have h1 : val64 (of64 (.fin s c q)) = .fin s c q := val64_of64 fV
  have h2 := DFin.zval_lt (a := of64 (.fin s c q)) ⟨s, c, q, h1⟩
  rw [h1] at h2
  unfold zval signed
  split <;> omega
theorem own_fin {p : UInt64} {V : Datum} (hn : val64 p ≠ .nan) (h0 : 0 ≤ zval b64 (val64 p)) (fV : fits b64 V) (hV : ∃ s c q, V = .fin s c q) (h : zval b64 (val64 p) ≤ zval b64 V) : DFin p := by
  have t := own_top hV fV
  cases e : val64 p with
  | nan => exact absurd e hn
  | fin s c q => exact ⟨s, c, q, e⟩
  | inf s =>
    rw [e] at h h0
    cases s with
    | false =>
      have z : zval b64 (.inf false) = ((b64.tails * 2 ^ (b64.exps - 2) : Nat) : Int) := rfl
      omega
    | true =>
      have z : zval b64 (.inf true) = -((b64.tails * 2 ^ (b64.exps - 2) : Nat) : Int) := rfl
      have p : 0 < b64.tails * 2 ^ (b64.exps - 2) := Nat.mul_pos (tails_pos b64) (Nat.two_pow_pos _)
      omega
theorem own_dfin {a : Int64} (h : a.toInt.natAbs ≤ 2 ^ 53) : DFin (l2d a) ∧ zval b64 (val64 (l2d a)) = a.toInt * (one64 : Int) := by
  obtain ⟨c, q, e⟩ := l2d_shape a
  exact ⟨⟨_, c, q, e⟩, DInt_zval (l2d_int h)⟩
theorem own_add_near {a b : UInt64} {cV : Nat} {qV : Int} (fa : DFin a) (fb : DFin b) (fr : DFin (dadd a b)) (hc : cV < 2 ^ 53) (hq : b64.qmin ≤ qV) (h0 : 0 ≤ zval b64 (val64 a) + zval b64 (val64 b)) (hr : 0 ≤ zval b64 (val64 (dadd a b))) :
    (zval b64 (val64 a) + zval b64 (val64 b) - zval b64 (val64 (dadd a b))).natAbs ≤ (zval b64 (val64 a) + zval b64 (val64 b) - (inUnits cV qV b64.qmin : Int)).natAbs := by
  obtain ⟨s, c, q, ea⟩ := fa
  obtain ⟨t, d, r, eb⟩ := fb
  obtain ⟨s', c', q', e1, e2, e3⟩ := own_sum (f := b64) (s := s) (t := t) (c := c) (d := d) (own_qm ea) (own_qm eb)
  obtain ⟨u, c2, q2, er⟩ := fr
  have er' := er
  rw [val64_dadd, ea, eb, e1] at er'
  have er2 : roundRatio b64 s' c' 1 q' = .fin u c2 q2 := er'
  have n := roundRatio_nearest good_b64 (by decide) er2 hc hq (e0 := b64.qmin) (Int.le_refl _) e2
  unfold distance at n
  rw [ea, eb] at h0 ⊢
  rw [er] at hr ⊢
  rw [← e3] at h0 ⊢
  have z : zval b64 (.fin u c2 q2) = signed u (inUnits c2 q2 b64.qmin) := rfl
  rw [z] at hr ⊢
  have f1 : signed s' (inUnits c' q' b64.qmin) = ((inUnits c' q' b64.qmin : Nat) : Int) := by
    unfold signed at h0 ⊢
    split at h0 <;> simp_all <;> omega
  have f2 : signed u (inUnits c2 q2 b64.qmin) = ((inUnits c2 q2 b64.qmin : Nat) : Int) := by
    unfold signed at hr ⊢
    split at hr <;> simp_all <;> omega
  rw [f1, f2]
  simpa using n
theorem own_O : 0 < (one64 : Int) := by have := one64_pos; omega
theorem own_pp {y : Int64} {V : Datum} {N D : Int} {K : Int} (hb : y.toInt.natAbs ≤ 2 ^ 53) (fV : fits b64 V) (hV : V ≠ .nan) (hz : zval b64 V * D = N * (one64 : Int)) (hK : D * K = 4951760157141521099596496896) (h : 4951760157141521 * y.toInt ≤ N * K) : zval b64 (val64 (dmul cC (l2d y))) ≤ zval b64 V := by
  obtain ⟨fb, zb⟩ := own_dfin hb
  have e : zval b64 V * 4951760157141521099596496896 = N * K * (one64 : Int) := by rw [← hK, ← Int.mul_assoc, hz, Int.mul_right_comm]
  refine own_mul_le fb fV hV ?_
  rw [zb, ← Int.mul_assoc, e]
  exact Int.mul_le_mul_of_nonneg_right h (Int.le_of_lt own_O)
theorem own_pg {y : Int64} {V : Datum} {N D : Int} {K : Int} (hb : y.toInt.natAbs ≤ 2 ^ 53) (fV : fits b64 V) (hV : V ≠ .nan) (hz : zval b64 V * D = N * (one64 : Int)) (hK : D * K = 4951760157141521099596496896) (h : N * K ≤ 4951760157141521 * y.toInt) : zval b64 V ≤ zval b64 (val64 (dmul cC (l2d y))) := by
  obtain ⟨fb, zb⟩ := own_dfin hb
  have e : zval b64 V * 4951760157141521099596496896 = N * K * (one64 : Int) := by rw [← hK, ← Int.mul_assoc, hz, Int.mul_right_comm]
  refine own_mul_ge fb fV hV ?_
  rw [zb, ← Int.mul_assoc, e]
  exact Int.mul_le_mul_of_nonneg_right h (Int.le_of_lt own_O)
def hiR (y : Int64) : UInt64 := dadd (l2d y) (dmul cC (l2d y))
theorem own_p {y : Int64} (h0 : 0 ≤ y.toInt) (h1 : y.toInt ≤ 9007199254740992) : DFin (dmul cC (l2d y)) ∧ 0 ≤ zval b64 (val64 (dmul cC (l2d y))) := by
  have hb : y.toInt.natAbs ≤ 2 ^ 53 := by have e : (2 : Nat) ^ 53 = 9007199254740992 := by decide
                                          omega
  obtain ⟨V0, f0, n0, z0, g0⟩ := own_V 0 (by decide) 0 (by decide)
  obtain ⟨V9, f9, n9, z9, g9⟩ := own_V 0 (by decide) 9008 (by decide)
  have a := own_pg hb f0 n0 (N := 0) (D := 1) (K := 4951760157141521099596496896) (by simpa using z0) (by decide) (by omega)
  have b := own_pp hb f9 n9 (N := 9008) (D := 1) (K := 4951760157141521099596496896) (by simpa using z9) (by decide) (by omega)
  have z : zval b64 V0 = 0 := by simpa using z0
  rw [z] at a
  exact ⟨own_fin (own_mul_nan (own_dfin hb).1) a f9 g9 b, a⟩
theorem own_base {y : Int64} (h0 : 0 ≤ y.toInt) (h1 : y.toInt ≤ 9007199254740992) : val64 (hiR y) ≠ .nan ∧ y.toInt * (one64 : Int) ≤ zval b64 (val64 (hiR y)) := by
  have hb : y.toInt.natAbs ≤ 2 ^ 53 := by have e : (2 : Nat) ^ 53 = 9007199254740992 := by decide
                                          omega
  obtain ⟨fb, zb⟩ := own_dfin hb
  obtain ⟨fp, p0⟩ := own_p h0 h1
  refine ⟨own_add_nan fb fp, ?_⟩
  rw [← zb]
  exact own_add_ge fb fp (by obtain ⟨s, c, q, e⟩ := fb; rw [e]; intro h; cases h) (by omega)
theorem own_small {y : Int64} (h0 : 0 ≤ y.toInt) (h1 : y.toInt < 2147483648) : zval b64 (val64 (hiR y)) < (y.toInt + 1) * (one64 : Int) := by
  have hb : y.toInt.natAbs ≤ 2 ^ 53 := by have e : (2 : Nat) ^ 53 = 9007199254740992 := by decide
                                          omega
  obtain ⟨fb, zb⟩ := own_dfin hb
  obtain ⟨fp, p0⟩ := own_p h0 (by omega)
  obtain ⟨V4, f4, n4, z4, g4⟩ := own_V 2 (by decide) 1 (by decide)
  have b := own_pp hb f4 n4 (N := 1) (D := 4) (K := 1237940039285380274899124224) (by simpa using z4) (by decide) (by omega)
  obtain ⟨V, f, n, z, g⟩ := own_V 1 (by decide) (2 * y.toInt.toNat + 1) (by omega)
  have O := own_O
  have e4 : zval b64 V4 * 4 = (one64 : Int) := by simpa using z4
  have e : zval b64 V * 2 = (2 * y.toInt + 1) * (one64 : Int) := by
    have c : ((2 * y.toInt.toNat + 1 : Nat) : Int) = 2 * y.toInt + 1 := by omega
    rw [c] at z
    simpa using z
  rw [Int.add_mul, Int.mul_assoc, Int.one_mul] at e
  rw [Int.add_mul, Int.one_mul]
  have r := own_addD_le fb fp f n (by rw [zb]; omega)
  have r' : zval b64 (val64 (hiR y)) ≤ zval b64 V := r
  omega
theorem own_vk {y : Int64} (k : Nat) (h0 : 0 ≤ y.toInt) (h1 : y.toInt + k < 9007199254740992) : ∃ V, fits b64 V ∧ V ≠ .nan ∧ zval b64 V = (y.toInt + k) * (one64 : Int) ∧ ∃ s c q, V = .fin s c q := by
  obtain ⟨V, f, n, z, g⟩ := own_V 0 (by decide) (y.toInt.toNat + k) (by omega)
  refine ⟨V, f, n, ?_, g⟩
  have c : ((y.toInt.toNat + k : Nat) : Int) = y.toInt + k := by omega
  have p0 : ((2 ^ 0 : Nat) : Int) = 1 := rfl
  rw [c, p0, Int.mul_one] at z
  exact z
theorem own_b53 {y : Int64} (h0 : 0 ≤ y.toInt) (h1 : y.toInt ≤ 9007199254740992) : y.toInt.natAbs ≤ 2 ^ 53 := by
  have e : (2 : Nat) ^ 53 = 9007199254740992 := by decide
  omega
theorem own_lok {y : Int64} (k : Nat) (h0 : 0 ≤ y.toInt) (h1 : y.toInt + k < 9007199254740992) (hp : (k : Int) * (one64 : Int) ≤ zval b64 (val64 (dmul cC (l2d y)))) : (y.toInt + k) * (one64 : Int) ≤ zval b64 (val64 (hiR y)) := by
  obtain ⟨fb, zb⟩ := own_dfin (own_b53 h0 (by omega))
  obtain ⟨fp, p0⟩ := own_p (y := y) h0 (by omega)
  obtain ⟨V, f, n, z, g⟩ := own_vk (y := y) k h0 h1
  have v : val64 (of64 V) = V := val64_of64 f
  have t := own_add_ge (V := of64 V) fb fp (by rw [v]; exact n) (by rw [v, zb, z, Int.add_mul]; exact Int.add_le_add_left hp _)
  rw [v, z] at t
  exact t
theorem own_hik {y : Int64} (k : Nat) (h0 : 0 ≤ y.toInt) (h1 : y.toInt + k < 9007199254740992) (hp : zval b64 (val64 (dmul cC (l2d y))) ≤ (k : Int) * (one64 : Int)) : zval b64 (val64 (hiR y)) ≤ (y.toInt + k) * (one64 : Int) ∧ DFin (hiR y) := by
  obtain ⟨fb, zb⟩ := own_dfin (own_b53 h0 (by omega))
  obtain ⟨fp, p0⟩ := own_p (y := y) h0 (by omega)
  obtain ⟨nn, rb⟩ := own_base (y := y) h0 (by omega)
  obtain ⟨V, f, n, z, g⟩ := own_vk (y := y) k h0 h1
  have t : zval b64 (val64 (hiR y)) ≤ zval b64 V := own_addD_le fb fp f n (by rw [zb, z, Int.add_mul]; exact Int.add_le_add_left hp _)
  have r0 : 0 ≤ zval b64 (val64 (hiR y)) := Int.le_trans (Int.mul_nonneg h0 (Int.le_of_lt own_O)) rb
  refine ⟨?_, own_fin nn r0 f g t⟩
  rw [z] at t
  exact t
theorem own_iu (c : Nat) : ((inUnits c 0 b64.qmin : Nat) : Int) = (c : Int) * (one64 : Int) := by
  have e0 : inUnits c 0 b64.qmin = c * one64 := by
    have e9 : (0 - b64.qmin).toNat = 1074 := by decide +kernel
    unfold inUnits one64
    rw [e9]
  rw [e0, Int.natCast_mul]
theorem own_neark {y : Int64} (k : Nat) (h0 : 0 ≤ y.toInt) (h1 : y.toInt + k < 9007199254740992) (fr : DFin (hiR y)) : (y.toInt * (one64 : Int) + zval b64 (val64 (dmul cC (l2d y))) - zval b64 (val64 (hiR y))).natAbs ≤ (y.toInt * (one64 : Int) + zval b64 (val64 (dmul cC (l2d y))) - (y.toInt + k) * (one64 : Int)).natAbs := by
  obtain ⟨fb, zb⟩ := own_dfin (own_b53 h0 (by omega))
  obtain ⟨fp, p0⟩ := own_p (y := y) h0 (by omega)
  obtain ⟨nn, rb⟩ := own_base (y := y) h0 (by omega)
  have y0 : 0 ≤ y.toInt * (one64 : Int) := Int.mul_nonneg h0 (Int.le_of_lt own_O)
  have r0 : 0 ≤ zval b64 (val64 (hiR y)) := Int.le_trans y0 rb
  have e : (2 : Nat) ^ 53 = 9007199254740992 := by decide
  have c53 : y.toInt.toNat + k < 2 ^ 53 := by rw [e]; omega
  have nr := own_add_near (cV := y.toInt.toNat + k) (qV := 0) fb fp fr c53 (by decide +kernel) (by rw [zb]; exact Int.add_nonneg y0 p0) r0
  have c : ((y.toInt.toNat + k : Nat) : Int) = y.toInt + k := by omega
  rw [own_iu, zb, c] at nr
  exact nr
theorem own_bigA {Y O P R : Int} (O0 : 0 < O) (pu : 32 * P ≤ 216173 * O) (h : P ≤ 6755 * O → R ≤ (Y + 6755) * O) (n : (Y * O + P - R).natAbs ≤ (Y * O + P - (Y + 6755) * O).natAbs) : R < (Y + 6756) * O := by
  rw [Int.add_mul] at h n ⊢
  generalize Y * O = yo at *
  omega
theorem own_bigQ {va vb pp oo : Int} (ea : va * 2 = 9007 * oo) (eb : vb * 32 = 216173 * oo) (lo : va ≤ pp) (up : pp ≤ vb) : 9007 * oo ≤ 2 * pp ∧ 32 * pp ≤ 216173 * oo := by
  rw [← ea, ← eb]
  clear ea eb
  omega
theorem own_bigP {y : Int64} (h0 : 4503599627370496 ≤ y.toInt) (h1 : y.toInt < 6755399441055744) : 9007 * (one64 : Int) ≤ 2 * zval b64 (val64 (dmul cC (l2d y))) ∧ 32 * zval b64 (val64 (dmul cC (l2d y))) ≤ 216173 * (one64 : Int) := by
  have hb := own_b53 (y := y) (by omega) (by omega)
  have i1 : 9007 * 2475880078570760549798248448 ≤ 4951760157141521 * y.toInt := by omega
  have i2 : 4951760157141521 * y.toInt ≤ 216173 * 154742504910672534362390528 := by omega
  have d1 : (2 : Int) * 2475880078570760549798248448 = 4951760157141521099596496896 := by decide
  have d2 : (32 : Int) * 154742504910672534362390528 = 4951760157141521099596496896 := by decide
  obtain ⟨Va, fa, na, za, ga⟩ := own_V 1 (by decide) 9007 (by decide)
  obtain ⟨Vb, fB, nb, zB, gb⟩ := own_V 5 (by decide) 216173 (by decide)
  have e1 : ((2 ^ 1 : Nat) : Int) = 2 := rfl
  have e5 : ((2 ^ 5 : Nat) : Int) = 32 := rfl
  have e3 : ((9007 : Nat) : Int) = 9007 := rfl
  have e4 : ((216173 : Nat) : Int) = 216173 := rfl
  rw [e1, e3] at za
  rw [e5, e4] at zB
  exact own_bigQ za zB (own_pg hb fa na za d1 i1) (own_pp hb fB nb zB d2 i2)
theorem own_big {y : Int64} (h0 : 4503599627370496 ≤ y.toInt) (h1 : y.toInt < 6755399441055744) : (y.toInt + 4503) * (one64 : Int) ≤ zval b64 (val64 (hiR y)) ∧ zval b64 (val64 (hiR y)) < (y.toInt + 6756) * (one64 : Int) := by
  obtain ⟨pl, pu⟩ := own_bigP h0 h1
  have O := own_O
  constructor
  · refine own_lok (y := y) 4503 (by omega) (by omega) ?_
    show (4503 : Int) * (one64 : Int) ≤ _
    generalize zval b64 (val64 (dmul cC (l2d y))) = pp at *
    generalize (one64 : Int) = oo at *
    omega
  · have t := own_hik (y := y) 6756 (by omega) (by omega) (by
      show _ ≤ (6756 : Int) * (one64 : Int)
      generalize zval b64 (val64 (dmul cC (l2d y))) = pp at *
      generalize (one64 : Int) = oo at *
      omega)
    exact own_bigA O pu (fun q => (own_hik (y := y) 6755 (by omega) (by omega) q).1) (own_neark (y := y) 6755 (by omega) (by omega) t.2)
theorem own_cv (o : Option Ordering) : (0 < Op.cmpValue o .l) ↔ o = some .gt := by
  rcases o with _ | (_ | _ | _) <;> decide
theorem own_cmp {u v : Int64} (hu0 : 0 ≤ u.toInt) (hu1 : u.toInt ≤ 9007199254740992) (hv0 : 0 ≤ v.toInt) (hv1 : v.toInt ≤ 9007199254740992) : (0 < Op.cmpValue (dcmp (l2d u) (hiR v)) .l) ↔ zval b64 (val64 (hiR v)) < u.toInt * (one64 : Int) := by
  obtain ⟨fu, zu⟩ := own_dfin (own_b53 hu0 hu1)
  obtain ⟨nn, rb⟩ := own_base (y := v) hv0 hv1
  rw [own_cv, dcmp_zval fu.ne_nan nn, ← zu, Option.some.injEq, compare_gt_iff]
end Jvm.FP.Core
namespace Jvm.Pilot.@@N@@
open Jvm Jvm.ClassFile Sem Op Lib Jvm.Free Jvm.Stand Jvm.LawKit Jvm.RoadKit Bundle Jvm.Pilot.@@N@@.Jvm.D
open Jvm.Free.XT (ushr ushrL cmpL)
section GoKit
open Jvm.Free.XT (ushr ushrL cmpL)
variable {p : Program} {l : Launch} {e : Env} {R : Room} {s : State} {m : MethodId} {args : Array Value} {below : List Frame} {meth : Method} {c : Code} {T : State} {locs : List Loc} {cells slots : Nat} {Q : Option Value → Heap → List Loc → Prop} {rc rs : Nat} {Fi : Outcome → State → Prop} {bytes : ByteArray} {pc pc' : Nat} {Ls : Array Slot} {rest : List Value}
def GoE (p : Program) (e : Env) (below : List Frame) (Fi : Outcome → State → Prop) (S : State) : Prop :=
  ∃ t o, Steps p.tables e below S t ∧ t.status = .running ∧ Ended t below o ∧ Fi o t
abbrev Go (p : Program) (e : Env) (below : List Frame) (s : State) (rc rs : Nat) (Q : Option Value → Heap → List Loc → Prop) (S : State) : Prop :=
  GoE p e below (fun o t => ∃ v L, o = .returned v ∧ Q v t.heap L ∧ FrameEnd s o t L rc rs) S
theorem GoE.pull {a b : State} (h : GoE p e below Fi b) (f : ∀ t, Steps p.tables e below b t → Steps p.tables e below a t) : GoE p e below Fi a := by
  obtain ⟨t, o, h1, h2⟩ := h
  exact ⟨t, o, f t h1, h2⟩
def Ctr (l : Launch) (Z : State) (y : MethodName) (bytes : ByteArray) (ml : Nat) (ret : Option FieldType) (ws : List Jvm.Cond) (rm : Room) (as : Array Value) (h0 : Heap) (Q : Option Value → Heap → List Loc → Prop) : Prop :=
  MetFree l y (head1 (Jvm.Cond.code y bytes ml ret :: ws) rm) (fun a U => a = as ∧ Z.Warmed39 U.vm ∧ U.heap = h0) (fun _ _ _ _ _ => True) (fun _ U o U' => ∃ v L, o = .returned v ∧ Q v U'.heap L ∧ FrameEnd U o U' L rm.cells rm.slots)
theorem Ctr.enter {Z : State} {y : MethodName} {ml : Nat} {ret : Option FieldType} {ws : List Jvm.Cond} {rm : Room} {as : Array Value} {h0 : Heap} (hpl : plainFor y = true) (hef : ∀ m, entryFrame m as ml = mkF m 0 Ls [])
    (body : ∀ (p : Program) (e : Env) (s : State) (m : MethodId) (below : List Frame) (meth : Method) (c : Code) (T : State), p.tables.exec = Jvm.exec → c.code = bytes → c.maxLocals = ml → s.vm.findClass y.cls = some m.cls → meth.name = y.name → meth.sig.returnType = ret → meth.locks = false → Z.Warmed39 s.vm → s.heap = h0 →
      Stand p l e rm s m as below meth c T [] 0 0 → T.heap = h0 → Go p e below s rm.cells rm.slots Q (T.setTop (mkF m 0 Ls []))) : Ctr l Z y bytes ml ret ws rm as h0 Q := by
  refine MetFree.of_bodySF hpl hisR ?_
  intro p e s m args below meth c s₁ Bd hml0 hP hK
  obtain ⟨rfl, hZ, hh⟩ := hP
  have h := body p e s m below meth c s₁ Bd.exec Bd.bytes hml0 (findClass_of_methodNamed Bd.named) (name_of_methodNamed Bd.named Bd.method).1 Bd.returns (BodyLoose.notSynchronized Bd) hZ hh (Stand.of_body Bd) (by rw [← hh, Bd.state]; rfl)
  exact h.pull fun t k => castTop (hef m) k
theorem g_iload (X : Stand p l e R s m args below meth c T locs cells slots) (hx : p.tables.exec = Jvm.exec) {k : Nat} {v : Int32} (hby : c.code = bytes) (hd : decode bytes pc = .ok (.iload k, 2)) (hp : pc + 2 = pc') (hl : Ls[k]? = some (.val (.int v)))
    (H : GoE p e below Fi (T.setTop (mkF m pc' Ls (.int v :: rest)))) : GoE p e below Fi (T.setTop (mkF m pc Ls rest)) := by
  subst hp; exact H.pull fun t k => Jvm.Free.XS.iload X.here hx rfl (hb hby hd) hl k
theorem g_iloadN (X : Stand p l e R s m args below meth c T locs cells slots) (hx : p.tables.exec = Jvm.exec) {k : Fin 4} {v : Int32} (hby : c.code = bytes) (hd : decode bytes pc = .ok (.iload_n k, 1)) (hp : pc + 1 = pc') (hl : Ls[k.val]? = some (.val (.int v)))
    (H : GoE p e below Fi (T.setTop (mkF m pc' Ls (.int v :: rest)))) : GoE p e below Fi (T.setTop (mkF m pc Ls rest)) := by
  subst hp; exact H.pull fun t k => Jvm.Free.XS.iloadN X.here hx rfl (hb hby hd) hl k
theorem g_istore (X : Stand p l e R s m args below meth c T locs cells slots) (hx : p.tables.exec = Jvm.exec) {k : Nat} {x : Int32} {l' : Array Slot} (hby : c.code = bytes) (hd : decode bytes pc = .ok (.istore k, 2)) (hp : pc + 2 = pc') (hl : storeLocals Ls k (.int x) = some l')
    (H : GoE p e below Fi (T.setTop (mkF m pc' l' rest))) : GoE p e below Fi (T.setTop (mkF m pc Ls (.int x :: rest))) := by
  subst hp; exact H.pull fun t k => Jvm.Free.XS.istore X.here hx rfl (hb hby hd) rfl hl k
theorem g_lload (X : Stand p l e R s m args below meth c T locs cells slots) (hx : p.tables.exec = Jvm.exec) {k : Nat} {v : Int64} (hby : c.code = bytes) (hd : decode bytes pc = .ok (.lload k, 2)) (hp : pc + 2 = pc') (hl : Ls[k]? = some (.val (.long v)))
    (H : GoE p e below Fi (T.setTop (mkF m pc' Ls (.long v :: rest)))) : GoE p e below Fi (T.setTop (mkF m pc Ls rest)) := by
  subst hp; exact H.pull fun t k => Jvm.Free.XT.lload X.here hx rfl (hb hby hd) hl k
theorem g_lloadN (X : Stand p l e R s m args below meth c T locs cells slots) (hx : p.tables.exec = Jvm.exec) {k : Fin 4} {v : Int64} (hby : c.code = bytes) (hd : decode bytes pc = .ok (.lload_n k, 1)) (hp : pc + 1 = pc') (hl : Ls[k.val]? = some (.val (.long v)))
    (H : GoE p e below Fi (T.setTop (mkF m pc' Ls (.long v :: rest)))) : GoE p e below Fi (T.setTop (mkF m pc Ls rest)) := by
  subst hp; exact H.pull fun t k => Jvm.Free.XT.lloadN X.here hx rfl (hb hby hd) hl k
theorem g_lstore (X : Stand p l e R s m args below meth c T locs cells slots) (hx : p.tables.exec = Jvm.exec) {k : Nat} {x : Int64} {l' : Array Slot} (hby : c.code = bytes) (hd : decode bytes pc = .ok (.lstore k, 2)) (hp : pc + 2 = pc') (hl : storeLocals Ls k (.long x) = some l')
    (H : GoE p e below Fi (T.setTop (mkF m pc' l' rest))) : GoE p e below Fi (T.setTop (mkF m pc Ls (.long x :: rest))) := by
  subst hp; exact H.pull fun t k => Jvm.Free.XT.lstore X.here hx rfl (hb hby hd) rfl hl k
theorem g_dload (X : Stand p l e R s m args below meth c T locs cells slots) (hx : p.tables.exec = Jvm.exec) {k : Nat} {v : UInt64} (hby : c.code = bytes) (hd : decode bytes pc = .ok (.dload k, 2)) (hp : pc + 2 = pc') (hl : Ls[k]? = some (.val (.double v)))
    (H : GoE p e below Fi (T.setTop (mkF m pc' Ls (.double v :: rest)))) : GoE p e below Fi (T.setTop (mkF m pc Ls rest)) := by
  subst hp; exact H.pull fun t k => Jvm.Free.XS.dload X.here hx rfl (hb hby hd) hl k
theorem g_dloadN (X : Stand p l e R s m args below meth c T locs cells slots) (hx : p.tables.exec = Jvm.exec) {k : Fin 4} {v : UInt64} (hby : c.code = bytes) (hd : decode bytes pc = .ok (.dload_n k, 1)) (hp : pc + 1 = pc') (hl : Ls[k.val]? = some (.val (.double v)))
    (H : GoE p e below Fi (T.setTop (mkF m pc' Ls (.double v :: rest)))) : GoE p e below Fi (T.setTop (mkF m pc Ls rest)) := by
  subst hp; exact H.pull fun t k => Jvm.Free.XS.dloadN X.here hx rfl (hb hby hd) hl k
theorem g_dstore (X : Stand p l e R s m args below meth c T locs cells slots) (hx : p.tables.exec = Jvm.exec) {k : Nat} {x : UInt64} {l' : Array Slot} (hby : c.code = bytes) (hd : decode bytes pc = .ok (.dstore k, 2)) (hp : pc + 2 = pc') (hl : storeLocals Ls k (.double x) = some l')
    (H : GoE p e below Fi (T.setTop (mkF m pc' l' rest))) : GoE p e below Fi (T.setTop (mkF m pc Ls (.double x :: rest))) := by
  subst hp; exact H.pull fun t k => Jvm.Free.XS.dstore X.here hx rfl (hb hby hd) rfl hl k
theorem g_iconst (X : Stand p l e R s m args below meth c T locs cells slots) (hx : p.tables.exec = Jvm.exec) {i : Int} {z : Int32} (hby : c.code = bytes) (hd : decode bytes pc = .ok (.iconst i, 1)) (hp : pc + 1 = pc') (hz : z = Int32.ofInt i)
    (H : GoE p e below Fi (T.setTop (mkF m pc' Ls (.int z :: rest)))) : GoE p e below Fi (T.setTop (mkF m pc Ls rest)) := by
  subst hp; exact H.pull fun t k => Jvm.Free.XS.iconst X.here hx rfl (hb hby hd) (hz ▸ k)
theorem g_sipush (X : Stand p l e R s m args below meth c T locs cells slots) (hx : p.tables.exec = Jvm.exec) {i : Int} {z : Int32} (hby : c.code = bytes) (hd : decode bytes pc = .ok (.sipush i, 3)) (hp : pc + 3 = pc') (hz : z = (Int16.ofInt i).toInt32)
    (H : GoE p e below Fi (T.setTop (mkF m pc' Ls (.int z :: rest)))) : GoE p e below Fi (T.setTop (mkF m pc Ls rest)) := by
  subst hp; exact H.pull fun t k => Jvm.Free.XS.sipush X.here hx rfl (hb hby hd) (hz ▸ k)
theorem g_ldcI (X : Stand p l e R s m args below meth c T locs cells slots) (hx : p.tables.exec = Jvm.exec) {Z : State} {a0 : Array Value} (hZ : Z.Warmed39 s.vm) {own : String} (hown : s.vm.findClass own = some m.cls) {index : Nat} {v : Int32} (hby : c.code = bytes) (hd : decode bytes pc = .ok (.ldc index, 2)) (hp : pc + 2 = pc') (w : (Jvm.Cond.constant own index v).before a0 Z = true)
    (H : GoE p e below Fi (T.setTop (mkF m pc' Ls (.int v :: rest)))) : GoE p e below Fi (T.setTop (mkF m pc Ls rest)) := by
  subst hp; exact H.pull fun t k => X.ldcInt hx hown (mvT hZ w) (g := mkF m pc Ls rest) rfl (hb hby hd) _ k
theorem g_ldcL (X : Stand p l e R s m args below meth c T locs cells slots) (hx : p.tables.exec = Jvm.exec) {Z : State} {a0 : Array Value} (hZ : Z.Warmed39 s.vm) {own : String} (hown : s.vm.findClass own = some m.cls) {index : Nat} {v : Int64} (hby : c.code = bytes) (hd : decode bytes pc = .ok (.ldc2_w index, 3)) (hp : pc + 3 = pc') (w : (Jvm.Cond.constantLong own index v).before a0 Z = true)
    (H : GoE p e below Fi (T.setTop (mkF m pc' Ls (.long v :: rest)))) : GoE p e below Fi (T.setTop (mkF m pc Ls rest)) := by
  subst hp; exact H.pull fun t k => X.ldc2Long hx hown (mvT hZ w) (g := mkF m pc Ls rest) rfl (hb hby hd) _ k
theorem g_ldcD (X : Stand p l e R s m args below meth c T locs cells slots) (hx : p.tables.exec = Jvm.exec) {Z : State} {a0 : Array Value} (hZ : Z.Warmed39 s.vm) {own : String} (hown : s.vm.findClass own = some m.cls) {index : Nat} {v : UInt64} (hby : c.code = bytes) (hd : decode bytes pc = .ok (.ldc2_w index, 3)) (hp : pc + 3 = pc') (w : (Jvm.Cond.constantDouble own index v).before a0 Z = true)
    (H : GoE p e below Fi (T.setTop (mkF m pc' Ls (.double v :: rest)))) : GoE p e below Fi (T.setTop (mkF m pc Ls rest)) := by
  subst hp; exact H.pull fun t k => X.ldc2DoubleC hx hown (mvT hZ w) (g := mkF m pc Ls rest) rfl (hb hby hd) _ k
theorem g_iand (X : Stand p l e R s m args below meth c T locs cells slots) (hx : p.tables.exec = Jvm.exec) {x y : Int32} (hby : c.code = bytes) (hd : decode bytes pc = .ok (.iand, 1)) (hp : pc + 1 = pc') 
    (H : GoE p e below Fi (T.setTop (mkF m pc' Ls (.int (x &&& y) :: rest)))) : GoE p e below Fi (T.setTop (mkF m pc Ls (.int y :: .int x :: rest))) := by
  subst hp; exact H.pull fun t k => Jvm.Free.XS.iand X.here hx rfl (hb hby hd) rfl k
theorem g_irem (X : Stand p l e R s m args below meth c T locs cells slots) (hx : p.tables.exec = Jvm.exec) {x y : Int32} (hby : c.code = bytes) (hd : decode bytes pc = .ok (.irem, 1)) (hp : pc + 1 = pc') (hy : y ≠ 0)
    (H : GoE p e below Fi (T.setTop (mkF m pc' Ls (.int (x - (x / y) * y) :: rest)))) : GoE p e below Fi (T.setTop (mkF m pc Ls (.int y :: .int x :: rest))) := by
  subst hp; exact H.pull fun t k => Jvm.Free.XS.irem X.here hx rfl (hb hby hd) rfl hy k
theorem g_ladd (X : Stand p l e R s m args below meth c T locs cells slots) (hx : p.tables.exec = Jvm.exec) {x y : Int64} (hby : c.code = bytes) (hd : decode bytes pc = .ok (.ladd, 1)) (hp : pc + 1 = pc') 
    (H : GoE p e below Fi (T.setTop (mkF m pc' Ls (.long (x + y) :: rest)))) : GoE p e below Fi (T.setTop (mkF m pc Ls (.long y :: .long x :: rest))) := by
  subst hp; exact H.pull fun t k => Jvm.Free.XT.ladd X.here hx rfl (hb hby hd) rfl k
theorem g_land (X : Stand p l e R s m args below meth c T locs cells slots) (hx : p.tables.exec = Jvm.exec) {x y : Int64} (hby : c.code = bytes) (hd : decode bytes pc = .ok (.land, 1)) (hp : pc + 1 = pc') 
    (H : GoE p e below Fi (T.setTop (mkF m pc' Ls (.long (x &&& y) :: rest)))) : GoE p e below Fi (T.setTop (mkF m pc Ls (.long y :: .long x :: rest))) := by
  subst hp; exact H.pull fun t k => Jvm.Free.XT.land X.here hx rfl (hb hby hd) rfl k
theorem g_i2l (X : Stand p l e R s m args below meth c T locs cells slots) (hx : p.tables.exec = Jvm.exec) {x : Int32} (hby : c.code = bytes) (hd : decode bytes pc = .ok (.i2l, 1)) (hp : pc + 1 = pc') 
    (H : GoE p e below Fi (T.setTop (mkF m pc' Ls (.long x.toInt64 :: rest)))) : GoE p e below Fi (T.setTop (mkF m pc Ls (.int x :: rest))) := by
  subst hp; exact H.pull fun t k => Jvm.Free.XT.i2l X.here hx rfl (hb hby hd) rfl k
theorem g_i2d (X : Stand p l e R s m args below meth c T locs cells slots) (hx : p.tables.exec = Jvm.exec) {x : Int32} (hby : c.code = bytes) (hd : decode bytes pc = .ok (.i2d, 1)) (hp : pc + 1 = pc') 
    (H : GoE p e below Fi (T.setTop (mkF m pc' Ls (.double (FP.l2d x.toInt64) :: rest)))) : GoE p e below Fi (T.setTop (mkF m pc Ls (.int x :: rest))) := by
  subst hp; exact H.pull fun t k => Jvm.Free.XS.i2dS X.here hx rfl (hb hby hd) rfl (i2d_w x) k
theorem g_l2d (X : Stand p l e R s m args below meth c T locs cells slots) (hx : p.tables.exec = Jvm.exec) {x : Int64} (hby : c.code = bytes) (hd : decode bytes pc = .ok (.l2d, 1)) (hp : pc + 1 = pc') 
    (H : GoE p e below Fi (T.setTop (mkF m pc' Ls (.double (FP.l2d x) :: rest)))) : GoE p e below Fi (T.setTop (mkF m pc Ls (.long x :: rest))) := by
  subst hp; exact H.pull fun t k => Jvm.Free.XS.l2dS X.here hx rfl (hb hby hd) rfl rfl k
theorem g_dcmp (X : Stand p l e R s m args below meth c T locs cells slots) (hx : p.tables.exec = Jvm.exec) {o : CmpOp} {x y : UInt64} {v : Int32} (hby : c.code = bytes) (hd : decode bytes pc = .ok (.dcmp o, 1)) (hp : pc + 1 = pc') (hv : cmpValue (FP.dcmp x y) o = v)
    (H : GoE p e below Fi (T.setTop (mkF m pc' Ls (.int v :: rest)))) : GoE p e below Fi (T.setTop (mkF m pc Ls (.double y :: .double x :: rest))) := by
  subst hp; exact H.pull fun t k => Jvm.Free.XS.dcmpS X.here hx rfl (hb hby hd) rfl hv k
theorem g_dadd (X : Stand p l e R s m args below meth c T locs cells slots) (hx : p.tables.exec = Jvm.exec) {x y : UInt64} (hby : c.code = bytes) (hd : decode bytes pc = .ok (.dadd, 1)) (hp : pc + 1 = pc') (hn : Jvm.Free.Fl.NoNaN64 (FP.dadd x y))
    (H : GoE p e below Fi (T.setTop (mkF m pc' Ls (.double (FP.dadd x y) :: rest)))) : GoE p e below Fi (T.setTop (mkF m pc Ls (.double y :: .double x :: rest))) := by
  subst hp; exact H.pull fun t k => Jvm.Free.XS.daddS X.here hx rfl (hb hby hd) rfl hn rfl k
theorem g_dmul (X : Stand p l e R s m args below meth c T locs cells slots) (hx : p.tables.exec = Jvm.exec) {x y : UInt64} (hby : c.code = bytes) (hd : decode bytes pc = .ok (.dmul, 1)) (hp : pc + 1 = pc') (hn : Jvm.Free.Fl.NoNaN64 (FP.dmul x y))
    (H : GoE p e below Fi (T.setTop (mkF m pc' Ls (.double (FP.dmul x y) :: rest)))) : GoE p e below Fi (T.setTop (mkF m pc Ls (.double y :: .double x :: rest))) := by
  subst hp; exact H.pull fun t k => Jvm.Free.XS.dmulS X.here hx rfl (hb hby hd) rfl hn rfl k
theorem g_goto (X : Stand p l e R s m args below meth c T locs cells slots) (hx : p.tables.exec = Jvm.exec) {o : Int} (hby : c.code = bytes) (hd : decode bytes pc = .ok (.goto o, 3)) (ho : 0 ≤ (pc : Int) + o) (hp : ((pc : Int) + o).toNat = pc')
    (H : GoE p e below Fi (T.setTop (mkF m pc' Ls rest))) : GoE p e below Fi (T.setTop (mkF m pc Ls rest)) :=
  H.pull fun t k => Jvm.Free.XS.goto X.here hx rfl rfl (hb hby hd) ho hp k
theorem g_if_eq (X : Stand p l e R s m args below meth c T locs cells slots) (hx : p.tables.exec = Jvm.exec) {o : Int} {pn : Nat} (hby : c.code = bytes) {x : Int32} (hd : decode bytes pc = .ok (.ifCond .eq o, 3)) (ho : 0 ≤ (pc : Int) + o) (hp : ((pc : Int) + o).toNat = pc') (hn : pc + 3 = pn)
    (HY : x = 0 → GoE p e below Fi (T.setTop (mkF m pc' Ls rest))) (HN : ¬ (x = 0) → GoE p e below Fi (T.setTop (mkF m pn Ls rest))) : GoE p e below Fi (T.setTop (mkF m pc Ls (.int x :: rest))) := by
  subst hn
  by_cases q : x = 0
  · exact (HY q).pull fun t k => Jvm.Free.XS.ifYes X.here hx rfl rfl (hb hby hd) rfl ((if0 _ _).trans (teq q).1) ho hp k
  · have q' : ¬ (x = 0) := by first | exact q | exact Decidable.not_not.mp q
    exact (HN q').pull fun t k => Jvm.Free.XS.ifNo X.here hx rfl (hb hby hd) rfl ((if0 _ _).trans (feq q').1) k
theorem g_icmp_ne (X : Stand p l e R s m args below meth c T locs cells slots) (hx : p.tables.exec = Jvm.exec) {o : Int} {pn : Nat} (hby : c.code = bytes) {x y : Int32} (hd : decode bytes pc = .ok (.if_icmp .ne o, 3)) (ho : 0 ≤ (pc : Int) + o) (hp : ((pc : Int) + o).toNat = pc') (hn : pc + 3 = pn)
    (HY : ¬ (x = y) → GoE p e below Fi (T.setTop (mkF m pc' Ls rest))) (HN : x = y → GoE p e below Fi (T.setTop (mkF m pn Ls rest))) : GoE p e below Fi (T.setTop (mkF m pc Ls (.int y :: .int x :: rest))) := by
  subst hn
  by_cases q : ¬ (x = y)
  · exact (HY q).pull fun t k => Jvm.Free.XS.icmpYes X.here hx rfl rfl (hb hby hd) rfl (feq q).2 ho hp k
  · have q' : x = y := by first | exact q | exact Decidable.not_not.mp q
    exact (HN q').pull fun t k => Jvm.Free.XS.icmpNo X.here hx rfl (hb hby hd) rfl (teq q').2 k
theorem g_if_ne (X : Stand p l e R s m args below meth c T locs cells slots) (hx : p.tables.exec = Jvm.exec) {o : Int} {pn : Nat} (hby : c.code = bytes) {x : Int32} (hd : decode bytes pc = .ok (.ifCond .ne o, 3)) (ho : 0 ≤ (pc : Int) + o) (hp : ((pc : Int) + o).toNat = pc') (hn : pc + 3 = pn)
    (HY : ¬ (x = 0) → GoE p e below Fi (T.setTop (mkF m pc' Ls rest))) (HN : x = 0 → GoE p e below Fi (T.setTop (mkF m pn Ls rest))) : GoE p e below Fi (T.setTop (mkF m pc Ls (.int x :: rest))) := by
  subst hn
  by_cases q : ¬ (x = 0)
  · exact (HY q).pull fun t k => Jvm.Free.XS.ifYes X.here hx rfl rfl (hb hby hd) rfl ((if0 _ _).trans (feq q).2) ho hp k
  · have q' : x = 0 := by first | exact q | exact Decidable.not_not.mp q
    exact (HN q').pull fun t k => Jvm.Free.XS.ifNo X.here hx rfl (hb hby hd) rfl ((if0 _ _).trans (teq q').2) k
theorem g_icmp_le (X : Stand p l e R s m args below meth c T locs cells slots) (hx : p.tables.exec = Jvm.exec) {o : Int} {pn : Nat} (hby : c.code = bytes) {x y : Int32} (hd : decode bytes pc = .ok (.if_icmp .le o, 3)) (ho : 0 ≤ (pc : Int) + o) (hp : ((pc : Int) + o).toNat = pc') (hn : pc + 3 = pn)
    (HY : ¬ (y < x) → GoE p e below Fi (T.setTop (mkF m pc' Ls rest))) (HN : y < x → GoE p e below Fi (T.setTop (mkF m pn Ls rest))) : GoE p e below Fi (T.setTop (mkF m pc Ls (.int y :: .int x :: rest))) := by
  subst hn
  by_cases q : ¬ (y < x)
  · exact (HY q).pull fun t k => Jvm.Free.XS.icmpYes X.here hx rfl rfl (hb hby hd) rfl (flt q).2.2.2 ho hp k
  · have q' : y < x := by first | exact q | exact Decidable.not_not.mp q
    exact (HN q').pull fun t k => Jvm.Free.XS.icmpNo X.here hx rfl (hb hby hd) rfl (tlt q').2.2.2 k
theorem g_if_le (X : Stand p l e R s m args below meth c T locs cells slots) (hx : p.tables.exec = Jvm.exec) {o : Int} {pn : Nat} (hby : c.code = bytes) {x : Int32} (hd : decode bytes pc = .ok (.ifCond .le o, 3)) (ho : 0 ≤ (pc : Int) + o) (hp : ((pc : Int) + o).toNat = pc') (hn : pc + 3 = pn)
    (HY : ¬ (0 < x) → GoE p e below Fi (T.setTop (mkF m pc' Ls rest))) (HN : 0 < x → GoE p e below Fi (T.setTop (mkF m pn Ls rest))) : GoE p e below Fi (T.setTop (mkF m pc Ls (.int x :: rest))) := by
  subst hn
  by_cases q : ¬ (0 < x)
  · exact (HY q).pull fun t k => Jvm.Free.XS.ifYes X.here hx rfl rfl (hb hby hd) rfl ((if0 _ _).trans (flt q).2.2.2) ho hp k
  · have q' : 0 < x := by first | exact q | exact Decidable.not_not.mp q
    exact (HN q').pull fun t k => Jvm.Free.XS.ifNo X.here hx rfl (hb hby hd) rfl ((if0 _ _).trans (tlt q').2.2.2) k
theorem g_retN (X : Stand p l e R s m args below meth c T locs cells slots) (hx : p.tables.exec = Jvm.exec) {z w : Int32} {t : FieldType} (hby : c.code = bytes) (hd : decode bytes pc = .ok (.ireturn, 1)) (hret : meth.sig.returnType = some t) (ht : t = .boolean ∨ t = .byte ∨ t = .char ∨ t = .short) (hnar : nar t z = w) (hlk : meth.locks = false) (hc : cells ≤ rc) (hs : slots ≤ rs) (hQ : Q (some (.int w)) T.heap locs) : Go p e below s rc rs Q (T.setTop (mkF m pc Ls (.int z :: rest))) := by
  subst hnar
  obtain ⟨fs, hr, hrun, hended, hW, hsame⟩ := X.leave (v := some (.int (nar t z))) (fun h => by rw [hret] at h; cases h) hlk
  exact ⟨_, _, retN X hx hret ht (hb hby hd) hr, hrun, hended, _, _, rfl, hQ, ⟨_, rfl⟩, hW, hsame.mono hc hs⟩
theorem g_callS (X : Stand p l e R s m args below meth c T locs cells slots) (hx : p.tables.exec = Jvm.exec) {Z : State} {a0 : Array Value} (hZ : Z.Warmed39 s.vm) {own : String} (hown : s.vm.findClass own = some m.cls) {y : MethodName} {cb : ByteArray} {maxL : Nat} {ret : Option FieldType} {rm : Room} {as' : Array Value} {h : Heap} {Q' : Option Value → Heap → List Loc → Prop} {W : Nat} {index : Nat} {argsL : List Value} (hby : c.code = bytes) (hd : decode bytes pc = .ok (.invokestatic index, 3)) (hp : pc + 3 = pc') (hml : Ls.size = c.maxLocals)
    (w1 : (Jvm.Cond.methodLink own index y).before a0 Z = true) (w2 : (Jvm.Cond.static y).before a0 Z = true) (w3 : (Jvm.Cond.initialized y.cls).before a0 Z = true) (w4 : (Jvm.Cond.code y cb maxL ret).before a0 Z = true) (hy : y.cls ≠ "java/lang/invoke/MethodHandle" ∧ y.cls ≠ "java/lang/invoke/VarHandle")
    (C : Ctr l Z y cb maxL ret [] rm as' h Q') (eT : T.heap = h) (hfr : rm.frames + 1 ≤ R.frames) (hlo : W + (maxL + 11) + rm.locals ≤ R.locals) (hce : cells + rm.cells ≤ R.cells) (hsl : slots + rm.slots ≤ R.slots) {stk : List Value} {psig : MethodDescriptor} (has : argsL.toArray = as') (hpd : parseMethodDescriptor y.desc = some psig) (hlen : argsL.length = psig.parameters.length) (hst : stk = argsL.reverse ++ rest) (hW : 2 * 0 + (rest.map fun v => v.category).sum ≤ W)
    (K : ∀ (v : Option Value) (T' : State) (L : List Loc), Stand p l e R s m args below meth c T' (locs ++ L) (cells + rm.cells) (slots + rm.slots) → Q' v T'.heap L → GoE p e below Fi (T'.setTop (mkF m pc' Ls (v.toList ++ rest)))) : GoE p e below Fi (T.setTop (mkF m pc Ls stk)) := by
  subst hp hst has
  obtain ⟨v, _, ⟨T4, L4, k4, n4⟩, -, X4, ⟨Lc, hQ, l4, y4, z4⟩, st⟩ := Jvm.LawKit.callS X hx (y := y) hown (mvT hZ w1) (mvT hZ w2) (mvT hZ w3) (mvT hZ w4) hy (backOf (W := W) C hZ w4 w3 hfr hlo) (g := mkF m pc Ls (argsL.reverse ++ rest)) rfl hml (argsL := argsL) (rest := rest) (fun sig h => by rw [hpd] at h; cases h; exact hlen) rfl hW (hb hby hd) (fun _ _ => ⟨rfl, eT, hce, hsl⟩)
  dsimp only [Pt.U, Pt.locs, Pt.cells, Pt.slots] at X4 l4 y4 z4 st hQ
  subst l4 y4 z4
  exact (K v T4 Lc X4 hQ).pull st
end GoKit

def isHi (x y : UInt64) : Int32 := if 0 < cmpValue (FP.dcmp x (FP.dadd y (FP.dmul (4427486594234968593 : UInt64) y))) .l then 1 else 0
def bigL (m : Int64) : Int64 := (4503599627370496 : Int64) + (m &&& (2251799813685247 : Int64))
def loL (d : Int32) : Int64 := ((d &&& (2147483647 : Int32)) - ((d &&& (2147483647 : Int32)) / (4504 : Int32)) * (4504 : Int32)).toInt64
def hiL (e : Int32) : Int64 := (6756 : Int64) + (e &&& (16777215 : Int32)).toInt64
theorem own_n1 (y : Int64) : Jvm.Free.Fl.NoNaN64 (FP.dmul (4427486594234968593 : UInt64) (FP.l2d y)) :=
  Jvm.Free.Fl.dmul_out (Jvm.Free.Fl.fin64_core.mpr ⟨_, _, _, FP.Core.own_C⟩) (Jvm.Free.Fl.fin64_core.mpr (FP.Core.l2d_fin y))
theorem own_n2 (y : Int64) : Jvm.Free.Fl.NoNaN64 (FP.dadd (FP.l2d y) (FP.dmul (4427486594234968593 : UInt64) (FP.l2d y))) :=
  Jvm.Free.Fl.dadd_out' (Jvm.Free.Fl.fin64_core.mpr (FP.Core.l2d_fin y)) (own_n1 y)
def zR (v : Int64) : Int := FP.Core.zval FP.Core.b64 (FP.Core.val64 (FP.Core.hiR v))
def oO : Int := (FP.Core.one64 : Int)
theorem own_o0 : 0 < oO := FP.Core.own_O
theorem own_hi (u v : Int64) (hu0 : 0 ≤ u.toInt) (hu1 : u.toInt ≤ 9007199254740992) (hv0 : 0 ≤ v.toInt) (hv1 : v.toInt ≤ 9007199254740992) : isHi (FP.l2d u) (FP.l2d v) = if zR v < u.toInt * oO then 1 else 0 := by
  have k : (0 < cmpValue (FP.dcmp (FP.l2d u) (FP.dadd (FP.l2d v) (FP.dmul (4427486594234968593 : UInt64) (FP.l2d v)))) .l) ↔ zR v < u.toInt * oO := FP.Core.own_cmp hu0 hu1 hv0 hv1
  unfold isHi
  by_cases h : zR v < u.toInt * oO
  · rw [if_pos h, if_pos (k.mpr h)]
  · rw [if_neg h, if_neg (fun q => h (k.mp q))]
theorem own_lb (v : Int64) (hv0 : 0 ≤ v.toInt) (hv1 : v.toInt ≤ 9007199254740992) : v.toInt * oO ≤ zR v := (FP.Core.own_base hv0 hv1).2
theorem own_ub (v : Int64) (hv0 : 0 ≤ v.toInt) (hv1 : v.toInt < 2147483648) : zR v < (v.toInt + 1) * oO := FP.Core.own_small hv0 hv1
theorem own_bg (v : Int64) (h0 : 4503599627370496 ≤ v.toInt) (h1 : v.toInt < 6755399441055744) : (v.toInt + 4503) * oO ≤ zR v ∧ zR v < (v.toInt + 6756) * oO := FP.Core.own_big h0 h1
theorem own_mulc {z O X Y : Int} (O0 : 0 < O) (h1 : Y * O ≤ z) (h2 : z < (Y + 1) * O) : z < X * O ↔ Y < X := by
  constructor
  · intro h; exact Int.lt_of_mul_lt_mul_right (Int.lt_of_le_of_lt h1 h) (Int.le_of_lt O0)
  · intro h; exact Int.lt_of_lt_of_le h2 (Int.mul_le_mul_of_nonneg_right h (Int.le_of_lt O0))
theorem own_sm (a b : Int32) (ha : 0 ≤ a.toInt) (hb : 0 ≤ b.toInt) : isHi (FP.l2d a.toInt64) (FP.l2d b.toInt64) = if b < a then 1 else 0 := by
  have ra := rng32 a
  have rb := rng32 b
  have ea := c_i2l a
  have eb := c_i2l b
  rw [own_hi _ _ (by omega) (by omega) (by omega) (by omega)]
  have k := own_mulc (X := a.toInt64.toInt) own_o0 (own_lb b.toInt64 (by omega) (by omega)) (own_ub b.toInt64 (by omega) (by omega))
  rw [ea, eb] at k
  rw [ea]
  have k2 : (b < a) ↔ b.toInt < a.toInt := Int32.lt_iff_toInt_lt
  by_cases h : b < a
  · rw [if_pos h, if_pos (k.mpr (k2.mp h))]
  · rw [if_neg h, if_neg (fun q => h (k2.mpr (k.mp q)))]
theorem own_m31 (a : Int32) : 0 ≤ (a &&& (2147483647 : Int32)).toInt := by
  have h := c_mask a 2147483647 31 (by decide) (by decide)
  have e : ((2 ^ 31 : Nat) : Int) = 2147483648 := rfl
  rw [e] at h
  omega
theorem own_no {u v : Int64} (hu0 : 0 ≤ u.toInt) (hu1 : u.toInt ≤ 9007199254740992) (hv0 : 0 ≤ v.toInt) (hv1 : v.toInt ≤ 9007199254740992) {k : Int} (h : k * oO ≤ zR v) (hk : u.toInt ≤ k) : isHi (FP.l2d u) (FP.l2d v) = 0 := by
  rw [own_hi u v hu0 hu1 hv0 hv1]
  exact if_neg (Int.not_lt.mpr (Int.le_trans (Int.mul_le_mul_of_nonneg_right hk (Int.le_of_lt own_o0)) h))
theorem own_yes {u v : Int64} (hu0 : 0 ≤ u.toInt) (hu1 : u.toInt ≤ 9007199254740992) (hv0 : 0 ≤ v.toInt) (hv1 : v.toInt ≤ 9007199254740992) {k : Int} (h : zR v < k * oO) (hk : k ≤ u.toInt) : isHi (FP.l2d u) (FP.l2d v) = 1 := by
  rw [own_hi u v hu0 hu1 hv0 hv1]
  exact if_pos (Int.lt_of_lt_of_le h (Int.mul_le_mul_of_nonneg_right hk (Int.le_of_lt own_o0)))
theorem own_rb (m : Int64) : 4503599627370496 ≤ (bigL m).toInt ∧ (bigL m).toInt < 6755399441055744 := by
  have h := c_maskL m 2251799813685247 51 (by decide) (by decide)
  have e : ((2 ^ 51 : Nat) : Int) = 2251799813685248 := rfl
  rw [e] at h
  unfold bigL
  have a := c_ladd 4503599627370496 (m &&& 2251799813685247)
  have e1 : (4503599627370496 : Int64).toInt = 4503599627370496 := by decide
  rw [e1] at a
  have r := rng64 ((4503599627370496 : Int64) + (m &&& 2251799813685247))
  omega
theorem own_rl (d : Int32) : 0 ≤ (loL d).toInt ∧ (loL d).toInt ≤ 4503 := by
  have y0 := own_m31 d
  unfold loL
  generalize d &&& (2147483647 : Int32) = y at y0 ⊢
  have ry := rng32 y
  have dv := (c_idiv y 4504 4504 (by decide) (by decide)).1 y0
  generalize y / (4504 : Int32) = z at dv ⊢
  have m := c_imul z 4504
  have e3 : (4504 : Int32).toInt = 4504 := by decide
  rw [e3] at m
  generalize z * (4504 : Int32) = t at m ⊢
  have s := c_isub y t
  have r1 := rng32 t
  have r2 := rng32 (y - t)
  rw [c_i2l]
  omega
theorem own_rh (e : Int32) : 6756 ≤ (hiL e).toInt ∧ (hiL e).toInt ≤ 16783971 := by
  have h := c_mask e 16777215 24 (by decide) (by decide)
  have e0 : ((2 ^ 24 : Nat) : Int) = 16777216 := rfl
  rw [e0] at h
  unfold hiL
  have i := c_i2l (e &&& 16777215)
  have a := c_ladd 6756 (e &&& 16777215).toInt64
  have e1 : (6756 : Int64).toInt = 6756 := by decide
  rw [e1] at a
  have r := rng64 ((6756 : Int64) + (e &&& 16777215).toInt64)
  omega
theorem own_sl (m : Int64) (d : Int32) : (bigL m + loL d).toInt = (bigL m).toInt + (loL d).toInt := by
  have a := own_rb m
  have b := own_rl d
  have c := c_ladd (bigL m) (loL d)
  have r := rng64 (bigL m + loL d)
  omega
theorem own_sh (m : Int64) (e : Int32) : (bigL m + hiL e).toInt = (bigL m).toInt + (hiL e).toInt := by
  have a := own_rb m
  have b := own_rh e
  have c := c_ladd (bigL m) (hiL e)
  have r := rng64 (bigL m + hiL e)
  omega
theorem own_W1 (m : Int64) (d : Int32) : isHi (FP.l2d (bigL m + loL d)) (FP.l2d (bigL m)) = 0 := by
  have a := own_rb m
  have b := own_rl d
  have c := own_sl m d
  exact own_no (by omega) (by omega) (by omega) (by omega) (own_bg _ a.1 a.2).1 (by omega)
theorem own_W2 (m : Int64) (d : Int32) : isHi (FP.l2d (bigL m)) (FP.l2d (bigL m + loL d)) = 0 := by
  have a := own_rb m
  have b := own_rl d
  have c := own_sl m d
  exact own_no (by omega) (by omega) (by omega) (by omega) (own_lb _ (by omega) (by omega)) (by omega)
theorem own_B1 (m : Int64) (e : Int32) : isHi (FP.l2d (bigL m + hiL e)) (FP.l2d (bigL m)) = 1 := by
  have a := own_rb m
  have b := own_rh e
  have c := own_sh m e
  exact own_yes (by omega) (by omega) (by omega) (by omega) (own_bg _ a.1 a.2).2 (by omega)
theorem own_B2 (m : Int64) (e : Int32) : isHi (FP.l2d (bigL m)) (FP.l2d (bigL m + hiL e)) = 0 := by
  have a := own_rb m
  have b := own_rh e
  have c := own_sh m e
  exact own_no (by omega) (by omega) (by omega) (by omega) (own_lb _ (by omega) (by omega)) (by omega)
theorem w_0 {Z : State} {a0 : Array Value} (hw : ∀ d ∈ tables_1, d.before a0 Z = true) : (Jvm.Cond.constant "com/example/nearsay/nearsay/trace/ScoresIsHigherPinLaw" (7 : Nat) (2147483647 : Int32)).before a0 Z = true := hw _ (List.mem_of_getElem? (i := 0) rfl)
theorem w_1 {Z : State} {a0 : Array Value} (hw : ∀ d ∈ tables_1, d.before a0 Z = true) : (Jvm.Cond.methodLink "com/example/nearsay/nearsay/trace/ScoresIsHigherPinLaw" (8 : Nat) ({ cls := "com/example/nearsay/nearsay/trace/Scores", name := "isHigher", desc := "(DD)Z" } : Jvm.MethodName)).before a0 Z = true := hw _ (List.mem_of_getElem? (i := 1) rfl)
theorem w_2 {Z : State} {a0 : Array Value} (hw : ∀ d ∈ tables_1, d.before a0 Z = true) : (Jvm.Cond.static ({ cls := "com/example/nearsay/nearsay/trace/Scores", name := "isHigher", desc := "(DD)Z" } : Jvm.MethodName)).before a0 Z = true := hw _ (List.mem_of_getElem? (i := 2) rfl)
theorem w_3 {Z : State} {a0 : Array Value} (hw : ∀ d ∈ tables_1, d.before a0 Z = true) : (Jvm.Cond.initialized "com/example/nearsay/nearsay/trace/Scores").before a0 Z = true := hw _ (List.mem_of_getElem? (i := 3) rfl)
theorem w_4 {Z : State} {a0 : Array Value} (hw : ∀ d ∈ tables_1, d.before a0 Z = true) : (Jvm.Cond.code ({ cls := "com/example/nearsay/nearsay/trace/Scores", name := "isHigher", desc := "(DD)Z" } : Jvm.MethodName) prog_37_method_2_code (4 : Nat) (Option.some Jvm.ClassFile.FieldType.boolean)).before a0 Z = true := hw _ (List.mem_of_getElem? (i := 4) rfl)
theorem w_5 {Z : State} {a0 : Array Value} (hw : ∀ d ∈ tables_1, d.before a0 Z = true) : (Jvm.Cond.constantDouble "com/example/nearsay/nearsay/trace/Scores" (9 : Nat) (4427486594234968593 : UInt64)).before a0 Z = true := hw _ (List.mem_of_getElem? (i := 5) rfl)
theorem w_6 {Z : State} {a0 : Array Value} (hw : ∀ d ∈ tables_1, d.before a0 Z = true) : (Jvm.Cond.constantLong "com/example/nearsay/nearsay/trace/ScoresIsHigherPinLaw" (14 : Nat) (4503599627370496 : Int64)).before a0 Z = true := hw _ (List.mem_of_getElem? (i := 6) rfl)
theorem w_7 {Z : State} {a0 : Array Value} (hw : ∀ d ∈ tables_1, d.before a0 Z = true) : (Jvm.Cond.constantLong "com/example/nearsay/nearsay/trace/ScoresIsHigherPinLaw" (16 : Nat) (2251799813685247 : Int64)).before a0 Z = true := hw _ (List.mem_of_getElem? (i := 7) rfl)
theorem w_8 {Z : State} {a0 : Array Value} (hw : ∀ d ∈ tables_1, d.before a0 Z = true) : (Jvm.Cond.constantLong "com/example/nearsay/nearsay/trace/ScoresIsHigherPinLaw" (18 : Nat) (6756 : Int64)).before a0 Z = true := hw _ (List.mem_of_getElem? (i := 8) rfl)
theorem w_9 {Z : State} {a0 : Array Value} (hw : ∀ d ∈ tables_1, d.before a0 Z = true) : (Jvm.Cond.constant "com/example/nearsay/nearsay/trace/ScoresIsHigherPinLaw" (20 : Nat) (16777215 : Int32)).before a0 Z = true := hw _ (List.mem_of_getElem? (i := 9) rfl)
theorem d1_0 : decode prog_37_method_2_code 0 = .ok (.dload_n 0, 1) := by decide +kernel
theorem d1_1 : decode prog_37_method_2_code 1 = .ok (.dload_n 2, 1) := by decide +kernel
theorem d1_2 : decode prog_37_method_2_code 2 = .ok (.ldc2_w 9, 3) := by decide +kernel
theorem d1_5 : decode prog_37_method_2_code 5 = .ok (.dload_n 2, 1) := by decide +kernel
theorem d1_6 : decode prog_37_method_2_code 6 = .ok (.dmul, 1) := by decide +kernel
theorem d1_7 : decode prog_37_method_2_code 7 = .ok (.dadd, 1) := by decide +kernel
theorem d1_8 : decode prog_37_method_2_code 8 = .ok (.dcmp .l, 1) := by decide +kernel
theorem d1_9 : decode prog_37_method_2_code 9 = .ok (.ifCond .le 7, 3) := by decide +kernel
theorem d1_12 : decode prog_37_method_2_code 12 = .ok (.iconst 1, 1) := by decide +kernel
theorem d1_13 : decode prog_37_method_2_code 13 = .ok (.goto 4, 3) := by decide +kernel
theorem d1_16 : decode prog_37_method_2_code 16 = .ok (.iconst 0, 1) := by decide +kernel
theorem d1_17 : decode prog_37_method_2_code 17 = .ok (.ireturn, 1) := by decide +kernel
theorem pd__28DD_29Z : parseMethodDescriptor "(DD)Z" = some ⟨[.double, .double], some .boolean⟩ := by decide +kernel
theorem ef_rm1 (q1 : UInt64) (q2 : UInt64) (m : MethodId) : entryFrame m #[.double q1, .double q2] 4 = mkF m 0 #[.val (.double q1), .second, .val (.double q2), .second] [] := by
  first | (simp [entryFrame, mkF, argsToLocals, Value.category]; done) | rfl
theorem pn_rm1 : plainName "com/example/nearsay/nearsay/trace/Scores" = true := by first | (simp [plainName, overriddenIn]; done) | decide +kernel
set_option maxRecDepth 65536 in
set_option maxHeartbeats 40000000 in
theorem rm1 (l : Launch) (Z : State) (a0 : Array Value) (hw : ∀ d ∈ tables_1, d.before a0 Z = true) (ws : List Jvm.Cond) (q1 : UInt64) (q2 : UInt64) (h0 : Heap) (n0 : Nat) (n1 : Jvm.Free.Fl.NoNaN64 (FP.dmul (4427486594234968593 : UInt64) q2)) (n2 : Jvm.Free.Fl.NoNaN64 (FP.dadd q2 (FP.dmul (4427486594234968593 : UInt64) q2))) :
    Ctr l Z ({ cls := "com/example/nearsay/nearsay/trace/Scores", name := "isHigher", desc := "(DD)Z" } : Jvm.MethodName) prog_37_method_2_code 4 (some .boolean) ws ({ frames := 0, cells := 0, slots := 0, locals := 0 } : Room) #[.double q1, .double q2] h0 (fun v h L => v = some (.int (isHi q1 q2)) ∧ Fr n0 L ∧ h = h0) := by
  refine Ctr.enter (Ls := #[.val (.double q1), .second, .val (.double q2), .second]) (plainFor_of_name pn_rm1) (fun m => ef_rm1 q1 q2 m) ?_
  intro p e s m below meth c T hx hby hml hown hnm hret hlk hZ hh X0 e0
  have N0 := Fr.nil n0
  refine g_dloadN X0 hx hby d1_0 (pc' := 1) rfl rfl ?_
  refine g_dloadN X0 hx hby d1_1 (pc' := 2) rfl rfl ?_
  refine g_ldcD X0 hx hZ hown hby d1_2 (pc' := 5) rfl (w_5 hw) ?_
  refine g_dloadN X0 hx hby d1_5 (pc' := 6) rfl rfl ?_
  refine g_dmul X0 hx hby d1_6 (pc' := 7) rfl n1 ?_
  refine g_dadd X0 hx hby d1_7 (pc' := 8) rfl n2 ?_
  refine g_dcmp X0 hx hby d1_8 (pc' := 9) rfl (v := (cmpValue (FP.dcmp q1 (FP.dadd q2 (FP.dmul (4427486594234968593 : UInt64) q2))) .l)) rfl ?_
  refine g_if_le X0 hx hby d1_9 (by decide) (pc' := 16) (by decide) (pn := 12) rfl (fun hc9_1 => ?_) (fun hc9_1 => ?_)
  · refine g_iconst X0 hx hby d1_16 (pc' := 17) rfl (z := (0 : Int32)) rfl ?_
    exact g_retN (Q := (fun v h L => v = some (.int (isHi q1 q2)) ∧ Fr n0 L ∧ h = h0)) (w := (0 : Int32)) X0 hx hby d1_17 hret (by simp) (by first | decide | rfl) hlk (by decide) (by decide) ⟨congrArg (fun z : Int32 => some (Value.int z)) (by unfold isHi; rw [if_neg hc9_1]), N0, e0⟩
  · refine g_iconst X0 hx hby d1_12 (pc' := 13) rfl (z := (1 : Int32)) rfl ?_
    refine g_goto X0 hx hby d1_13 (by decide) (pc' := 17) (by decide) ?_
    exact g_retN (Q := (fun v h L => v = some (.int (isHi q1 q2)) ∧ Fr n0 L ∧ h = h0)) (w := (1 : Int32)) X0 hx hby d1_17 hret (by simp) (by first | decide | rfl) hlk (by decide) (by decide) ⟨congrArg (fun z : Int32 => some (Value.int z)) (by unfold isHi; rw [if_pos hc9_1]), N0, e0⟩
theorem ef_rm0 (q1 : Int32) (q2 : Int32) (q3 : Int64) (q4 : Int32) (q5 : Int32) (m : MethodId) : entryFrame m #[.int q1, .int q2, .long q3, .int q4, .int q5] maxLocals = mkF m 0 #[.val (.int q1), .val (.int q2), .val (.long q3), .second, .val (.int q4), .val (.int q5), .unset, .unset, .unset, .unset, .unset, .unset, .unset, .unset, .unset, .unset, .unset, .unset, .unset, .unset, .unset, .unset, .unset] [] := by
  first | (simp [entryFrame, mkF, argsToLocals, Value.category, maxLocals]; done) | rfl
theorem pn_rm0 : plainName "com/example/nearsay/nearsay/trace/ScoresIsHigherPinLaw" = true := by first | (simp [plainName, overriddenIn]; done) | decide +kernel
set_option maxRecDepth 65536 in
set_option maxHeartbeats 40000000 in
theorem rm0 (l : Launch) (Z : State) (a0 : Array Value) (hw : ∀ d ∈ tables_1, d.before a0 Z = true) (ws : List Jvm.Cond) (q1 : Int32) (q2 : Int32) (q3 : Int64) (q4 : Int32) (q5 : Int32) (h0 : Heap) (n0 : Nat)  :
    Ctr l Z x code maxLocals ret ws room_1 #[.int q1, .int q2, .long q3, .int q4, .int q5] h0 (fun v h L => v = some (.int 1) ∧ Fr n0 L) := by
  refine Ctr.enter (Ls := #[.val (.int q1), .val (.int q2), .val (.long q3), .second, .val (.int q4), .val (.int q5), .unset, .unset, .unset, .unset, .unset, .unset, .unset, .unset, .unset, .unset, .unset, .unset, .unset, .unset, .unset, .unset, .unset]) (plainFor_of_name pn_rm0) (fun m => ef_rm0 q1 q2 q3 q4 q5 m) ?_
  intro p e s m below meth c T hx hby hml hown hnm hret hlk hZ hh X0 e0
  have N0 := Fr.nil n0
  refine g_iloadN X0 hx hby at_0 (pc' := 1) rfl rfl ?_
  refine g_ldcI X0 hx hZ hown hby at_1 (pc' := 3) rfl (w_0 hw) ?_
  refine g_iand X0 hx hby at_3 (pc' := 4) rfl ?_
  refine g_istore X0 hx hby at_4 (pc' := 6) rfl (l' := #[.val (.int q1), .val (.int q2), .val (.long q3), .second, .val (.int q4), .val (.int q5), .val (.int (q1 &&& (2147483647 : Int32))), .unset, .unset, .unset, .unset, .unset, .unset, .unset, .unset, .unset, .unset, .unset, .unset, .unset, .unset, .unset, .unset]) rfl ?_
  refine g_iloadN X0 hx hby at_6 (pc' := 7) rfl rfl ?_
  refine g_ldcI X0 hx hZ hown hby at_7 (pc' := 9) rfl (w_0 hw) ?_
  refine g_iand X0 hx hby at_9 (pc' := 10) rfl ?_
  refine g_istore X0 hx hby at_10 (pc' := 12) rfl (l' := #[.val (.int q1), .val (.int q2), .val (.long q3), .second, .val (.int q4), .val (.int q5), .val (.int (q1 &&& (2147483647 : Int32))), .val (.int (q2 &&& (2147483647 : Int32))), .unset, .unset, .unset, .unset, .unset, .unset, .unset, .unset, .unset, .unset, .unset, .unset, .unset, .unset, .unset]) rfl ?_
  refine g_iload X0 hx hby at_12 (pc' := 14) rfl rfl ?_
  refine g_i2d X0 hx hby at_14 (pc' := 15) rfl ?_
  refine g_iload X0 hx hby at_15 (pc' := 17) rfl rfl ?_
  refine g_i2d X0 hx hby at_17 (pc' := 18) rfl ?_
  refine g_callS X0 hx hZ hown (W := 0) (argsL := [.double (FP.l2d (q1 &&& (2147483647 : Int32)).toInt64), .double (FP.l2d (q2 &&& (2147483647 : Int32)).toInt64)]) (rest := []) hby at_18 (pc' := 21) rfl (by rw [hml]; rfl) (w_1 hw) (w_2 hw) (w_3 hw) (w_4 hw) (by decide) (rm1 l Z a0 hw [] (FP.l2d (q1 &&& (2147483647 : Int32)).toInt64) (FP.l2d (q2 &&& (2147483647 : Int32)).toInt64) h0 n0 (own_n1 _) (own_n2 _)) e0 (by decide) (by decide) (by decide) (by decide) rfl pd__28DD_29Z rfl rfl (Nat.le_of_eq rfl) ?_
  rintro _ T1 L1 X1 ⟨rfl, N1q, e1⟩
  have N1 := Fr.app N0 N1q
  show GoE p e below _ (T1.setTop (mkF m 21 #[.val (.int q1), .val (.int q2), .val (.long q3), .second, .val (.int q4), .val (.int q5), .val (.int (q1 &&& (2147483647 : Int32))), .val (.int (q2 &&& (2147483647 : Int32))), .unset, .unset, .unset, .unset, .unset, .unset, .unset, .unset, .unset, .unset, .unset, .unset, .unset, .unset, .unset] [.int (isHi (FP.l2d (q1 &&& (2147483647 : Int32)).toInt64) (FP.l2d (q2 &&& (2147483647 : Int32)).toInt64))]))
  refine g_iload X1 hx hby at_21 (pc' := 23) rfl rfl ?_
  refine g_iload X1 hx hby at_23 (pc' := 25) rfl rfl ?_
  refine g_icmp_le X1 hx hby at_25 (by decide) (pc' := 32) (by decide) (pn := 28) rfl (fun hc25_2 => ?_) (fun hc25_2 => ?_)
  · refine g_iconst X1 hx hby at_32 (pc' := 33) rfl (z := (0 : Int32)) rfl ?_
    refine g_icmp_ne X1 hx hby at_33 (by decide) (pc' := 40) (by decide) (pn := 36) rfl (fun z => absurd z (fun z => z ((own_sm _ _ (own_m31 q1) (own_m31 q2)).trans (if_neg hc25_2)))) (fun hc33_3 => ?_)
    refine g_iconst X1 hx hby at_36 (pc' := 37) rfl (z := (1 : Int32)) rfl ?_
    refine g_goto X1 hx hby at_37 (by decide) (pc' := 41) (by decide) ?_
    refine g_istore X1 hx hby at_41 (pc' := 43) rfl (l' := #[.val (.int q1), .val (.int q2), .val (.long q3), .second, .val (.int q4), .val (.int q5), .val (.int (q1 &&& (2147483647 : Int32))), .val (.int (q2 &&& (2147483647 : Int32))), .val (.int (1 : Int32)), .unset, .unset, .unset, .unset, .unset, .unset, .unset, .unset, .unset, .unset, .unset, .unset, .unset, .unset]) rfl ?_
    refine g_ldcL X1 hx hZ hown hby at_43 (pc' := 46) rfl (w_6 hw) ?_
    refine g_lloadN X1 hx hby at_46 (pc' := 47) rfl rfl ?_
    refine g_ldcL X1 hx hZ hown hby at_47 (pc' := 50) rfl (w_7 hw) ?_
    refine g_land X1 hx hby at_50 (pc' := 51) rfl ?_
    refine g_ladd X1 hx hby at_51 (pc' := 52) rfl ?_
    refine g_lstore X1 hx hby at_52 (pc' := 54) rfl (l' := #[.val (.int q1), .val (.int q2), .val (.long q3), .second, .val (.int q4), .val (.int q5), .val (.int (q1 &&& (2147483647 : Int32))), .val (.int (q2 &&& (2147483647 : Int32))), .val (.int (1 : Int32)), .val (.long (bigL q3)), .second, .unset, .unset, .unset, .unset, .unset, .unset, .unset, .unset, .unset, .unset, .unset, .unset]) rfl ?_
    refine g_iload X1 hx hby at_54 (pc' := 56) rfl rfl ?_
    refine g_ldcI X1 hx hZ hown hby at_56 (pc' := 58) rfl (w_0 hw) ?_
    refine g_iand X1 hx hby at_58 (pc' := 59) rfl ?_
    refine g_sipush X1 hx hby at_59 (pc' := 62) rfl (z := (4504 : Int32)) rfl ?_
    refine g_irem X1 hx hby at_62 (pc' := 63) rfl (by decide) ?_
    refine g_i2l X1 hx hby at_63 (pc' := 64) rfl ?_
    refine g_lstore X1 hx hby at_64 (pc' := 66) rfl (l' := #[.val (.int q1), .val (.int q2), .val (.long q3), .second, .val (.int q4), .val (.int q5), .val (.int (q1 &&& (2147483647 : Int32))), .val (.int (q2 &&& (2147483647 : Int32))), .val (.int (1 : Int32)), .val (.long (bigL q3)), .second, .val (.long (loL q4)), .second, .unset, .unset, .unset, .unset, .unset, .unset, .unset, .unset, .unset, .unset]) rfl ?_
    refine g_ldcL X1 hx hZ hown hby at_66 (pc' := 69) rfl (w_8 hw) ?_
    refine g_iload X1 hx hby at_69 (pc' := 71) rfl rfl ?_
    refine g_ldcI X1 hx hZ hown hby at_71 (pc' := 73) rfl (w_9 hw) ?_
    refine g_iand X1 hx hby at_73 (pc' := 74) rfl ?_
    refine g_i2l X1 hx hby at_74 (pc' := 75) rfl ?_
    refine g_ladd X1 hx hby at_75 (pc' := 76) rfl ?_
    refine g_lstore X1 hx hby at_76 (pc' := 78) rfl (l' := #[.val (.int q1), .val (.int q2), .val (.long q3), .second, .val (.int q4), .val (.int q5), .val (.int (q1 &&& (2147483647 : Int32))), .val (.int (q2 &&& (2147483647 : Int32))), .val (.int (1 : Int32)), .val (.long (bigL q3)), .second, .val (.long (loL q4)), .second, .val (.long (hiL q5)), .second, .unset, .unset, .unset, .unset, .unset, .unset, .unset, .unset]) rfl ?_
    refine g_lload X1 hx hby at_78 (pc' := 80) rfl rfl ?_
    refine g_l2d X1 hx hby at_80 (pc' := 81) rfl ?_
    refine g_dstore X1 hx hby at_81 (pc' := 83) rfl (l' := #[.val (.int q1), .val (.int q2), .val (.long q3), .second, .val (.int q4), .val (.int q5), .val (.int (q1 &&& (2147483647 : Int32))), .val (.int (q2 &&& (2147483647 : Int32))), .val (.int (1 : Int32)), .val (.long (bigL q3)), .second, .val (.long (loL q4)), .second, .val (.long (hiL q5)), .second, .val (.double (FP.l2d (bigL q3))), .second, .unset, .unset, .unset, .unset, .unset, .unset]) rfl ?_
    refine g_lload X1 hx hby at_83 (pc' := 85) rfl rfl ?_
    refine g_lload X1 hx hby at_85 (pc' := 87) rfl rfl ?_
    refine g_ladd X1 hx hby at_87 (pc' := 88) rfl ?_
    refine g_l2d X1 hx hby at_88 (pc' := 89) rfl ?_
    refine g_dstore X1 hx hby at_89 (pc' := 91) rfl (l' := #[.val (.int q1), .val (.int q2), .val (.long q3), .second, .val (.int q4), .val (.int q5), .val (.int (q1 &&& (2147483647 : Int32))), .val (.int (q2 &&& (2147483647 : Int32))), .val (.int (1 : Int32)), .val (.long (bigL q3)), .second, .val (.long (loL q4)), .second, .val (.long (hiL q5)), .second, .val (.double (FP.l2d (bigL q3))), .second, .val (.double (FP.l2d ((bigL q3) + (loL q4)))), .second, .unset, .unset, .unset, .unset]) rfl ?_
    refine g_lload X1 hx hby at_91 (pc' := 93) rfl rfl ?_
    refine g_lload X1 hx hby at_93 (pc' := 95) rfl rfl ?_
    refine g_ladd X1 hx hby at_95 (pc' := 96) rfl ?_
    refine g_l2d X1 hx hby at_96 (pc' := 97) rfl ?_
    refine g_dstore X1 hx hby at_97 (pc' := 99) rfl (l' := #[.val (.int q1), .val (.int q2), .val (.long q3), .second, .val (.int q4), .val (.int q5), .val (.int (q1 &&& (2147483647 : Int32))), .val (.int (q2 &&& (2147483647 : Int32))), .val (.int (1 : Int32)), .val (.long (bigL q3)), .second, .val (.long (loL q4)), .second, .val (.long (hiL q5)), .second, .val (.double (FP.l2d (bigL q3))), .second, .val (.double (FP.l2d ((bigL q3) + (loL q4)))), .second, .val (.double (FP.l2d ((bigL q3) + (hiL q5)))), .second, .unset, .unset]) rfl ?_
    refine g_dload X1 hx hby at_99 (pc' := 101) rfl rfl ?_
    refine g_dload X1 hx hby at_101 (pc' := 103) rfl rfl ?_
    refine g_callS X1 hx hZ hown (W := 0) (argsL := [.double (FP.l2d ((bigL q3) + (loL q4))), .double (FP.l2d (bigL q3))]) (rest := []) hby at_103 (pc' := 106) rfl (by rw [hml]; rfl) (w_1 hw) (w_2 hw) (w_3 hw) (w_4 hw) (by decide) (rm1 l Z a0 hw [] (FP.l2d ((bigL q3) + (loL q4))) (FP.l2d (bigL q3)) h0 n0 (own_n1 _) (own_n2 _)) e1 (by decide) (by decide) (by decide) (by decide) rfl pd__28DD_29Z rfl rfl (Nat.le_of_eq rfl) ?_
    rintro _ T4 L4 X4 ⟨rfl, N4q, e4⟩
    have N4 := Fr.app N1 N4q
    show GoE p e below _ (T4.setTop (mkF m 106 #[.val (.int q1), .val (.int q2), .val (.long q3), .second, .val (.int q4), .val (.int q5), .val (.int (q1 &&& (2147483647 : Int32))), .val (.int (q2 &&& (2147483647 : Int32))), .val (.int (1 : Int32)), .val (.long (bigL q3)), .second, .val (.long (loL q4)), .second, .val (.long (hiL q5)), .second, .val (.double (FP.l2d (bigL q3))), .second, .val (.double (FP.l2d ((bigL q3) + (loL q4)))), .second, .val (.double (FP.l2d ((bigL q3) + (hiL q5)))), .second, .unset, .unset] [.int (isHi (FP.l2d ((bigL q3) + (loL q4))) (FP.l2d (bigL q3)))]))
    refine g_if_ne X4 hx hby at_106 (by decide) (pc' := 123) (by decide) (pn := 109) rfl (fun z => absurd z (fun z => z (own_W1 q3 q4))) (fun hc106_5 => ?_)
    refine g_dload X4 hx hby at_109 (pc' := 111) rfl rfl ?_
    refine g_dload X4 hx hby at_111 (pc' := 113) rfl rfl ?_
    refine g_callS X4 hx hZ hown (W := 0) (argsL := [.double (FP.l2d (bigL q3)), .double (FP.l2d ((bigL q3) + (loL q4)))]) (rest := []) hby at_113 (pc' := 116) rfl (by rw [hml]; rfl) (w_1 hw) (w_2 hw) (w_3 hw) (w_4 hw) (by decide) (rm1 l Z a0 hw [] (FP.l2d (bigL q3)) (FP.l2d ((bigL q3) + (loL q4))) h0 n0 (own_n1 _) (own_n2 _)) e4 (by decide) (by decide) (by decide) (by decide) rfl pd__28DD_29Z rfl rfl (Nat.le_of_eq rfl) ?_
    rintro _ T6 L6 X6 ⟨rfl, N6q, e6⟩
    have N6 := Fr.app N4 N6q
    show GoE p e below _ (T6.setTop (mkF m 116 #[.val (.int q1), .val (.int q2), .val (.long q3), .second, .val (.int q4), .val (.int q5), .val (.int (q1 &&& (2147483647 : Int32))), .val (.int (q2 &&& (2147483647 : Int32))), .val (.int (1 : Int32)), .val (.long (bigL q3)), .second, .val (.long (loL q4)), .second, .val (.long (hiL q5)), .second, .val (.double (FP.l2d (bigL q3))), .second, .val (.double (FP.l2d ((bigL q3) + (loL q4)))), .second, .val (.double (FP.l2d ((bigL q3) + (hiL q5)))), .second, .unset, .unset] [.int (isHi (FP.l2d (bigL q3)) (FP.l2d ((bigL q3) + (loL q4))))]))
    refine g_if_ne X6 hx hby at_116 (by decide) (pc' := 123) (by decide) (pn := 119) rfl (fun z => absurd z (fun z => z (own_W2 q3 q4))) (fun hc116_7 => ?_)
    refine g_iconst X6 hx hby at_119 (pc' := 120) rfl (z := (1 : Int32)) rfl ?_
    refine g_goto X6 hx hby at_120 (by decide) (pc' := 124) (by decide) ?_
    refine g_istore X6 hx hby at_124 (pc' := 126) rfl (l' := #[.val (.int q1), .val (.int q2), .val (.long q3), .second, .val (.int q4), .val (.int q5), .val (.int (q1 &&& (2147483647 : Int32))), .val (.int (q2 &&& (2147483647 : Int32))), .val (.int (1 : Int32)), .val (.long (bigL q3)), .second, .val (.long (loL q4)), .second, .val (.long (hiL q5)), .second, .val (.double (FP.l2d (bigL q3))), .second, .val (.double (FP.l2d ((bigL q3) + (loL q4)))), .second, .val (.double (FP.l2d ((bigL q3) + (hiL q5)))), .second, .val (.int (1 : Int32)), .unset]) rfl ?_
    refine g_dload X6 hx hby at_126 (pc' := 128) rfl rfl ?_
    refine g_dload X6 hx hby at_128 (pc' := 130) rfl rfl ?_
    refine g_callS X6 hx hZ hown (W := 0) (argsL := [.double (FP.l2d ((bigL q3) + (hiL q5))), .double (FP.l2d (bigL q3))]) (rest := []) hby at_130 (pc' := 133) rfl (by rw [hml]; rfl) (w_1 hw) (w_2 hw) (w_3 hw) (w_4 hw) (by decide) (rm1 l Z a0 hw [] (FP.l2d ((bigL q3) + (hiL q5))) (FP.l2d (bigL q3)) h0 n0 (own_n1 _) (own_n2 _)) e6 (by decide) (by decide) (by decide) (by decide) rfl pd__28DD_29Z rfl rfl (Nat.le_of_eq rfl) ?_
    rintro _ T8 L8 X8 ⟨rfl, N8q, e8⟩
    have N8 := Fr.app N6 N8q
    show GoE p e below _ (T8.setTop (mkF m 133 #[.val (.int q1), .val (.int q2), .val (.long q3), .second, .val (.int q4), .val (.int q5), .val (.int (q1 &&& (2147483647 : Int32))), .val (.int (q2 &&& (2147483647 : Int32))), .val (.int (1 : Int32)), .val (.long (bigL q3)), .second, .val (.long (loL q4)), .second, .val (.long (hiL q5)), .second, .val (.double (FP.l2d (bigL q3))), .second, .val (.double (FP.l2d ((bigL q3) + (loL q4)))), .second, .val (.double (FP.l2d ((bigL q3) + (hiL q5)))), .second, .val (.int (1 : Int32)), .unset] [.int (isHi (FP.l2d ((bigL q3) + (hiL q5))) (FP.l2d (bigL q3)))]))
    refine g_if_eq X8 hx hby at_133 (by decide) (pc' := 150) (by decide) (pn := 136) rfl (fun z => absurd z (fun z => absurd ((own_B1 q3 q5).symm.trans z) (by decide))) (fun hc133_9 => ?_)
    refine g_dload X8 hx hby at_136 (pc' := 138) rfl rfl ?_
    refine g_dload X8 hx hby at_138 (pc' := 140) rfl rfl ?_
    refine g_callS X8 hx hZ hown (W := 0) (argsL := [.double (FP.l2d (bigL q3)), .double (FP.l2d ((bigL q3) + (hiL q5)))]) (rest := []) hby at_140 (pc' := 143) rfl (by rw [hml]; rfl) (w_1 hw) (w_2 hw) (w_3 hw) (w_4 hw) (by decide) (rm1 l Z a0 hw [] (FP.l2d (bigL q3)) (FP.l2d ((bigL q3) + (hiL q5))) h0 n0 (own_n1 _) (own_n2 _)) e8 (by decide) (by decide) (by decide) (by decide) rfl pd__28DD_29Z rfl rfl (Nat.le_of_eq rfl) ?_
    rintro _ T10 L10 X10 ⟨rfl, N10q, e10⟩
    have N10 := Fr.app N8 N10q
    show GoE p e below _ (T10.setTop (mkF m 143 #[.val (.int q1), .val (.int q2), .val (.long q3), .second, .val (.int q4), .val (.int q5), .val (.int (q1 &&& (2147483647 : Int32))), .val (.int (q2 &&& (2147483647 : Int32))), .val (.int (1 : Int32)), .val (.long (bigL q3)), .second, .val (.long (loL q4)), .second, .val (.long (hiL q5)), .second, .val (.double (FP.l2d (bigL q3))), .second, .val (.double (FP.l2d ((bigL q3) + (loL q4)))), .second, .val (.double (FP.l2d ((bigL q3) + (hiL q5)))), .second, .val (.int (1 : Int32)), .unset] [.int (isHi (FP.l2d (bigL q3)) (FP.l2d ((bigL q3) + (hiL q5))))]))
    refine g_if_ne X10 hx hby at_143 (by decide) (pc' := 150) (by decide) (pn := 146) rfl (fun z => absurd z (fun z => z (own_B2 q3 q5))) (fun hc143_11 => ?_)
    refine g_iconst X10 hx hby at_146 (pc' := 147) rfl (z := (1 : Int32)) rfl ?_
    refine g_goto X10 hx hby at_147 (by decide) (pc' := 151) (by decide) ?_
    refine g_istore X10 hx hby at_151 (pc' := 153) rfl (l' := #[.val (.int q1), .val (.int q2), .val (.long q3), .second, .val (.int q4), .val (.int q5), .val (.int (q1 &&& (2147483647 : Int32))), .val (.int (q2 &&& (2147483647 : Int32))), .val (.int (1 : Int32)), .val (.long (bigL q3)), .second, .val (.long (loL q4)), .second, .val (.long (hiL q5)), .second, .val (.double (FP.l2d (bigL q3))), .second, .val (.double (FP.l2d ((bigL q3) + (loL q4)))), .second, .val (.double (FP.l2d ((bigL q3) + (hiL q5)))), .second, .val (.int (1 : Int32)), .val (.int (1 : Int32))]) rfl ?_
    refine g_iload X10 hx hby at_153 (pc' := 155) rfl rfl ?_
    refine g_if_eq X10 hx hby at_155 (by decide) (pc' := 172) (by decide) (pn := 158) rfl (fun z => absurd z (by decide)) (fun _ => ?_)
    refine g_iload X10 hx hby at_158 (pc' := 160) rfl rfl ?_
    refine g_if_eq X10 hx hby at_160 (by decide) (pc' := 172) (by decide) (pn := 163) rfl (fun z => absurd z (by decide)) (fun _ => ?_)
    refine g_iload X10 hx hby at_163 (pc' := 165) rfl rfl ?_
    refine g_if_eq X10 hx hby at_165 (by decide) (pc' := 172) (by decide) (pn := 168) rfl (fun z => absurd z (by decide)) (fun _ => ?_)
    refine g_iconst X10 hx hby at_168 (pc' := 169) rfl (z := (1 : Int32)) rfl ?_
    refine g_goto X10 hx hby at_169 (by decide) (pc' := 173) (by decide) ?_
    exact g_retN (Q := (fun v h L => v = some (.int 1) ∧ Fr n0 L)) (w := (1 : Int32)) X10 hx hby at_173 hret (by simp) (by first | decide | rfl) hlk (by decide) (by decide) ⟨rfl, N10⟩
  · refine g_iconst X1 hx hby at_28 (pc' := 29) rfl (z := (1 : Int32)) rfl ?_
    refine g_goto X1 hx hby at_29 (by decide) (pc' := 33) (by decide) ?_
    refine g_icmp_ne X1 hx hby at_33 (by decide) (pc' := 40) (by decide) (pn := 36) rfl (fun z => absurd z (fun z => z ((own_sm _ _ (own_m31 q1) (own_m31 q2)).trans (if_pos hc25_2)))) (fun hc33_12 => ?_)
    refine g_iconst X1 hx hby at_36 (pc' := 37) rfl (z := (1 : Int32)) rfl ?_
    refine g_goto X1 hx hby at_37 (by decide) (pc' := 41) (by decide) ?_
    refine g_istore X1 hx hby at_41 (pc' := 43) rfl (l' := #[.val (.int q1), .val (.int q2), .val (.long q3), .second, .val (.int q4), .val (.int q5), .val (.int (q1 &&& (2147483647 : Int32))), .val (.int (q2 &&& (2147483647 : Int32))), .val (.int (1 : Int32)), .unset, .unset, .unset, .unset, .unset, .unset, .unset, .unset, .unset, .unset, .unset, .unset, .unset, .unset]) rfl ?_
    refine g_ldcL X1 hx hZ hown hby at_43 (pc' := 46) rfl (w_6 hw) ?_
    refine g_lloadN X1 hx hby at_46 (pc' := 47) rfl rfl ?_
    refine g_ldcL X1 hx hZ hown hby at_47 (pc' := 50) rfl (w_7 hw) ?_
    refine g_land X1 hx hby at_50 (pc' := 51) rfl ?_
    refine g_ladd X1 hx hby at_51 (pc' := 52) rfl ?_
    refine g_lstore X1 hx hby at_52 (pc' := 54) rfl (l' := #[.val (.int q1), .val (.int q2), .val (.long q3), .second, .val (.int q4), .val (.int q5), .val (.int (q1 &&& (2147483647 : Int32))), .val (.int (q2 &&& (2147483647 : Int32))), .val (.int (1 : Int32)), .val (.long (bigL q3)), .second, .unset, .unset, .unset, .unset, .unset, .unset, .unset, .unset, .unset, .unset, .unset, .unset]) rfl ?_
    refine g_iload X1 hx hby at_54 (pc' := 56) rfl rfl ?_
    refine g_ldcI X1 hx hZ hown hby at_56 (pc' := 58) rfl (w_0 hw) ?_
    refine g_iand X1 hx hby at_58 (pc' := 59) rfl ?_
    refine g_sipush X1 hx hby at_59 (pc' := 62) rfl (z := (4504 : Int32)) rfl ?_
    refine g_irem X1 hx hby at_62 (pc' := 63) rfl (by decide) ?_
    refine g_i2l X1 hx hby at_63 (pc' := 64) rfl ?_
    refine g_lstore X1 hx hby at_64 (pc' := 66) rfl (l' := #[.val (.int q1), .val (.int q2), .val (.long q3), .second, .val (.int q4), .val (.int q5), .val (.int (q1 &&& (2147483647 : Int32))), .val (.int (q2 &&& (2147483647 : Int32))), .val (.int (1 : Int32)), .val (.long (bigL q3)), .second, .val (.long (loL q4)), .second, .unset, .unset, .unset, .unset, .unset, .unset, .unset, .unset, .unset, .unset]) rfl ?_
    refine g_ldcL X1 hx hZ hown hby at_66 (pc' := 69) rfl (w_8 hw) ?_
    refine g_iload X1 hx hby at_69 (pc' := 71) rfl rfl ?_
    refine g_ldcI X1 hx hZ hown hby at_71 (pc' := 73) rfl (w_9 hw) ?_
    refine g_iand X1 hx hby at_73 (pc' := 74) rfl ?_
    refine g_i2l X1 hx hby at_74 (pc' := 75) rfl ?_
    refine g_ladd X1 hx hby at_75 (pc' := 76) rfl ?_
    refine g_lstore X1 hx hby at_76 (pc' := 78) rfl (l' := #[.val (.int q1), .val (.int q2), .val (.long q3), .second, .val (.int q4), .val (.int q5), .val (.int (q1 &&& (2147483647 : Int32))), .val (.int (q2 &&& (2147483647 : Int32))), .val (.int (1 : Int32)), .val (.long (bigL q3)), .second, .val (.long (loL q4)), .second, .val (.long (hiL q5)), .second, .unset, .unset, .unset, .unset, .unset, .unset, .unset, .unset]) rfl ?_
    refine g_lload X1 hx hby at_78 (pc' := 80) rfl rfl ?_
    refine g_l2d X1 hx hby at_80 (pc' := 81) rfl ?_
    refine g_dstore X1 hx hby at_81 (pc' := 83) rfl (l' := #[.val (.int q1), .val (.int q2), .val (.long q3), .second, .val (.int q4), .val (.int q5), .val (.int (q1 &&& (2147483647 : Int32))), .val (.int (q2 &&& (2147483647 : Int32))), .val (.int (1 : Int32)), .val (.long (bigL q3)), .second, .val (.long (loL q4)), .second, .val (.long (hiL q5)), .second, .val (.double (FP.l2d (bigL q3))), .second, .unset, .unset, .unset, .unset, .unset, .unset]) rfl ?_
    refine g_lload X1 hx hby at_83 (pc' := 85) rfl rfl ?_
    refine g_lload X1 hx hby at_85 (pc' := 87) rfl rfl ?_
    refine g_ladd X1 hx hby at_87 (pc' := 88) rfl ?_
    refine g_l2d X1 hx hby at_88 (pc' := 89) rfl ?_
    refine g_dstore X1 hx hby at_89 (pc' := 91) rfl (l' := #[.val (.int q1), .val (.int q2), .val (.long q3), .second, .val (.int q4), .val (.int q5), .val (.int (q1 &&& (2147483647 : Int32))), .val (.int (q2 &&& (2147483647 : Int32))), .val (.int (1 : Int32)), .val (.long (bigL q3)), .second, .val (.long (loL q4)), .second, .val (.long (hiL q5)), .second, .val (.double (FP.l2d (bigL q3))), .second, .val (.double (FP.l2d ((bigL q3) + (loL q4)))), .second, .unset, .unset, .unset, .unset]) rfl ?_
    refine g_lload X1 hx hby at_91 (pc' := 93) rfl rfl ?_
    refine g_lload X1 hx hby at_93 (pc' := 95) rfl rfl ?_
    refine g_ladd X1 hx hby at_95 (pc' := 96) rfl ?_
    refine g_l2d X1 hx hby at_96 (pc' := 97) rfl ?_
    refine g_dstore X1 hx hby at_97 (pc' := 99) rfl (l' := #[.val (.int q1), .val (.int q2), .val (.long q3), .second, .val (.int q4), .val (.int q5), .val (.int (q1 &&& (2147483647 : Int32))), .val (.int (q2 &&& (2147483647 : Int32))), .val (.int (1 : Int32)), .val (.long (bigL q3)), .second, .val (.long (loL q4)), .second, .val (.long (hiL q5)), .second, .val (.double (FP.l2d (bigL q3))), .second, .val (.double (FP.l2d ((bigL q3) + (loL q4)))), .second, .val (.double (FP.l2d ((bigL q3) + (hiL q5)))), .second, .unset, .unset]) rfl ?_
    refine g_dload X1 hx hby at_99 (pc' := 101) rfl rfl ?_
    refine g_dload X1 hx hby at_101 (pc' := 103) rfl rfl ?_
    refine g_callS X1 hx hZ hown (W := 0) (argsL := [.double (FP.l2d ((bigL q3) + (loL q4))), .double (FP.l2d (bigL q3))]) (rest := []) hby at_103 (pc' := 106) rfl (by rw [hml]; rfl) (w_1 hw) (w_2 hw) (w_3 hw) (w_4 hw) (by decide) (rm1 l Z a0 hw [] (FP.l2d ((bigL q3) + (loL q4))) (FP.l2d (bigL q3)) h0 n0 (own_n1 _) (own_n2 _)) e1 (by decide) (by decide) (by decide) (by decide) rfl pd__28DD_29Z rfl rfl (Nat.le_of_eq rfl) ?_
    rintro _ T13 L13 X13 ⟨rfl, N13q, e13⟩
    have N13 := Fr.app N1 N13q
    show GoE p e below _ (T13.setTop (mkF m 106 #[.val (.int q1), .val (.int q2), .val (.long q3), .second, .val (.int q4), .val (.int q5), .val (.int (q1 &&& (2147483647 : Int32))), .val (.int (q2 &&& (2147483647 : Int32))), .val (.int (1 : Int32)), .val (.long (bigL q3)), .second, .val (.long (loL q4)), .second, .val (.long (hiL q5)), .second, .val (.double (FP.l2d (bigL q3))), .second, .val (.double (FP.l2d ((bigL q3) + (loL q4)))), .second, .val (.double (FP.l2d ((bigL q3) + (hiL q5)))), .second, .unset, .unset] [.int (isHi (FP.l2d ((bigL q3) + (loL q4))) (FP.l2d (bigL q3)))]))
    refine g_if_ne X13 hx hby at_106 (by decide) (pc' := 123) (by decide) (pn := 109) rfl (fun z => absurd z (fun z => z (own_W1 q3 q4))) (fun hc106_14 => ?_)
    refine g_dload X13 hx hby at_109 (pc' := 111) rfl rfl ?_
    refine g_dload X13 hx hby at_111 (pc' := 113) rfl rfl ?_
    refine g_callS X13 hx hZ hown (W := 0) (argsL := [.double (FP.l2d (bigL q3)), .double (FP.l2d ((bigL q3) + (loL q4)))]) (rest := []) hby at_113 (pc' := 116) rfl (by rw [hml]; rfl) (w_1 hw) (w_2 hw) (w_3 hw) (w_4 hw) (by decide) (rm1 l Z a0 hw [] (FP.l2d (bigL q3)) (FP.l2d ((bigL q3) + (loL q4))) h0 n0 (own_n1 _) (own_n2 _)) e13 (by decide) (by decide) (by decide) (by decide) rfl pd__28DD_29Z rfl rfl (Nat.le_of_eq rfl) ?_
    rintro _ T15 L15 X15 ⟨rfl, N15q, e15⟩
    have N15 := Fr.app N13 N15q
    show GoE p e below _ (T15.setTop (mkF m 116 #[.val (.int q1), .val (.int q2), .val (.long q3), .second, .val (.int q4), .val (.int q5), .val (.int (q1 &&& (2147483647 : Int32))), .val (.int (q2 &&& (2147483647 : Int32))), .val (.int (1 : Int32)), .val (.long (bigL q3)), .second, .val (.long (loL q4)), .second, .val (.long (hiL q5)), .second, .val (.double (FP.l2d (bigL q3))), .second, .val (.double (FP.l2d ((bigL q3) + (loL q4)))), .second, .val (.double (FP.l2d ((bigL q3) + (hiL q5)))), .second, .unset, .unset] [.int (isHi (FP.l2d (bigL q3)) (FP.l2d ((bigL q3) + (loL q4))))]))
    refine g_if_ne X15 hx hby at_116 (by decide) (pc' := 123) (by decide) (pn := 119) rfl (fun z => absurd z (fun z => z (own_W2 q3 q4))) (fun hc116_16 => ?_)
    refine g_iconst X15 hx hby at_119 (pc' := 120) rfl (z := (1 : Int32)) rfl ?_
    refine g_goto X15 hx hby at_120 (by decide) (pc' := 124) (by decide) ?_
    refine g_istore X15 hx hby at_124 (pc' := 126) rfl (l' := #[.val (.int q1), .val (.int q2), .val (.long q3), .second, .val (.int q4), .val (.int q5), .val (.int (q1 &&& (2147483647 : Int32))), .val (.int (q2 &&& (2147483647 : Int32))), .val (.int (1 : Int32)), .val (.long (bigL q3)), .second, .val (.long (loL q4)), .second, .val (.long (hiL q5)), .second, .val (.double (FP.l2d (bigL q3))), .second, .val (.double (FP.l2d ((bigL q3) + (loL q4)))), .second, .val (.double (FP.l2d ((bigL q3) + (hiL q5)))), .second, .val (.int (1 : Int32)), .unset]) rfl ?_
    refine g_dload X15 hx hby at_126 (pc' := 128) rfl rfl ?_
    refine g_dload X15 hx hby at_128 (pc' := 130) rfl rfl ?_
    refine g_callS X15 hx hZ hown (W := 0) (argsL := [.double (FP.l2d ((bigL q3) + (hiL q5))), .double (FP.l2d (bigL q3))]) (rest := []) hby at_130 (pc' := 133) rfl (by rw [hml]; rfl) (w_1 hw) (w_2 hw) (w_3 hw) (w_4 hw) (by decide) (rm1 l Z a0 hw [] (FP.l2d ((bigL q3) + (hiL q5))) (FP.l2d (bigL q3)) h0 n0 (own_n1 _) (own_n2 _)) e15 (by decide) (by decide) (by decide) (by decide) rfl pd__28DD_29Z rfl rfl (Nat.le_of_eq rfl) ?_
    rintro _ T17 L17 X17 ⟨rfl, N17q, e17⟩
    have N17 := Fr.app N15 N17q
    show GoE p e below _ (T17.setTop (mkF m 133 #[.val (.int q1), .val (.int q2), .val (.long q3), .second, .val (.int q4), .val (.int q5), .val (.int (q1 &&& (2147483647 : Int32))), .val (.int (q2 &&& (2147483647 : Int32))), .val (.int (1 : Int32)), .val (.long (bigL q3)), .second, .val (.long (loL q4)), .second, .val (.long (hiL q5)), .second, .val (.double (FP.l2d (bigL q3))), .second, .val (.double (FP.l2d ((bigL q3) + (loL q4)))), .second, .val (.double (FP.l2d ((bigL q3) + (hiL q5)))), .second, .val (.int (1 : Int32)), .unset] [.int (isHi (FP.l2d ((bigL q3) + (hiL q5))) (FP.l2d (bigL q3)))]))
    refine g_if_eq X17 hx hby at_133 (by decide) (pc' := 150) (by decide) (pn := 136) rfl (fun z => absurd z (fun z => absurd ((own_B1 q3 q5).symm.trans z) (by decide))) (fun hc133_18 => ?_)
    refine g_dload X17 hx hby at_136 (pc' := 138) rfl rfl ?_
    refine g_dload X17 hx hby at_138 (pc' := 140) rfl rfl ?_
    refine g_callS X17 hx hZ hown (W := 0) (argsL := [.double (FP.l2d (bigL q3)), .double (FP.l2d ((bigL q3) + (hiL q5)))]) (rest := []) hby at_140 (pc' := 143) rfl (by rw [hml]; rfl) (w_1 hw) (w_2 hw) (w_3 hw) (w_4 hw) (by decide) (rm1 l Z a0 hw [] (FP.l2d (bigL q3)) (FP.l2d ((bigL q3) + (hiL q5))) h0 n0 (own_n1 _) (own_n2 _)) e17 (by decide) (by decide) (by decide) (by decide) rfl pd__28DD_29Z rfl rfl (Nat.le_of_eq rfl) ?_
    rintro _ T19 L19 X19 ⟨rfl, N19q, e19⟩
    have N19 := Fr.app N17 N19q
    show GoE p e below _ (T19.setTop (mkF m 143 #[.val (.int q1), .val (.int q2), .val (.long q3), .second, .val (.int q4), .val (.int q5), .val (.int (q1 &&& (2147483647 : Int32))), .val (.int (q2 &&& (2147483647 : Int32))), .val (.int (1 : Int32)), .val (.long (bigL q3)), .second, .val (.long (loL q4)), .second, .val (.long (hiL q5)), .second, .val (.double (FP.l2d (bigL q3))), .second, .val (.double (FP.l2d ((bigL q3) + (loL q4)))), .second, .val (.double (FP.l2d ((bigL q3) + (hiL q5)))), .second, .val (.int (1 : Int32)), .unset] [.int (isHi (FP.l2d (bigL q3)) (FP.l2d ((bigL q3) + (hiL q5))))]))
    refine g_if_ne X19 hx hby at_143 (by decide) (pc' := 150) (by decide) (pn := 146) rfl (fun z => absurd z (fun z => z (own_B2 q3 q5))) (fun hc143_20 => ?_)
    refine g_iconst X19 hx hby at_146 (pc' := 147) rfl (z := (1 : Int32)) rfl ?_
    refine g_goto X19 hx hby at_147 (by decide) (pc' := 151) (by decide) ?_
    refine g_istore X19 hx hby at_151 (pc' := 153) rfl (l' := #[.val (.int q1), .val (.int q2), .val (.long q3), .second, .val (.int q4), .val (.int q5), .val (.int (q1 &&& (2147483647 : Int32))), .val (.int (q2 &&& (2147483647 : Int32))), .val (.int (1 : Int32)), .val (.long (bigL q3)), .second, .val (.long (loL q4)), .second, .val (.long (hiL q5)), .second, .val (.double (FP.l2d (bigL q3))), .second, .val (.double (FP.l2d ((bigL q3) + (loL q4)))), .second, .val (.double (FP.l2d ((bigL q3) + (hiL q5)))), .second, .val (.int (1 : Int32)), .val (.int (1 : Int32))]) rfl ?_
    refine g_iload X19 hx hby at_153 (pc' := 155) rfl rfl ?_
    refine g_if_eq X19 hx hby at_155 (by decide) (pc' := 172) (by decide) (pn := 158) rfl (fun z => absurd z (by decide)) (fun _ => ?_)
    refine g_iload X19 hx hby at_158 (pc' := 160) rfl rfl ?_
    refine g_if_eq X19 hx hby at_160 (by decide) (pc' := 172) (by decide) (pn := 163) rfl (fun z => absurd z (by decide)) (fun _ => ?_)
    refine g_iload X19 hx hby at_163 (pc' := 165) rfl rfl ?_
    refine g_if_eq X19 hx hby at_165 (by decide) (pc' := 172) (by decide) (pn := 168) rfl (fun z => absurd z (by decide)) (fun _ => ?_)
    refine g_iconst X19 hx hby at_168 (pc' := 169) rfl (z := (1 : Int32)) rfl ?_
    refine g_goto X19 hx hby at_169 (by decide) (pc' := 173) (by decide) ?_
    exact g_retN (Q := (fun v h L => v = some (.int 1) ∧ Fr n0 L)) (w := (1 : Int32)) X19 hx hby at_173 hret (by simp) (by first | decide | rfl) hlk (by decide) (by decide) ⟨rfl, N19⟩
set_option maxRecDepth 65536 in
set_option maxHeartbeats 40000000 in
theorem comes_1 {Post : Tables → Env → Array Value → State → Outcome → State → Prop} (hpost : ∀ tb e args s v u, (limb_1_1.after args s (.returned v) u = true ∧ limb_1_2.after args s (.returned v) u = true ∧ True) → FrameEnd s (.returned v) u (Jvm.fieldLocs frame_1_writes args s ++ Jvm.arrayLocs frame_1_arrays args s ++ Jvm.staticLocs frame_1_statics s) 0 0 → Post tb e args s (.returned v) u) :
    ArmFor flags0 classFile x code maxLocals ret World_1 tables_1 room_1 Calls_1 rest_1 Pre_1 Post := by
  intro l hfl _ _ p e ha hc hk s m args below hf hA hF happ hP
  obtain ⟨hcalls, hrest, hpre⟩ := hP
  obtain ⟨-, -, -, hnamed, -, -, -, hat⟩ := (Spec.applies_iff hf).mp happ
  obtain ⟨hg, hn⟩ := and_e (Cond.before_iff.mp (show (Jvm.Cond.and given_1 narrow_1).before args s = true from hpre))
  obtain ⟨h1, g0⟩ := and_e hg
  obtain ⟨a0, g1⟩ := and_e g0
  obtain ⟨a1, g2⟩ := and_e g1
  obtain ⟨a2, g3⟩ := and_e g2
  obtain ⟨a3, g4⟩ := and_e g3
  have a4 := g4
  obtain ⟨u0, u1, u2, u3, u4, rfl⟩ : ∃ u0 u1 u2 u3 u4 : Value, args = #[u0, u1, u2, u3, u4] := by
    have hs : args.size = 5 := by simpa [Cond.value, given_1] using h1
    obtain ⟨L⟩ := args
    match L, hs with
    | [u0, u1, u2, u3, u4], _ => exact ⟨u0, u1, u2, u3, u4, rfl⟩
  have hw := fun d (hd : d ∈ tables_1) => atoms_spec (ws := Jvm.Cond.code x code maxLocals ret :: tables_1) hat d (List.mem_cons_of_mem _ hd)
  have hfit : Fit s := fun {y c} hc i hi => by
    obtain ⟨ha, rfl⟩ := Array.getElem?_eq_some_iff.mp hc
    have q := List.all_eq_true.mp ((Array.all_eq_true_iff_forall_mem.mp hF) _ (Array.getElem_mem ha)) i (List.mem_range.mpr hi)
    simpa [Array.getElem?_eq_getElem hi] using q
  obtain ⟨i0, e0⟩ := is_v a0
  obtain rfl : u0 = (.int i0) := Option.some.inj e0
  obtain ⟨i1, e1⟩ := is_v a1
  obtain rfl : u1 = (.int i1) := Option.some.inj e1
  obtain ⟨i2, e2⟩ := isL_v a2
  obtain rfl : u2 = (.long i2) := Option.some.inj e2
  obtain ⟨i3, e3⟩ := is_v a3
  obtain rfl : u3 = (.int i3) := Option.some.inj e3
  obtain ⟨i4, e4⟩ := is_v a4
  obtain rfl : u4 = (.int i4) := Option.some.inj e4
  obtain ⟨n, o, h1, h2, h3, _, L, rfl, ⟨rfl, N⟩, hq⟩ := rm0 l s _ hw tables_1 i0 i1 i2 i3 i4  s.heap s.heap.size  p e ha hc hk s m _ below hf ((Spec.applies_iff_loose hf).mp happ).1 ⟨rfl, State.Warmed39.refl s, rfl⟩ trivial
  refine ⟨n, _, h1, h2, h3, hpost _ _ _ _ _ _ ⟨Cond.after_iff.mpr rfl, Cond.after_iff.mpr (eq_i res_at (Term.int_eval (1)) rfl), trivial⟩ ⟨hq.1, hq.2.1, (hq.2.2.sift fun y hy => Or.inr (N y hy)).mono (by decide) (by decide)⟩⟩
theorem main_1_1 : Claimed_1_1 := comes_1 fun _ _ _ _ _ _ h hF => ⟨h.1, hF⟩
theorem main_1_2 : Claimed_1_2 := comes_1 fun _ _ _ _ _ _ h hF => ⟨h.2.1, hF⟩
end Jvm.Pilot.@@N@@
namespace Jvm.Pilot.@@N@@
open Jvm Jvm.ClassFile Sem Op Lib Jvm.Free Jvm.Stand Jvm.Pilot.@@N@@.Jvm.D
/-! MADE BY PROGRAM (witnessworld.py) out of the Statement's table words and the real class files: 9 classes; the members and pool entries that the words name. The judged class is class 1, her method 1. -/
namespace start1
open Jvm.ClassFile
def u (s : String) : CpInfo := .utf8 (stringToUtf16 s)
/-- a pool by its gaps: so many unusable entries, then the entry; so many at the end -/
def gap : Nat → List CpInfo → List CpInfo
  | 0, r => r
  | n + 1, r => .unusable :: gap n r
def poolList (es : List (Nat × CpInfo)) (last : Nat) : List CpInfo := es.foldr (fun e r => gap e.1 (e.2 :: r)) (gap last [])
def pool (es : List (Nat × CpInfo)) (last : Nat) : Array CpInfo := ⟨poolList es last⟩
def fileOf (pool : Array CpInfo) (this : Nat) (attrs : Array Attribute := #[]) (ms : Array MethodInfo := #[]) (fl : Nat := 33) (sup : Nat := 0) (ifs : Array Nat := #[]) (fds : Array FieldInfo := #[]) : ClassFile where
  minorVersion := 0
  majorVersion := 65
  constantPool := pool
  accessFlags := fl
  thisClass := this
  superClass := sup
  interfaces := ifs
  fields := fds
  methods := ms
  attributes := attrs
def plain (name : String) (sup : Option ClassId) : Class where
  name := name
  kind := .ordinary
  loader := none
  accessFlags := 33
  super := sup
  interfaces := #[]
  cf := none
  fields := #[]
  methods := #[]
  instanceTypes := #[]
  staticTypes := #[]
  resolved := #[]
  callSites := []
  init := .initialized
  statics := none
  mirror := none

def pool0 : Array CpInfo := pool [(5, u "<init>"), (0, u "()V"), (1, .class_ 10), (1, u "java/lang/Object")] 113

def k0m0 : Method := { name := "<init>", desc := "()V", sig := { parameters := [], returnType := none }, accessFlags := 1, code := none }
/-- java/lang/Object -/
def k0 : Class := { plain "java/lang/Object" none with
  accessFlags := 33
  interfaces := #[]
  cf := some (fileOf pool0 8 #[] #[{ accessFlags := 1, nameIndex := 5, descriptorIndex := 6, attributes := #[] }] 33 0 #[] #[])
  fields := #[]
  methods := #[k0m0]
  instanceTypes := #[]
  staticTypes := #[]
  resolved := Array.replicate 124 none
  statics := none }

def pool1 : Array CpInfo := pool [(2, .class_ 4), (1, u "java/lang/Object"), (0, u "<init>"), (0, u "()V"), (0, .integer 2147483647), (0, .methodref 9 10), (0, .class_ 11), (0, .nameAndType 12 13), (0, u "com/example/nearsay/nearsay/trace/Scores"), (0, u "isHigher"), (0, u "(DD)Z"), (0, .long 4503599627370496), (1, .long 2251799813685247), (1, .long 6756), (1, .integer 16777215), (0, .class_ 22), (0, u "com/example/nearsay/nearsay/trace/ScoresIsHigherPinLaw"), (2, u "law"), (0, u "(IIJII)Z")] 3

def k1m0 : Method := { name := "<init>", desc := "()V", sig := { parameters := [], returnType := none }, accessFlags := 1, code := none }
def k1c1 : Code := { maxStack := 6, maxLocals := 23, code := code, exceptionTable := #[], attributes := #[] }
def k1m1 : Method := { name := "law", desc := "(IIJII)Z", sig := { parameters := [.int, .int, .long, .int, .int], returnType := some .boolean }, accessFlags := 9, code := some k1c1 }
/-- com/example/nearsay/nearsay/trace/ScoresIsHigherPinLaw -/
def k1 : Class := { plain "com/example/nearsay/nearsay/trace/ScoresIsHigherPinLaw" (some 0) with
  accessFlags := 49
  interfaces := #[]
  cf := some (fileOf pool1 21 #[] #[{ accessFlags := 1, nameIndex := 5, descriptorIndex := 6, attributes := #[] }, { accessFlags := 9, nameIndex := 25, descriptorIndex := 26, attributes := #[] }] 49 2 #[] #[])
  fields := #[]
  methods := #[k1m0, k1m1]
  instanceTypes := #[]
  staticTypes := #[]
  resolved := Array.replicate 30 none
  statics := none }

def pool2 : Array CpInfo := pool [(2, .class_ 4), (1, u "java/lang/Object"), (0, u "<init>"), (0, u "()V"), (0, .class_ 8), (0, u "com/example/nearsay/nearsay/trace/Scores"), (0, .double 4427486594234968593), (33, u "isHigher"), (0, u "(DD)Z"), (4, u "TOLERANCE"), (0, u "D")] 10

def k2m0 : Method := { name := "<init>", desc := "()V", sig := { parameters := [], returnType := none }, accessFlags := 2, code := none }
def k2c1 : Code := { maxStack := 8, maxLocals := 4, code := prog_37_method_2_code, exceptionTable := #[], attributes := #[] }
def k2m1 : Method := { name := "isHigher", desc := "(DD)Z", sig := { parameters := [.double, .double], returnType := some .boolean }, accessFlags := 9, code := some k2c1 }
/-- com/example/nearsay/nearsay/trace/Scores -/
def k2 : Class := { plain "com/example/nearsay/nearsay/trace/Scores" (some 0) with
  accessFlags := 33
  interfaces := #[]
  cf := some (fileOf pool2 7 #[] #[{ accessFlags := 2, nameIndex := 5, descriptorIndex := 6, attributes := #[] }, { accessFlags := 9, nameIndex := 43, descriptorIndex := 44, attributes := #[] }] 33 2 #[] #[{ accessFlags := 25, nameIndex := 49, descriptorIndex := 50, attributes := #[] }])
  fields := #[{ name := "TOLERANCE", type := .double, accessFlags := 25, slot := 0, constantValue := 0 }]
  methods := #[k2m0, k2m1]
  instanceTypes := #[]
  staticTypes := #[.double]
  resolved := Array.replicate 61 none
  statics := none }

def pool3 : Array CpInfo := pool [(1, u "java/lang/Cloneable"), (0, .class_ 1), (0, u "java/lang/Object"), (0, .class_ 3)] 3

/-- java/lang/Cloneable -/
def k3 : Class := { plain "java/lang/Cloneable" (some 0) with
  accessFlags := 1537
  interfaces := #[]
  cf := some (fileOf pool3 2 #[] #[] 1537 4 #[] #[])
  fields := #[]
  methods := #[]
  instanceTypes := #[]
  staticTypes := #[]
  resolved := Array.replicate 8 none
  statics := none }

def pool4 : Array CpInfo := pool [(1, u "java/io/Serializable"), (0, .class_ 1), (0, u "java/lang/Object"), (0, .class_ 3)] 3

/-- java/io/Serializable -/
def k4 : Class := { plain "java/io/Serializable" (some 0) with
  accessFlags := 1537
  interfaces := #[]
  cf := some (fileOf pool4 2 #[] #[] 1537 4 #[] #[])
  fields := #[]
  methods := #[]
  instanceTypes := #[]
  staticTypes := #[]
  resolved := Array.replicate 8 none
  statics := none }

/-- the primitive byte -/
def k5 : Class := { plain "byte" none with kind := .primitive 'B', accessFlags := 0x411 }
/-- [B -/
def k6 : Class := { plain "[B" (some 0) with kind := .array 5 .byte, interfaces := #[3, 4], accessFlags := 1041 }

/-- the primitive int -/
def k7 : Class := { plain "int" none with kind := .primitive 'I', accessFlags := 0x411 }
/-- [I -/
def k8 : Class := { plain "[I" (some 0) with kind := .array 7 .int, interfaces := #[3, 4], accessFlags := 1041 }

def heap : Heap := #[]
def classes : Array Class := #[k0, k1, k2, k3, k4, k5, k6, k7, k8]
def interned : List (Array UInt16 × Addr) := []
def slotsUsed : Nat := 0
def theMethod : MethodId := ⟨1, 1⟩
def args0 : Array Value := #[.int 5, .int 7, .long 3, .int 9, .int 4]
def aboutOver (below : List Frame) : State where
  vm := { classes := classes, interned := interned.toArray }
  heap := heap
  slotsUsed := slotsUsed
  threads := #[{ frames := .invoking theMethod args0 :: below }]
def below0 : List Frame := [.native { method := ⟨0, 0⟩, args := #[] }]
def about1 : State := aboutOver below0
def p0 : Program := .bare "" "" ""
def e0 : Env := launch0.env 0 0 0
theorem w_frames : about1.frames = Frame.invoking theMethod args0 :: below0 := rfl
set_option maxRecDepth 65536 in
theorem w_args : argsFit about1.vm theMethod args0 = true := by decide +kernel
set_option maxRecDepth 65536 in
theorem w_heap : heapFits about1 = true := by decide +kernel
set_option maxRecDepth 65536 in
theorem w_runnable : about1.curStatus? = some .runnable := by decide +kernel
set_option maxRecDepth 65536 in
theorem w_alone : about1.alone = true := by decide +kernel
set_option maxRecDepth 65536 in
theorem w_named : about1.methodNamed? x = some theMethod := by decide +kernel
set_option maxRecDepth 65536 in
theorem w_hears : about1.hears theMethod below0 = true := by decide +kernel
set_option maxRecDepth 65536 in
theorem w_ripe : about1.ripe theMethod args0 below0 = true := by decide +kernel
theorem w_running : about1.status = .running := rfl
set_option maxRecDepth 65536 in
theorem w_room : about1.hasRoom e0.platform room_1 = true :=
  launch0.hasRoom_least _ room_1 (by decide +kernel) (by decide +kernel) (by decide +kernel) (by decide +kernel) (by decide +kernel) (by decide +kernel)
theorem allAtoms_all (ts : List Jvm.Cond) (a : Array Jvm.Value) (st : Jvm.State) : (allAtoms ts).before a st = ts.all (fun c => c.before a st) := by
  induction ts with
  | nil => rfl
  | cons c t ih =>
    show (Jvm.Cond.and c (allAtoms t)).before a st = _
    rw [Jvm.Cond.before_and, ih, List.all_cons]
def words1 : List Jvm.Cond := Jvm.Cond.code x code maxLocals ret :: tables_1
/-- a 'code' word, met by the world's own term for the bytes: nothing is compared byte by byte -/
theorem code_word {y : MethodName} {bytes : ByteArray} {mx : Nat} {rt : Option FieldType} {a : Array Value} {s : State} {m : MethodId} {meth : Method} {c : Code} (h1 : s.methodNamed? y = some m) (h2 : s.vm.method? m = some meth) (h3 : meth.code = some c) (h4 : c.code = bytes)
    (h5 : (c.maxLocals == mx && c.exceptionTable.isEmpty && decide (c.maxStack ≤ mostOperands) && decide (meth.sig.returnType = rt) && !meth.locks && decide (parseMethodDescriptor y.desc = some meth.sig)) = true) : (Jvm.Cond.code y bytes mx rt).before a s = true := by
  simp only [Bool.and_eq_true, beq_iff_eq, Bool.not_eq_true', decide_eq_true_eq] at h5
  obtain ⟨⟨⟨⟨⟨g1, g2⟩, g3⟩, g4⟩, g5⟩, g6⟩ := h5
  simp [Cond.before, Cond.holds, Cond.value, h1, h2, h3, h4, g1, g2, g3, g4, g5, g6]
def isCode : Jvm.Cond → Bool
  | .code _ _ _ _ => true
  | _ => false
theorem all_split {L : List Jvm.Cond} {P : Jvm.Cond → Bool} (h1 : L.all (fun c => isCode c || P c) = true) (h2 : ∀ c ∈ L.filter isCode, P c = true) : L.all P = true := by
  refine List.all_eq_true.mpr fun c hc => ?_
  have h := List.all_eq_true.mp h1 c hc
  rcases Bool.eq_false_or_eq_true (isCode c) with hi | hi
  · exact h2 c (List.mem_filter.mpr ⟨hc, hi⟩)
  · simpa [hi] using h
set_option maxRecDepth 65536 in
theorem w_c0 : (Jvm.Cond.code x code maxLocals ret).before args0 about1 = true := code_word (m := ⟨1, 1⟩) (meth := k1m1) (c := k1c1) (by decide +kernel) rfl rfl rfl (by decide +kernel)
set_option maxRecDepth 65536 in
theorem w_c1 : (Jvm.Cond.code ({ cls := "com/example/nearsay/nearsay/trace/Scores", name := "isHigher", desc := "(DD)Z" } : Jvm.MethodName) prog_37_method_2_code (4 : Nat) (Option.some Jvm.ClassFile.FieldType.boolean)).before args0 about1 = true := code_word (m := ⟨2, 1⟩) (meth := k2m1) (c := k2c1) (by decide +kernel) rfl rfl rfl (by decide +kernel)
def codes1 : List Jvm.Cond := [Jvm.Cond.code x code maxLocals ret, Jvm.Cond.code ({ cls := "com/example/nearsay/nearsay/trace/Scores", name := "isHigher", desc := "(DD)Z" } : Jvm.MethodName) prog_37_method_2_code (4 : Nat) (Option.some Jvm.ClassFile.FieldType.boolean)]
set_option maxRecDepth 65536 in
theorem codes_eq : words1.filter isCode = codes1 := rfl
theorem w_codes : ∀ c ∈ words1.filter isCode, c.before args0 about1 = true := by
  rw [codes_eq]
  intro c hc
  simp only [codes1, List.mem_cons, List.not_mem_nil, or_false] at hc
  rcases hc with rfl | rfl
  · exact w_c0
  · exact w_c1
set_option maxRecDepth 65536 in
theorem w_t1 : words1.all (fun c => isCode c || c.before args0 about1) = true := by decide +kernel
theorem w_tables : (allAtoms (Jvm.Cond.code x code maxLocals ret :: tables_1)).before args0 about1 = true := by
  rw [allAtoms_all]
  show words1.all (fun c => c.before args0 about1) = true
  refine all_split ?_ w_codes
  rw [w_t1]
set_option maxRecDepth 65536 in
theorem w_case : (Jvm.Cond.and given_1 narrow_1).before args0 about1 = true := by decide +kernel
theorem w_applies : (headSpec (Jvm.Cond.code x code maxLocals ret :: tables_1) room_1).applies x e0.platform about1 = true :=
  (Spec.applies_iff w_frames).mpr ⟨w_running, w_runnable, w_alone, w_named, w_hears, w_ripe, w_room, w_tables⟩
theorem atStart : AtStart classFile x code maxLocals ret World_1 tables_1 room_1 Calls_1 rest_1 Pre_1 launch0 p0 e0 about1 theMethod args0 below0 :=
  ⟨lists_1, trivial, launch0.admits_env _ _ _, launch0.least_env, fairChoices_fair.cas, fairChoices_fair.clock, w_frames, w_args, w_heap, w_applies, trivial, trivial, w_case⟩
end start1
theorem witness_1 : WitnessClaimed_1 := ⟨start1.p0, start1.e0, start1.about1, start1.theMethod, start1.args0, start1.below0, start1.atStart⟩
end Jvm.Pilot.@@N@@
