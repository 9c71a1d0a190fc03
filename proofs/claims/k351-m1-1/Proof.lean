import JvmDerived
import JvmDerived.Pilot.@@N@@Statement
import JvmDerived.Pilot.@@N@@Code
set_option linter.unusedVariables false
set_option linter.unusedSimpArgs false
namespace Jvm.RoadKit
open Sem ClassFile Op Lib Jvm.Stand Jvm.Free Jvm.LawKit
section New
variable {p : Program} {l : Launch} {e : Env} {R : Room} {s : State} {m : MethodId} {args : Array Value} {below : List Frame} {meth : Method} {c : Code} {T : State} {locs : List Loc} {cells slots : Nat}
theorem retI (X : Stand p l e R s m args below meth c T locs cells slots) (hx : p.tables.exec = Jvm.exec) {pc : Nat} {Ls : Array Slot} {z : Int32} {rest : List Value} (hret : meth.sig.returnType = some .int) (hd : decode c.code pc = .ok (.ireturn, 1)) {fs : List Frame}
    (hl : ∀ (f : JFrame) (acts : List Action), f.method = m → f.locked = none → f.entered = [] → (doReturn e (T.setTop f) acts (some (.int z))).1 = T.setFrames fs) : Steps p.tables e below (T.setTop (mkF m pc Ls (.int z :: rest))) (T.setFrames fs) := by
  have hm' : T.vm.method? m = some meth := X.method'
  have hn : narrow .int (.int z) = .int z := rfl
  show Steps p.tables e below (T.setTop { method := m, pc := pc, locals := Ls, stack := _ :: rest, locked := none }) _
  jvm_step X.here [X.here.top, hx, hd, hm', hret, hn]
  first | (intro acts; rw [hl _ acts rfl rfl rfl]) | rw [hl _ _ rfl rfl rfl]
  exact Steps.refl _
end New
end Jvm.RoadKit
namespace Jvm.Pilot.@@N@@
section OwnFP
open Jvm.FP.Core
/-- the double nearest to n / d * 2^e -/
def own_Q (n d : Nat) (e : Int) : UInt64 := of64 (roundRatio b64 false n d e)
theorem own_Qval (n : Nat) {d : Nat} (hd : 0 < d) (e : Int) : val64 (own_Q n d e) = roundRatio b64 false n d e := val64_of64 (roundRatio_fits good_b64 false n hd e)
theorem own_Qnn (n : Nat) {d : Nat} (hd : 0 < d) (e : Int) : val64 (own_Q n d e) ≠ .nan := by rw [own_Qval n hd]; exact roundRatio_ne_nan _ _ _ _ _
theorem own_Qcongr {A B A' B' : Nat} {e e' : Int} (hB : 0 < B) (hB' : 0 < B') (h : A * B' * 2 ^ (e - e').toNat = A' * B * 2 ^ (e' - e).toNat) : own_Q A B e = own_Q A' B' e' := congrArg of64 (roundRatio_congr hB hB' h)
theorem own_exact {c : Nat} {q : Int} (hc : c < 9007199254740992) (h1 : -1074 ≤ q) (h2 : q ≤ 900) : ∃ q0 : Int, q0 ≤ q ∧ -1074 ≤ q0 ∧ val64 (own_Q c 1 q) = .fin false (c * 2 ^ (q - q0).toNat) q0 := by
  rw [own_Qval c (by decide)]
  have em : b64.qmin = -1074 := by decide
  have ep : (b64.p : Int) = 53 := rfl
  have ex : b64.qmax = 971 := by decide
  unfold roundRatio
  by_cases h0 : c = 0
  · refine ⟨-1074, h1, by decide, ?_⟩
    rw [if_pos h0, h0, Nat.zero_mul, em]
  · have hp : 0 < c := by omega
    have hl : leading c 1 ≤ 52 := by
      have h3 : c.log2 < 53 := (Nat.log2_lt h0).mpr hc
      have h4 : (1 : Nat).log2 = 0 := by decide
      unfold leading
      dsimp only
      rw [h4]
      split <;> omega
    have hq : quantum b64 c 1 q ≤ q := by unfold quantum; rw [em, ep]; omega
    have hqm := quantum_ge b64 c 1 q
    have hb := (units_below c 1 q (quantum b64 c 1 q) b64.p).mpr (quantum_below hp (by decide) q)
    refine ⟨quantum b64 c 1 q, hq, by omega, ?_⟩
    rw [if_neg h0]
    unfold roundAt
    have hd : unitsDen 1 q (quantum b64 c 1 q) = 1 := by
      unfold unitsDen
      rw [show (quantum b64 c 1 q - q).toNat = 0 by omega]
    rw [hd] at hb ⊢
    have hn : nearest (unitsNum c q (quantum b64 c 1 q)) 1 = unitsNum c q (quantum b64 c 1 q) := by
      have z := nearest_exact (B := 1) (unitsNum c q (quantum b64 c 1 q)) (by decide)
      rwa [Nat.mul_one] at z
    rw [hn]
    unfold settle
    rw [if_pos (by simpa using hb)]
    unfold bound
    rw [if_pos (by omega)]
    rfl
theorem own_un (c : Nat) {q x M : Int} (h1 : x ≤ q) (h2 : M ≤ x) : inUnits (c * 2 ^ (q - x).toNat) x M = c * 2 ^ (q - M).toNat := by
  unfold inUnits
  rw [Nat.mul_assoc, ← Nat.pow_add]
  congr 2; omega
theorem own_fadd {c d : Nat} {q r m : Int} (hc : c < 9007199254740992) (hd : d < 9007199254740992) (q1 : -1074 ≤ q) (q2 : q ≤ 900) (r1 : -1074 ≤ r) (r2 : r ≤ 900) (hq : m ≤ q) (hr : m ≤ r) : Jvm.FP.dadd (own_Q c 1 q) (own_Q d 1 r) = own_Q (c * 2 ^ (q - m).toNat + d * 2 ^ (r - m).toNat) 1 m := by
  obtain ⟨x, x1, x2, ex⟩ := own_exact hc q1 q2
  obtain ⟨y, y1, y2, ey⟩ := own_exact hd r1 r2
  show of64 (round b64 (exactSum (val64 (own_Q c 1 q)) (val64 (own_Q d 1 r)))) = _
  rw [ex, ey]
  have u1 := own_un c (q := q) (x := x) (M := min x y) x1 (by omega)
  have u2 := own_un d (q := r) (x := y) (M := min x y) y1 (by omega)
  have hs : exactSum (.fin false (c * 2 ^ (q - x).toNat) x) (.fin false (d * 2 ^ (r - y).toNat) y) = .fin false (c * 2 ^ (q - min x y).toNat + d * 2 ^ (r - min x y).toNat) (min x y) := by
    have e1 : sumUnits false (c * 2 ^ (q - x).toNat) x false (d * 2 ^ (r - y).toNat) y (min x y) = ((c * 2 ^ (q - min x y).toNat + d * 2 ^ (r - min x y).toNat : Nat) : Int) := by
      unfold sumUnits signed; rw [u1, u2]; simp
    show Datum.fin _ _ _ = _
    rw [e1]
    generalize (c * 2 ^ (q - min x y).toNat + d * 2 ^ (r - min x y).toNat) = N
    have e2 : sumSign false false (N : Int) = false := by
      unfold sumSign
      split
      · rfl
      · exact decide_eq_false (by omega)
    rw [e2, Int.natAbs_natCast]
  rw [hs]
  show own_Q _ 1 (min x y) = _
  refine own_Qcongr (by decide) (by decide) ?_
  rw [Nat.mul_one, Nat.mul_one, Nat.add_mul, Nat.add_mul, Nat.mul_assoc, Nat.mul_assoc, Nat.mul_assoc, Nat.mul_assoc, ← Nat.pow_add, ← Nat.pow_add, ← Nat.pow_add, ← Nat.pow_add]
  rw [show (q - min x y).toNat + (min x y - m).toNat = (q - m).toNat + (m - min x y).toNat by omega, show (r - min x y).toNat + (min x y - m).toNat = (r - m).toNat + (m - min x y).toNat by omega]
theorem own_fsub {c d : Nat} {q r m : Int} (hc : c < 9007199254740992) (hd : d < 9007199254740992) (q1 : -1074 ≤ q) (q2 : q ≤ 900) (r1 : -1074 ≤ r) (r2 : r ≤ 900) (hq : m ≤ q) (hr : m ≤ r) (hle : d * 2 ^ (r - m).toNat ≤ c * 2 ^ (q - m).toNat) : Jvm.FP.dsub (own_Q c 1 q) (own_Q d 1 r) = own_Q (c * 2 ^ (q - m).toNat - d * 2 ^ (r - m).toNat) 1 m := by
  obtain ⟨x, x1, x2, ex⟩ := own_exact hc q1 q2
  obtain ⟨y, y1, y2, ey⟩ := own_exact hd r1 r2
  show of64 (round b64 (exactSum (val64 (own_Q c 1 q)) (negate (val64 (own_Q d 1 r))))) = _
  rw [ex, ey]
  have u1 := own_un c (q := q) (x := x) (M := min x y) x1 (by omega)
  have u2 := own_un d (q := r) (x := y) (M := min x y) y1 (by omega)
  have key : ∀ (z : Nat) (s : Int), m ≤ s → min x y ≤ s → z * 2 ^ (s - min x y).toNat * 2 ^ (min x y - m).toNat = z * 2 ^ (s - m).toNat * 2 ^ (m - min x y).toNat := fun z s h1 h2 => by
    rw [Nat.mul_assoc, Nat.mul_assoc, ← Nat.pow_add, ← Nat.pow_add, show (s - min x y).toNat + (min x y - m).toNat = (s - m).toNat + (m - min x y).toNat by omega]
  have k1 := key c q hq (by omega)
  have k2 := key d r hr (by omega)
  have hle2 : d * 2 ^ (r - min x y).toNat ≤ c * 2 ^ (q - min x y).toNat := by
    have z := Nat.mul_le_mul_right (2 ^ (m - min x y).toNat) hle
    rw [← k1, ← k2] at z
    exact Nat.le_of_mul_le_mul_right z (Nat.two_pow_pos _)
  have hs : exactSum (.fin false (c * 2 ^ (q - x).toNat) x) (negate (.fin false (d * 2 ^ (r - y).toNat) y)) = .fin false (c * 2 ^ (q - min x y).toNat - d * 2 ^ (r - min x y).toNat) (min x y) := by
    have e1 : sumUnits false (c * 2 ^ (q - x).toNat) x true (d * 2 ^ (r - y).toNat) y (min x y) = ((c * 2 ^ (q - min x y).toNat - d * 2 ^ (r - min x y).toNat : Nat) : Int) := by
      unfold sumUnits signed; rw [u1, u2]
      generalize c * 2 ^ (q - min x y).toNat = C at *
      generalize d * 2 ^ (r - min x y).toNat = D at *
      simp; omega
    show Datum.fin _ _ _ = _
    rw [show (!false) = true from rfl, e1]
    generalize (c * 2 ^ (q - min x y).toNat - d * 2 ^ (r - min x y).toNat) = N
    have e2 : sumSign false true (N : Int) = false := by
      unfold sumSign
      split
      · rfl
      · exact decide_eq_false (by omega)
    rw [e2, Int.natAbs_natCast]
  rw [hs]
  show own_Q _ 1 (min x y) = _
  refine own_Qcongr (by decide) (by decide) ?_
  rw [Nat.mul_one, Nat.mul_one, Nat.sub_mul, Nat.sub_mul, k1, k2]
theorem own_fmul {c d : Nat} {q r : Int} (hc : c < 9007199254740992) (hd : d < 9007199254740992) (q1 : -1074 ≤ q) (q2 : q ≤ 900) (r1 : -1074 ≤ r) (r2 : r ≤ 900) : Jvm.FP.dmul (own_Q c 1 q) (own_Q d 1 r) = own_Q (c * d) 1 (q + r) := by
  obtain ⟨x, x1, x2, ex⟩ := own_exact hc q1 q2
  obtain ⟨y, y1, y2, ey⟩ := own_exact hd r1 r2
  show of64 (round b64 (exactProduct (val64 (own_Q c 1 q)) (val64 (own_Q d 1 r)))) = _
  rw [ex, ey]
  show own_Q (c * 2 ^ (q - x).toNat * (d * 2 ^ (r - y).toNat)) 1 (x + y) = _
  refine own_Qcongr (by decide) (by decide) ?_
  rw [Nat.mul_one, Nat.mul_one, Nat.mul_mul_mul_comm, ← Nat.pow_add, Nat.mul_assoc, ← Nat.pow_add]
  congr 2; omega
theorem own_fdiv {c d : Nat} {q r : Int} (hc : c < 9007199254740992) (hd : d < 9007199254740992) (h0 : 0 < d) (q1 : -1074 ≤ q) (q2 : q ≤ 900) (r1 : -1074 ≤ r) (r2 : r ≤ 900) : Jvm.FP.ddiv (own_Q c 1 q) (own_Q d 1 r) = own_Q c d (q - r) := by
  obtain ⟨x, x1, x2, ex⟩ := own_exact hc q1 q2
  obtain ⟨y, y1, y2, ey⟩ := own_exact hd r1 r2
  show of64 (quotient b64 (val64 (own_Q c 1 q)) (val64 (own_Q d 1 r))) = _
  rw [ex, ey]
  have hD : 0 < d * 2 ^ (r - y).toNat := Nat.mul_pos h0 (Nat.two_pow_pos _)
  have hqt : quotient b64 (.fin false (c * 2 ^ (q - x).toNat) x) (.fin false (d * 2 ^ (r - y).toNat) y) = roundRatio b64 false (c * 2 ^ (q - x).toNat) (d * 2 ^ (r - y).toNat) (x - y) := if_neg (by omega)
  rw [hqt]
  show own_Q (c * 2 ^ (q - x).toNat) (d * 2 ^ (r - y).toNat) (x - y) = _
  refine own_Qcongr hD h0 ?_
  have e1 : c * 2 ^ (q - x).toNat * d * 2 ^ (x - y - (q - r)).toNat = c * d * 2 ^ ((q - x).toNat + (x - y - (q - r)).toNat) := by rw [Nat.pow_add]; ac_rfl
  have e2 : c * (d * 2 ^ (r - y).toNat) * 2 ^ (q - r - (x - y)).toNat = c * d * 2 ^ ((r - y).toNat + (q - r - (x - y)).toNat) := by rw [Nat.pow_add]; ac_rfl
  rw [e1, e2]
  congr 2; omega
theorem own_fpow (c k : Nat) (e : Int) : own_Q c (2 ^ k) e = own_Q c 1 (e - k) := by
  refine own_Qcongr (Nat.two_pow_pos _) (by decide) ?_
  rw [Nat.mul_one, show (e - (e - (k : Int))).toNat = k by omega, show (e - (k : Int) - e).toNat = 0 by omega, Nat.pow_zero, Nat.mul_one]
theorem own_i2d {x : Int32} {n : Nat} (h : x.toInt = n) : Jvm.FP.i2d x = own_Q n 1 0 := by
  show of64 (round b64 (ofInt x.toInt)) = _
  rw [h]
  show of64 (roundRatio b64 (decide ((n : Int) < 0)) (n : Int).natAbs 1 0) = _
  rw [decide_eq_false (by omega), Int.natAbs_natCast]; rfl
theorem own_l2d {x : Int64} {n : Nat} (h : x.toInt = n) : Jvm.FP.l2d x = own_Q n 1 0 := by
  show of64 (round b64 (ofInt x.toInt)) = _
  rw [h]
  show of64 (roundRatio b64 (decide ((n : Int) < 0)) (n : Int).natAbs 1 0) = _
  rw [decide_eq_false (by omega), Int.natAbs_natCast]; rfl
theorem own_zv (n : Nat) {d : Nat} (hd : 0 < d) (e : Int) : zval b64 (val64 (own_Q n d e)) = (zmag b64 (roundRatio b64 false n d e) : Int) := by
  rw [own_Qval n hd]; unfold zval; rw [sgn_roundRatio]; rfl
theorem own_zx {c : Nat} {q : Int} (hc : c < 9007199254740992) (h1 : -1074 ≤ q) (h2 : q ≤ 900) : zmag b64 (roundRatio b64 false c 1 q) = c * 2 ^ (q + 1074).toNat := by
  obtain ⟨x, x1, x2, ex⟩ := own_exact hc h1 h2
  rw [own_Qval c (by decide)] at ex
  rw [ex]
  show inUnits (c * 2 ^ (q - x).toNat) x b64.qmin = _
  have em : b64.qmin = -1074 := by decide
  rw [em, own_un c x1 (by omega)]
  congr 2
/-- at most an exact double: the rounded one is no greater -/
theorem own_fle {n d c : Nat} {e q : Int} (hd : 0 < d) (hc : c < 9007199254740992) (q1 : -1074 ≤ q) (q2 : q ≤ 900) (e1 : -1074 ≤ e) (h : n * 2 ^ (e + 1074).toNat ≤ c * 2 ^ (q + 1074).toNat * d) (o : Jvm.ClassFile.CmpOp) : ∃ v : Int32, Jvm.Op.cmpValue (Jvm.FP.dcmp (own_Q n d e) (own_Q c 1 q)) o = v ∧ v.toInt ≤ 0 := by
  have em : b64.qmin = -1074 := by decide
  have hz := zmag_roundRatio_le good_b64 (s := false) (A := n) (e := e) (e0 := -1074) (V := roundRatio b64 false c 1 q) hd (roundRatio_fits good_b64 false c (by decide) q) (roundRatio_ne_nan _ _ _ _ _) (by rw [em]; decide) e1 (by
    rw [own_zx hc q1 q2, em]
    show n * 2 ^ (e - (-1074)).toNat ≤ c * 2 ^ (q + 1074).toNat * 1 * d
    rw [Nat.mul_one, show e - (-1074) = e + 1074 by omega]; exact h)
  have hk : Jvm.FP.dcmp (own_Q n d e) (own_Q c 1 q) = _ := dcmp_zval (own_Qnn n hd e) (own_Qnn c (by decide) q)
  rw [hk, own_zv n hd, own_zv c (by decide), compare_ite]
  refine ⟨_, rfl, ?_⟩
  split
  · cases o <;> decide
  · split
    · cases o <;> decide
    · omega
theorem own_fge0 (n : Nat) {d : Nat} (e : Int) (hd : 0 < d) (o : Jvm.ClassFile.CmpOp) : ∃ v : Int32, Jvm.Op.cmpValue (Jvm.FP.dcmp (own_Q n d e) (own_Q 0 1 0)) o = v ∧ 0 ≤ v.toInt := by
  have hk : Jvm.FP.dcmp (own_Q n d e) (own_Q 0 1 0) = _ := dcmp_zval (own_Qnn n hd e) (own_Qnn 0 (by decide) 0)
  rw [hk, own_zv n hd, own_zv 0 (by decide), own_zx (by decide) (by decide) (by decide), compare_ite]
  refine ⟨_, rfl, ?_⟩
  split
  · rename_i h; simp at h; omega
  · split <;> cases o <;> decide
theorem own_fgt0 {n d : Nat} (hd : 0 < d) (hn : 0 < n) (hb : d < 9007199254740992) (o : Jvm.ClassFile.CmpOp) : Jvm.Op.cmpValue (Jvm.FP.dcmp (own_Q n d 0) (own_Q 0 1 0)) o = 1 := by
  have em : b64.qmin = -1074 := by decide
  have hz := zmag_roundRatio_ge good_b64 (s := false) (A := n) (B := d) (e := 0) (e0 := -1074) (V := .fin false 1 (-1074)) hd (by unfold Jvm.FP.Core.fits; decide) (by rw [em]; decide) (by decide) (by
    have z : zmag b64 (.fin false 1 (-1074)) = 1 := by decide +kernel
    rw [z, em]
    show 1 * 1 * d ≤ n * 2 ^ 1074
    have q : 9007199254740992 ≤ 2 ^ 1074 := by decide +kernel
    have q2 : 2 ^ 1074 ≤ n * 2 ^ 1074 := Nat.le_mul_of_pos_left _ hn
    omega)
  have z : zmag b64 (.fin false 1 (-1074)) = 1 := by decide +kernel
  rw [z] at hz
  have hk : Jvm.FP.dcmp (own_Q n d 0) (own_Q 0 1 0) = _ := dcmp_zval (own_Qnn n hd 0) (own_Qnn 0 (by decide) 0)
  rw [hk, own_zv n hd, own_zv 0 (by decide), own_zx (by decide) (by decide) (by decide), compare_ite, Nat.zero_mul]
  rw [if_neg (by omega), if_neg (by omega)]
  cases o <;> rfl
theorem own_Qno (n : Nat) {d : Nat} (hd : 0 < d) (e : Int) : Jvm.Free.Fl.NoNaN64 (own_Q n d e) := Jvm.Free.Fl.noNaN64_no.mpr (by
  have h := own_Qnn n hd e
  first | exact decide_eq_false h | (unfold Jvm.FP.dIsNaN; exact decide_eq_false h))
theorem own_finf {c : Nat} {q : Int} (hc : c < 9007199254740992) (h1 : -1074 ≤ q) (h2 : q ≤ 900) (o : Jvm.ClassFile.CmpOp) : Jvm.Op.cmpValue (Jvm.FP.dcmp (own_Q c 1 q) 9218868437227405312) o = -1 := by
  obtain ⟨x, x1, x2, ex⟩ := own_exact hc h1 h2
  have hi : val64 9218868437227405312 = .inf false := by decide +kernel
  have hk : Jvm.FP.dcmp (own_Q c 1 q) 9218868437227405312 = order (val64 (own_Q c 1 q)) (val64 9218868437227405312) := rfl
  rw [hk, ex, hi]
  cases o <;> rfl
theorem own_d4 : (4616189618054758400 : UInt64) = own_Q 4 1 0 := by decide +kernel
theorem own_d16 : (4625196817309499392 : UInt64) = own_Q 16 1 0 := by decide +kernel
theorem own_d0 : Jvm.FP.dconst0 = own_Q 0 1 0 := by decide +kernel
theorem own_d1 : Jvm.FP.dconst1 = own_Q 1 1 0 := by decide +kernel
end OwnFP
theorem own_lm {x y : Int64} {n k : Nat} (hx : x.toInt = n) (hy : y.toInt = k) (h : n * k < 9007199254740992) : (x * y).toInt = ((n * k : Nat) : Int) := by
  have e : x.toInt * y.toInt = ((n * k : Nat) : Int) := by rw [hx, hy, Int.natCast_mul]
  rw [Jvm.FP.Core.int64_mul (by rw [e]; omega) (by rw [e]; omega), e]
theorem own_la {x y : Int64} {n k : Nat} (hx : x.toInt = n) (hy : y.toInt = k) (h : n + k < 9007199254740992) : (x + y).toInt = ((n + k : Nat) : Int) := by
  rw [Jvm.FP.Core.int64_add (by omega) (by omega)]; omega
theorem own_lsb {x y : Int64} {n k : Nat} (hx : x.toInt = n) (hy : y.toInt = k) (h : k ≤ n) (h2 : n < 9007199254740992) : (x - y).toInt = ((n - k : Nat) : Int) := by
  rw [Jvm.FP.Core.int64_sub (by omega) (by omega)]; omega
theorem own_shl1 {x : Int32} {n : Nat} (hx : x.toInt = n) (h : n ≤ 15) : ((1 : Int32) <<< (x &&& 31)).toInt = ((2 ^ n : Nat) : Int) := by
  have e : x = Int32.ofNat n := Int32.toInt_inj.mp (by rw [hx, Int32.toInt_ofNat_of_lt (by omega)])
  subst e
  clear hx
  revert n
  decide
theorem own_2e {n : Nat} (h : n ≤ 15) : 1 ≤ 2 ^ n ∧ 2 ^ n ≤ 32768 := by revert n; decide
/-- the bounds of the products -/
theorem own_bds {t d A a j : Nat} (ht : t ≤ 1048576) (hd : d ≤ 2147483647) (hA : A ≤ 32768) (ha : a ≤ 255) (hj : j ≤ 4) : j * A ≤ 131072 ∧ (4 - j) * A ≤ 131072 ∧ j * d ≤ 8589934588 ∧ A * t ≤ 34359738368 ∧ A * t * (a + 4) ≤ 8899172237312 ∧ t * (a + 4) ≤ 271581184 ∧ a * ((4 - j) * A + j * d * 16) ≤ 35046966542400 ∧ 4 * A * t ≤ 137438953472 := by
  have b1 : j * A ≤ 4 * 32768 := Nat.mul_le_mul hj hA
  have b2 : (4 - j) * A ≤ 4 * 32768 := Nat.mul_le_mul (by omega) hA
  have b3 : j * d ≤ 4 * 2147483647 := Nat.mul_le_mul hj hd
  have b4 : A * t ≤ 32768 * 1048576 := Nat.mul_le_mul hA ht
  have b5 : A * t * (a + 4) ≤ 34359738368 * 259 := Nat.mul_le_mul (by omega) (by omega)
  have b6 : t * (a + 4) ≤ 1048576 * 259 := Nat.mul_le_mul ht (by omega)
  have b7 : a * ((4 - j) * A + j * d * 16) ≤ 255 * 137439084480 := Nat.mul_le_mul ha (by omega)
  have b8 : 4 * A * t ≤ 131072 * 1048576 := Nat.mul_le_mul (by omega) ht
  exact ⟨by omega, by omega, by omega, by omega, by omega, by omega, by omega, by omega⟩
section OwnChain
open Jvm.FP
theorem own_q4 {n : Nat} (h : n < 9007199254740992) : ddiv (own_Q n 1 0) (own_Q 4 1 0) = own_Q n 1 (-2) := (own_fdiv h (by decide) (by decide) (by decide) (by decide) (by decide) (by decide)).trans (own_fpow n 2 _)
theorem own_q16 {n : Nat} (h : n < 9007199254740992) : ddiv (own_Q n 1 0) (own_Q 16 1 0) = own_Q n 1 (-4) := (own_fdiv h (by decide) (by decide) (by decide) (by decide) (by decide) (by decide)).trans (own_fpow n 4 _)
theorem own_k1 {a : Nat} (ha : a ≤ 255) : dadd (own_Q a 1 (-2)) (own_Q 1 1 0) = own_Q (a + 4) 1 (-2) := by
  rw [own_fadd (m := -2) (by omega) (by decide) (by decide) (by decide) (by decide) (by decide) (by decide) (by decide)]
  show own_Q (a * 1 + 1 * 4) 1 (-2) = _
  rw [Nat.mul_one]
theorem own_tfn {t d e A a j : Nat} (ht : 1 ≤ t ∧ t ≤ 1048576) (hd : 1 ≤ d ∧ d ≤ 2147483647) (he : e ≤ 15) (hA : A = 2 ^ e) (ha : a ≤ 255) (hj : j ≤ 4) :
    ddiv (own_Q d 1 0) (own_Q A 1 (-4)) = own_Q d 1 (4 - e) ∧ dmul (own_Q t 1 (-2)) (own_Q (a + 4) 1 (-2)) = own_Q (t * (a + 4)) 1 (-4) ∧ dsub (own_Q 1 1 0) (own_Q j 1 (-2)) = own_Q (4 - j) 1 (-2) ∧ dmul (own_Q j 1 (-2)) (own_Q d 1 (4 - e)) = own_Q (j * d) 1 (2 - e) ∧ dadd (own_Q (4 - j) 1 (-2)) (own_Q (j * d) 1 (2 - e)) = own_Q ((4 - j) * A + j * d * 16) 1 (-2 - e) ∧
    dmul (own_Q a 1 (-2)) (own_Q ((4 - j) * A + j * d * 16) 1 (-2 - e)) = own_Q (a * ((4 - j) * A + j * d * 16)) 1 (-4 - e) ∧ dadd (own_Q t 1 (-2)) (own_Q (a * ((4 - j) * A + j * d * 16)) 1 (-4 - e)) = own_Q (4 * A * t + a * ((4 - j) * A + j * d * 16)) 1 (-4 - e) ∧
    ddiv (own_Q (t * (a + 4)) 1 (-4)) (own_Q (4 * A * t + a * ((4 - j) * A + j * d * 16)) 1 (-4 - e)) = own_Q (A * t * (a + 4)) (4 * A * t + a * ((4 - j) * A + j * d * 16)) 0 ∧ 0 < 4 * A * t + a * ((4 - j) * A + j * d * 16) := by
  have h2 := own_2e he
  rw [← hA] at h2
  obtain ⟨b1, b2, b3, b4, b5, b6, b7, b8⟩ := own_bds ht.2 hd.2 h2.2 ha hj
  have hAt : 1 * 1 ≤ A * t := Nat.mul_le_mul h2.1 ht.1
  have hpos : 0 < 4 * A * t := by rw [Nat.mul_assoc]; omega
  refine ⟨?_, ?_, ?_, ?_, ?_, ?_, ?_, ?_, by omega⟩
  · rw [own_fdiv (by omega) (by omega) (by omega) (by decide) (by decide) (by decide) (by decide), hA, own_fpow]; rfl
  · exact own_fmul (by omega) (by omega) (by decide) (by decide) (by decide) (by decide)
  · rw [own_fsub (m := -2) (by decide) (by omega) (by decide) (by decide) (by decide) (by decide) (by decide) (by decide) (by show j * 1 ≤ 1 * 4; omega)]
    show own_Q (1 * 4 - j * 1) 1 (-2) = _
    rw [Nat.mul_one, Nat.one_mul]
  · rw [own_fmul (by omega) (by omega) (by decide) (by decide) (by omega) (by omega)]
    rw [show (-2 : Int) + (4 - (e : Int)) = 2 - e by omega]
  · rw [own_fadd (m := -2 - (e : Int)) (by omega) (by omega) (by decide) (by decide) (by omega) (by omega) (by omega) (by omega)]
    rw [show ((-2 : Int) - (-2 - (e : Int))).toNat = e by omega, show ((2 : Int) - (e : Int) - (-2 - (e : Int))).toNat = 4 by omega, ← hA]
  · rw [own_fmul (by omega) (by omega) (by decide) (by decide) (by omega) (by omega)]
    rw [show (-2 : Int) + (-2 - (e : Int)) = -4 - e by omega]
  · rw [own_fadd (m := -4 - (e : Int)) (by omega) (by omega) (by decide) (by decide) (by omega) (by omega) (by omega) (by omega)]
    rw [show ((-2 : Int) - (-4 - (e : Int))).toNat = e + 2 by omega, show (-4 - (e : Int) - (-4 - (e : Int))).toNat = 0 by omega, Nat.pow_add, ← hA, Nat.pow_zero, Nat.mul_one]
    rw [show t * (A * 2 ^ 2) = 4 * A * t by rw [show (2 : Nat) ^ 2 = 4 from rfl, Nat.mul_comm t, Nat.mul_comm A]]
  · rw [own_fdiv (by omega) (by omega) (by omega) (by decide) (by decide) (by omega) (by omega)]
    refine own_Qcongr (by omega) (by omega) ?_
    rw [show ((-4 : Int) - (-4 - (e : Int)) - 0).toNat = e by omega, show ((0 : Int) - (-4 - (-4 - (e : Int)))).toNat = 0 by omega, ← hA, Nat.pow_zero, Nat.mul_one]
    ac_rfl
theorem own_b1 {j : Nat} (hj : j ≤ 4) (o : Jvm.ClassFile.CmpOp) : ∃ v : Int32, Jvm.Op.cmpValue (dcmp (own_Q j 1 (-2)) (own_Q 1 1 0)) o = v ∧ v.toInt ≤ 0 := by
  refine own_fle (by decide) (by decide) (by decide) (by decide) (by decide) ?_ o
  have e0 : ((0 : Int) + 1074).toNat = 2 + 1072 := by decide
  have e2 : ((-2 : Int) + 1074).toNat = 1072 := by decide
  rw [e0, e2, Nat.pow_add, Nat.one_mul, Nat.mul_one]
  exact Nat.mul_le_mul_right _ hj
theorem own_last {t A a W : Nat} (ha : a ≤ 255) (hW : 0 < 4 * A * t + W) (o : Jvm.ClassFile.CmpOp) : ∃ v : Int32, Jvm.Op.cmpValue (dcmp (own_Q (A * t * (a + 4)) (4 * A * t + W) 0) (own_Q (a + 4) 1 (-2))) o = v ∧ v.toInt ≤ 0 := by
  refine own_fle hW (by omega) (by decide) (by decide) (by decide) ?_ o
  have e0 : ((0 : Int) + 1074).toNat = 1072 + 2 := by decide
  have e2 : ((-2 : Int) + 1074).toNat = 1072 := by decide
  rw [e0, e2, Nat.pow_add]
  generalize (2 : Nat) ^ 1072 = K
  have e1 : A * t * (a + 4) * (K * 2 ^ 2) = (a + 4) * K * (4 * A * t) := by rw [show (2 : Nat) ^ 2 = 4 from rfl]; ac_rfl
  rw [e1]
  exact Nat.mul_le_mul_left _ (Nat.le_add_right _ _)
end OwnChain
end Jvm.Pilot.@@N@@
namespace Jvm.Pilot.@@N@@
open Jvm Jvm.ClassFile Sem Op Lib Jvm.Free Jvm.Stand Jvm.LawKit Jvm.RoadKit Bundle Jvm.Pilot.@@N@@.Jvm.D
section OwnRun
variable {p : Program} {l : Launch} {e : Env} {R : Room} {s : State} {m : MethodId} {args : Array Value} {below : List Frame} {meth : Method} {c : Code} {T T' : State} {locs : List Loc} {cells slots : Nat} {Q : Option Value → Heap → List Loc → Prop} {C S : Nat}
/-- from T with the frame g on top the body comes to its end, and what it leaves is as Q says -/
def ORun (p : Program) (e : Env) (below : List Frame) (s : State) (Q : Option Value → Heap → List Loc → Prop) (C S : Nat) (T : State) (g : JFrame) : Prop :=
  ∃ s₂ o, Steps p.tables e below (T.setTop g) s₂ ∧ s₂.status = .running ∧ Ended s₂ below o ∧ ∃ v L, o = .returned v ∧ Q v s₂.heap L ∧ FrameEnd s o s₂ L C S
theorem own_by {g g' : JFrame} (st : ∀ t, Steps p.tables e below (T'.setTop g') t → Steps p.tables e below (T.setTop g) t) (h : ORun p e below s Q C S T' g') : ORun p e below s Q C S T g := by
  obtain ⟨s₂, o, h1, h2⟩ := h
  exact ⟨s₂, o, st _ h1, h2⟩
theorem own_tr {g g' : JFrame} (st : Steps p.tables e below (T.setTop g) (T'.setTop g')) (h : ORun p e below s Q C S T' g') : ORun p e below s Q C S T g := own_by (fun _ k => st.trans k) h
theorem own_letI (x : Int32) {f : Int32 → JFrame} (h : ∀ v, v = x → ORun p e below s Q C S T (f v)) : ORun p e below s Q C S T (f x) := h x rfl
theorem own_letJ (x : Int64) {f : Int64 → JFrame} (h : ∀ v, v = x → ORun p e below s Q C S T (f v)) : ORun p e below s Q C S T (f x) := h x rfl
theorem own_retI (X : Stand p l e R s m args below meth c T locs cells slots) (hx : p.tables.exec = Jvm.exec) {pc : Nat} {Ls : Array Slot} {z : Int32} {rest : List Value} (hret : meth.sig.returnType = some .int) (hlk : meth.locks = false) (hd : decode c.code pc = .ok (.ireturn, 1)) (hc : cells ≤ C) (hs : slots ≤ S) (hQ : Q (some (.int z)) T.heap locs) :
    ORun p e below s Q C S T (mkF m pc Ls (.int z :: rest)) := by
  obtain ⟨fs, hr, hrun, hended, hW, hsame⟩ := X.leave (v := some (.int z)) (fun h => by rw [hret] at h; cases h) hlk
  exact ⟨_, _, retI X hx hret hd hr, hrun, hended, _, _, rfl, hQ, ⟨_, rfl⟩, hW, hsame.mono hc hs⟩
theorem own_retN (X : Stand p l e R s m args below meth c T locs cells slots) (hx : p.tables.exec = Jvm.exec) {pc : Nat} {Ls : Array Slot} {z : Int32} {t : FieldType} {rest : List Value} (hret : meth.sig.returnType = some t) (ht : t = .boolean ∨ t = .byte ∨ t = .char ∨ t = .short) (hlk : meth.locks = false) (hd : decode c.code pc = .ok (.ireturn, 1)) (hc : cells ≤ C) (hs : slots ≤ S) (hQ : Q (some (.int (nar t z))) T.heap locs) :
    ORun p e below s Q C S T (mkF m pc Ls (.int z :: rest)) := by
  obtain ⟨fs, hr, hrun, hended, hW, hsame⟩ := X.leave (v := some (.int (nar t z))) (fun h => by rw [hret] at h; cases h) hlk
  exact ⟨_, _, retN X hx hret ht hd hr, hrun, hended, _, _, rfl, hQ, ⟨_, rfl⟩, hW, hsame.mono hc hs⟩
theorem own_retJ (X : Stand p l e R s m args below meth c T locs cells slots) (hx : p.tables.exec = Jvm.exec) {pc : Nat} {Ls : Array Slot} {z : Int64} (hret : meth.sig.returnType = some .long) (hlk : meth.locks = false) (hd : decode c.code pc = .ok (.lreturn, 1)) (hc : cells ≤ C) (hs : slots ≤ S) (hQ : Q (some (.long z)) T.heap locs) :
    ORun p e below s Q C S T (mkF m pc Ls [.long z]) := by
  obtain ⟨fs, hr, hrun, hended, hW, hsame⟩ := X.leave (v := some (.long z)) (fun h => by rw [hret] at h; cases h) hlk
  exact ⟨_, _, X.lreturnOut hx hret hd hr, hrun, hended, _, _, rfl, hQ, ⟨_, rfl⟩, hW, hsame.mono hc hs⟩
theorem own_retA (X : Stand p l e R s m args below meth c T locs cells slots) (hx : p.tables.exec = Jvm.exec) {pc : Nat} {Ls : Array Slot} {z : Value} {t : FieldType} {rest : List Value} (hret : meth.sig.returnType = some t) (ht : t.isReference = true) (hz : z.isRef = true) (hn : narrow t z = z) (hlk : meth.locks = false) (hd : decode c.code pc = .ok (.areturn, 1)) (hc : cells ≤ C) (hs : slots ≤ S) (hQ : Q (some z) T.heap locs) :
    ORun p e below s Q C S T (mkF m pc Ls (z :: rest)) := by
  obtain ⟨fs, hr, hrun, hended, hW, hsame⟩ := X.leave (v := some z) (fun h => by rw [hret] at h; cases h) hlk
  exact ⟨_, _, retOut X hx hret hn (Or.inr (Or.inr (Or.inr (Or.inr ⟨rfl, ht, hz⟩)))) hd hr, hrun, hended, _, _, rfl, hQ, ⟨_, rfl⟩, hW, hsame.mono hc hs⟩
theorem own_retV (X : Stand p l e R s m args below meth c T locs cells slots) (hx : p.tables.exec = Jvm.exec) {pc : Nat} {Ls : Array Slot} (hret : meth.sig.returnType = none) (hlk : meth.locks = false) (hd : decode c.code pc = .ok (.return_, 1)) (hc : cells ≤ C) (hs : slots ≤ S) (hQ : Q none T.heap locs) :
    ORun p e below s Q C S T (mkF m pc Ls []) := by
  obtain ⟨fs, hr, hrun, hended, hW, hsame⟩ := X.leave (v := none) (fun _ => rfl) hlk
  exact ⟨_, _, X.returnOut hx hret hd hr, hrun, hended, _, _, rfl, hQ, ⟨_, rfl⟩, hW, hsame.mono hc hs⟩
/-- a body's contract: called with as at the heap h (tables as at Z) it returns, and what it leaves is as Q says -/
abbrev OMet (l : Launch) (y : MethodName) (bytes : ByteArray) (maxL : Nat) (ret : Option FieldType) (ws : List Jvm.Cond) (rm : Room) (as' : Array Value) (Z : State) (h : Heap) (Q : Option Value → Heap → List Loc → Prop) : Prop :=
  MetFree l y (head1 (Jvm.Cond.code y bytes maxL ret :: ws) rm) (fun a U => a = as' ∧ Z.Warmed39 U.vm ∧ U.heap = h) (fun _ _ _ _ _ => True) (fun _ U o U' => ∃ v L, o = .returned v ∧ Q v U'.heap L ∧ FrameEnd U o U' L rm.cells rm.slots)
theorem own_met {y : MethodName} {bytes : ByteArray} {maxL : Nat} {ret : Option FieldType} {ws : List Jvm.Cond} {rm : Room} {as' : Array Value} {Z : State} {h : Heap} {Q : Option Value → Heap → List Loc → Prop} (hpn : plainFor y = true)
    (body : ∀ p e s m below meth c s₁, Stand p l e rm s m as' below meth c s₁ [] 0 0 → p.tables.exec = Jvm.exec → c.code = bytes → c.maxLocals = maxL → s.vm.findClass y.cls = some m.cls → meth.name = y.name → meth.sig.returnType = ret → meth.locks = false → Z.Warmed39 s.vm → s₁.heap = h →
      ORun p e below s Q rm.cells rm.slots s₁ (entryFrame m as' maxL)) : OMet l y bytes maxL ret ws rm as' Z h Q := by
  refine MetFree.of_bodySF hpn hisR ?_
  intro p e s m args below meth c s₁ Bd hml0 hP hK
  obtain ⟨rfl, hZ, hh⟩ := hP
  exact body p e s m below meth c s₁ (Stand.of_body Bd) Bd.exec Bd.bytes hml0 (findClass_of_methodNamed Bd.named) (name_of_methodNamed Bd.named Bd.method).1 Bd.returns Bd.notSynchronized hZ (by rw [← hh, Bd.state]; rfl)
section Calls
variable {Z : State} {a0 : Array Value} {h : Heap} {own : String} {index : Nat} {y z : MethodName} {bytes : ByteArray} {maxL : Nat} {ret : Option FieldType} {rm : Room} {as' : Array Value} {Qc : Option Value → Heap → List Loc → Prop} {W pc : Nat} {Ls : Array Slot} {st argsL rest : List Value}
theorem own_callS (X : Stand p l e R s m args below meth c T locs cells slots) (hx : p.tables.exec = Jvm.exec) (hZ : Z.Warmed39 s.vm) (hown : s.vm.findClass own = some m.cls) (w1 : (Jvm.Cond.methodLink own index y).before a0 Z = true) (w2 : (Jvm.Cond.static y).before a0 Z = true) (w3 : (Jvm.Cond.initialized y.cls).before a0 Z = true) (w4 : (Jvm.Cond.code y bytes maxL ret).before a0 Z = true)
    (hy : y.cls ≠ "java/lang/invoke/MethodHandle" ∧ y.cls ≠ "java/lang/invoke/VarHandle") (M : OMet l y bytes maxL ret [] rm as' Z h Qc) (eT : T.heap = h) (hf : rm.frames + 1 ≤ R.frames) (hl : W + (maxL + 11) + rm.locals ≤ R.locals) (hc : cells + rm.cells ≤ R.cells) (hs : slots + rm.slots ≤ R.slots)
    (hsz : Ls.size = c.maxLocals) (hlen : ∀ sig, parseMethodDescriptor y.desc = some sig → argsL.length = sig.parameters.length) (hst : st = argsL.reverse ++ rest) (has : argsL.toArray = as') (hW : 2 * 0 + (rest.map fun v => v.category).sum ≤ W) (hd : decode c.code pc = .ok (.invokestatic index, 3))
    (K : ∀ T' L v, Stand p l e R s m args below meth c T' (locs ++ L) (cells + rm.cells) (slots + rm.slots) → Qc v T'.heap L → ORun p e below s Q C S T' (mkF m (pc + 3) Ls (v.toList ++ rest))) : ORun p e below s Q C S T (mkF m pc Ls st) := by
  obtain ⟨v, _, ⟨T', L', k', n'⟩, -, X', ⟨Lc, hQ, e1, e2, e3⟩, stp⟩ := Jvm.LawKit.callS X hx (y := y) hown (mvT hZ w1) (mvT hZ w2) (mvT hZ w3) (mvT hZ w4) hy (backOf (W := W) M hZ w4 w3 hf hl) (g := mkF m pc Ls st) rfl hsz (argsL := argsL) (rest := rest) hlen hst hW hd (fun _ _ => ⟨has, eT, hc, hs⟩)
  dsimp only [Pt.U, Pt.locs, Pt.cells, Pt.slots] at X' e1 e2 e3 stp hQ
  subst e1 e2 e3
  exact own_by stp (K T' Lc v X' hQ)
theorem own_callC (X : Stand p l e R s m args below meth c T locs cells slots) (hx : p.tables.exec = Jvm.exec) (hZ : Z.Warmed39 s.vm) (hown : s.vm.findClass own = some m.cls) (hn : y.name = "<init>") (w1 : (Jvm.Cond.methodLink own index y).before a0 Z = true) (w2 : (Jvm.Cond.instanceMethod y).before a0 Z = true) (w3 : (Jvm.Cond.initialized y.cls).before a0 Z = true) (w4 : (Jvm.Cond.code y bytes maxL none).before a0 Z = true)
    (hy : y.cls ≠ "java/lang/invoke/MethodHandle" ∧ y.cls ≠ "java/lang/invoke/VarHandle") (M : OMet l y bytes maxL none [] rm as' Z h Qc) (eT : T.heap = h) (hf : rm.frames + 1 ≤ R.frames) (hl : W + (maxL + 11) + rm.locals ≤ R.locals) (hc : cells + rm.cells ≤ R.cells) (hs : slots + rm.slots ≤ R.slots)
    {b : Addr} (hsz : Ls.size = c.maxLocals) (hlen : ∀ sig, parseMethodDescriptor y.desc = some sig → argsL.length = sig.parameters.length) (hst : st = argsL.reverse ++ .ref b :: rest) (has : (.ref b :: argsL).toArray = as') (hW : 2 * 0 + (rest.map fun v => v.category).sum ≤ W) (hd : decode c.code pc = .ok (.invokespecial index, 3))
    (K : ∀ T' L v, Stand p l e R s m args below meth c T' (locs ++ L) (cells + rm.cells) (slots + rm.slots) → Qc v T'.heap L → ORun p e below s Q C S T' (mkF m (pc + 3) Ls (v.toList ++ rest))) : ORun p e below s Q C S T (mkF m pc Ls st) := by
  obtain ⟨v, _, ⟨T', L', k', n'⟩, -, X', ⟨Lc, hQ, e1, e2, e3⟩, stp⟩ := X.specialBack hx (y := y) hn hown (mvT hZ w1) (mvT hZ w2) (mvT hZ w4) hy (backOf (W := W) M hZ w4 w3 hf hl) (g := mkF m pc Ls st) rfl hsz (Steps.refl _) (a := b) (argsL := argsL) (rest := rest) hlen hst hW hd (fun _ _ => ⟨has, eT, hc, hs⟩)
  dsimp only [Pt.U, Pt.locs, Pt.cells, Pt.slots] at X' e1 e2 e3 stp hQ
  subst e1 e2 e3
  exact own_tr stp (K T' Lc v X' hQ)
theorem own_callV (X : Stand p l e R s m args below meth c T locs cells slots) (hx : p.tables.exec = Jvm.exec) (hZ : Z.Warmed39 s.vm) (hown : s.vm.findClass own = some m.cls) {Cn : String} {b : Addr} (E : Exa Z h b Cn) (w1 : (Jvm.Cond.methodLink own index y).before a0 Z = true) (wd : (Jvm.Cond.declares y).before a0 Z = true) (nf : NotFace s y) (ws : (Jvm.Cond.selects Cn y z).before a0 Z = true) (w2 : (Jvm.Cond.instanceMethod z).before a0 Z = true) (w3 : (Jvm.Cond.initialized z.cls).before a0 Z = true) (w4 : (Jvm.Cond.code z bytes maxL ret).before a0 Z = true)
    (hy : y.cls ≠ "java/lang/invoke/MethodHandle" ∧ y.cls ≠ "java/lang/invoke/VarHandle") (M : OMet l z bytes maxL ret [] rm as' Z h Qc) (eT : T.heap = h) (hf : rm.frames + 1 ≤ R.frames) (hl : W + (maxL + 11) + rm.locals ≤ R.locals) (hc : cells + rm.cells ≤ R.cells) (hs : slots + rm.slots ≤ R.slots)
    (hsz : Ls.size = c.maxLocals) (hlen : ∀ sig, parseMethodDescriptor y.desc = some sig → argsL.length = sig.parameters.length) (hst : st = argsL.reverse ++ .ref b :: rest) (has : (.ref b :: argsL).toArray = as') (hW : 2 * 0 + (rest.map fun v => v.category).sum ≤ W) (hd : decode c.code pc = .ok (.invokevirtual index, 3))
    (K : ∀ T' L v, Stand p l e R s m args below meth c T' (locs ++ L) (cells + rm.cells) (slots + rm.slots) → Qc v T'.heap L → ORun p e below s Q C S T' (mkF m (pc + 3) Ls (v.toList ++ rest))) : ORun p e below s Q C S T (mkF m pc Ls st) := by
  obtain ⟨cq, kq, qa, qb, qc⟩ := isOf hZ eT E
  obtain ⟨v, _, ⟨T', L', k', n'⟩, -, X', ⟨Lc, hQ, e1, e2, e3⟩, stp⟩ := X.virtualBack hx (y := y) (z := z) hown (mvT hZ w1) (mvT hZ wd) nf (mvT hZ ws) (mvT hZ w2) hy (backOf (W := W) M hZ w4 w3 hf hl) qa qc (g := mkF m pc Ls st) rfl hsz (Steps.refl _) (argsL := argsL) (rest := rest) hlen hst hW hd (fun _ _ => ⟨has, eT, hc, hs⟩)
  dsimp only [Pt.U, Pt.locs, Pt.cells, Pt.slots] at X' e1 e2 e3 stp hQ
  subst e1 e2 e3
  exact own_tr stp (K T' Lc v X' hQ)
end Calls
end OwnRun
theorem own_lt {x y : Int32} {a b : Int} (h : x < y) (ha : x.toInt = a) (hb : y.toInt = b) : a < b := by subst ha hb; exact Int32.lt_iff_toInt_lt.mp h
theorem own_nlt {x y : Int32} {a b : Int} (h : ¬ x < y) (ha : x.toInt = a) (hb : y.toInt = b) : b ≤ a := by subst ha hb; exact Int.not_lt.mp fun q => h (Int32.lt_iff_toInt_lt.mpr q)
theorem own_eq {x y : Int32} {a b : Int} (h : x = y) (ha : x.toInt = a) (hb : y.toInt = b) : a = b := by subst ha hb h; rfl
theorem own_ne {x y : Int32} {a b : Int} (h : ¬ x = y) (ha : x.toInt = a) (hb : y.toInt = b) : a ≠ b := by subst ha hb; exact fun q => h (Int32.toInt_inj.mp q)
theorem own_ltL {x y : Int64} {a b : Int} (h : x < y) (ha : x.toInt = a) (hb : y.toInt = b) : a < b := by subst ha hb; exact Int64.lt_iff_toInt_lt.mp h
theorem own_nltL {x y : Int64} {a b : Int} (h : ¬ x < y) (ha : x.toInt = a) (hb : y.toInt = b) : b ≤ a := by subst ha hb; exact Int.not_lt.mp fun q => h (Int64.lt_iff_toInt_lt.mpr q)
theorem own_eqL {x y : Int64} {a b : Int} (h : x = y) (ha : x.toInt = a) (hb : y.toInt = b) : a = b := by subst ha hb h; rfl
theorem own_neL {x y : Int64} {a b : Int} (h : ¬ x = y) (ha : x.toInt = a) (hb : y.toInt = b) : a ≠ b := by subst ha hb; exact fun q => h (Int64.toInt_inj.mp q)
theorem own_lc {cd : ClassFile.Cond} {x y : Int64} {b : Bool} (h : if_icmp.holds cd (lcmpW x y) 0 = b) : ifCond.holds cd (lcmpW x y) = b := (if0 _ _).trans h
theorem own_lclt {x y : Int64} (h : x < y) : ifCond.holds .lt (lcmpW x y) = true ∧ ifCond.holds .ge (lcmpW x y) = false := ⟨own_lc (tlt ((lw_lt x y).mpr h)).1, own_lc (tlt ((lw_lt x y).mpr h)).2.1⟩
theorem own_lcnlt {x y : Int64} (h : ¬ x < y) : ifCond.holds .lt (lcmpW x y) = false ∧ ifCond.holds .ge (lcmpW x y) = true := have q : ¬ lcmpW x y < 0 := fun z => h ((lw_lt x y).mp z); ⟨own_lc (flt q).1, own_lc (flt q).2.1⟩
theorem own_lcgt {x y : Int64} (h : y < x) : ifCond.holds .gt (lcmpW x y) = true ∧ ifCond.holds .le (lcmpW x y) = false := ⟨own_lc (tlt ((lw_gt x y).mpr h)).2.2.1, own_lc (tlt ((lw_gt x y).mpr h)).2.2.2⟩
theorem own_lcngt {x y : Int64} (h : ¬ y < x) : ifCond.holds .gt (lcmpW x y) = false ∧ ifCond.holds .le (lcmpW x y) = true := have q : ¬ 0 < lcmpW x y := fun z => h ((lw_gt x y).mp z); ⟨own_lc (flt q).2.2.1, own_lc (flt q).2.2.2⟩
theorem own_lceq {x y : Int64} (h : x = y) : ifCond.holds .eq (lcmpW x y) = true ∧ ifCond.holds .ne (lcmpW x y) = false := ⟨own_lc (teq ((lw_eq x y).mpr h)).1, own_lc (teq ((lw_eq x y).mpr h)).2⟩
theorem own_lcne {x y : Int64} (h : ¬ x = y) : ifCond.holds .eq (lcmpW x y) = false ∧ ifCond.holds .ne (lcmpW x y) = true := have q : ¬ lcmpW x y = 0 := fun z => h ((lw_eq x y).mp z); ⟨own_lc (feq q).1, own_lc (feq q).2⟩
theorem own_kext {h0 h : Heap} (K : Keep h0 h []) : Ext h0 h := ⟨K.1, fun a c q => K.2.1 a c q nin0⟩
section OwnVec
variable {p : Program} {l : Launch} {e : Env} {R : Room} {s : State} {m : MethodId} {args : Array Value} {below : List Frame} {meth : Method} {c : Code} {T T' : State} {locs : List Loc} {cells slots : Nat} {Q : Option Value → Heap → List Loc → Prop} {C S : Nat} {Z : State} {a0 : Array Value} {h h' : Heap} {a b : Addr} {ty : FieldType} {L : List Int32} {pc : Nat} {Ls : Array Slot} {rest : List Value}
/-- the array at a holds the ints of L, and no more -/
def OVec (Z : State) (h : Heap) (a : Addr) (ty : FieldType) (L : List Int32) : Prop := ∃ c : Cell, Arr Z h a c ty ∧ c.slots = (L.map Value.int).toArray
theorem OVec.lt (V : OVec Z h a ty L) : a < h.size := by obtain ⟨c, A, -⟩ := V; exact A.lt
theorem OVec.ext (V : OVec Z h a ty L) (E : Ext h h') : OVec Z h' a ty L := by obtain ⟨c, A, r⟩ := V; exact ⟨c, A.ext E, r⟩
theorem OVec.other {sl : Nat} {v : Value} (V : OVec Z h b ty L) (W : Wr h h' a sl v) (q : b ≠ a) : OVec Z h' b ty L := by obtain ⟨c, A, r⟩ := V; exact ⟨c, A.other W q, r⟩
theorem OVec.keep {ws : List Addr} (V : OVec Z h a ty L) (K : Keep h h' ws) (q : a ∉ ws) : OVec Z h' a ty L := by obtain ⟨c, A, r⟩ := V; exact ⟨c, ⟨K.2.1 a c A.1 q, A.2⟩, r⟩
theorem OVec.set {j : Nat} {x : Int32} (V : OVec Z h a ty L) (W : Wr h h' a j (.int x)) : OVec Z h' a ty (L.set j x) := by
  obtain ⟨c, A, r⟩ := V
  refine ⟨c.setSlot j (.int x), A.same W, ?_⟩
  show c.slots.setIfInBounds j (.int x) = _
  rw [r, List.setIfInBounds_toArray, List.map_set]
theorem OVec.new {k : ClassId} {n : Int32} (A : Arr Z h a (newA k ty n) ty) (hd : defaultValue ty = .int 0) {N : Nat} (hn : n.toInt = N) : OVec Z h a ty (List.replicate N 0) := by
  refine ⟨_, A, ?_⟩
  have e : n.toNatClampNeg = N := by simp only [Int32.toNatClampNeg]; omega
  simp [newA, hd, e]
theorem own_ix {j : Int32} {i : Nat} (hj : j.toInt = i) : ¬ j < 0 ∧ j.toNatClampNeg = i := by
  refine ⟨fun q => ?_, ?_⟩
  · have := Int32.lt_iff_toInt_lt.mp q; have z : (0 : Int32).toInt = 0 := rfl; omega
  · simp only [Int32.toNatClampNeg]; omega
theorem own_in {c : Cell} {j : Int32} {i : Nat} (hj : j.toInt = i) (r : c.slots = (L.map Value.int).toArray) (hi : i < L.length) : ¬ (j < 0 ∨ c.slots.size ≤ j.toNatClampNeg) := by
  obtain ⟨q1, q2⟩ := own_ix hj
  rintro (q | q)
  · exact q1 q
  · rw [r, q2] at q; simp at q; omega
theorem own_iaload (X : Stand p l e R s m args below meth c T locs cells slots) (hx : p.tables.exec = Jvm.exec) (hZ : Z.Warmed39 s.vm) (eT : T.heap = h) (V : OVec Z h a .int L) {j : Int32} {i : Nat} (hj : j.toInt = i) (hi : i < L.length) (hd : decode c.code pc = .ok (.iaload, 1))
    (K : ∀ v, v = L.getD i 0 → ORun p e below s Q C S T (mkF m (pc + 1) Ls (.int v :: rest))) : ORun p e below s Q C S T (mkF m pc Ls (.int j :: .ref a :: rest)) := by
  obtain ⟨cl, A, r⟩ := V
  refine own_by (fun t k => X.iaload hx (j := j) (v := .int (L.getD i 0)) (by rw [eT]; exact A.1) (State.isArrayOf_alike hZ.alike A.2.1) A.2.2 (own_in hj r hi) ?_ (g := mkF m pc Ls (.int j :: .ref a :: rest)) rfl rfl hd _ k) (K _ rfl)
  rw [(own_ix hj).2, r]; simp [List.getD_eq_getElem?_getD, List.getElem?_eq_getElem hi]
theorem own_baload (X : Stand p l e R s m args below meth c T locs cells slots) (hx : p.tables.exec = Jvm.exec) (hZ : Z.Warmed39 s.vm) (eT : T.heap = h) (V : OVec Z h a .byte L) {j : Int32} {i : Nat} (hj : j.toInt = i) (hi : i < L.length) (hd : decode c.code pc = .ok (.baload, 1))
    (K : ∀ v, v = L.getD i 0 → ORun p e below s Q C S T (mkF m (pc + 1) Ls (.int v :: rest))) : ORun p e below s Q C S T (mkF m pc Ls (.int j :: .ref a :: rest)) := by
  obtain ⟨cl, A, r⟩ := V
  refine own_by (fun t k => X.baloadBytes hx (j := j) (v := .int (L.getD i 0)) (by rw [eT]; exact A.1) (State.isArrayOf_alike hZ.alike A.2.1) A.2.2 (own_in hj r hi) ?_ (g := mkF m pc Ls (.int j :: .ref a :: rest)) rfl rfl hd _ k) (K _ rfl)
  rw [(own_ix hj).2, r]; simp [List.getD_eq_getElem?_getD, List.getElem?_eq_getElem hi]
theorem own_len (X : Stand p l e R s m args below meth c T locs cells slots) (hx : p.tables.exec = Jvm.exec) (hZ : Z.Warmed39 s.vm) (eT : T.heap = h) (V : OVec Z h a ty L) {n : Nat} (hl : L.length = n) (hd : decode c.code pc = .ok (.arraylength, 1))
    (K : ORun p e below s Q C S T (mkF m (pc + 1) Ls (.int n.toInt32 :: rest))) : ORun p e below s Q C S T (mkF m pc Ls (.ref a :: rest)) := by
  obtain ⟨cl, A, r⟩ := V
  have hs : cl.slots.size = n := by rw [r]; simp [hl]
  refine own_by (fun t k => X.arraylength hx (by rw [eT]; exact A.1) (State.isArrayOf_alike hZ.alike A.2.1) (g := mkF m pc Ls (.ref a :: rest)) rfl rfl hd _ k) ?_
  rw [hs]; exact K
theorem own_iastore (X : Stand p l e R s m args below meth c T locs cells slots) (hx : p.tables.exec = Jvm.exec) (hZ : Z.Warmed39 s.vm) (eT : T.heap = h) (V : OVec Z h a .int L) {j x : Int32} {i : Nat} (hj : j.toInt = i) (hi : i < L.length) (hd : decode c.code pc = .ok (.iastore, 1))
    (K : ∀ T' h' L', Stand p l e R s m args below meth c T' (locs ++ [⟨a, i⟩]) cells slots → T'.heap = h' → Wr h h' a i (.int x) → L' = L.set i x → OVec Z h' a .int L' → ORun p e below s Q C S T' (mkF m (pc + 1) Ls rest)) : ORun p e below s Q C S T (mkF m pc Ls (.int x :: .int j :: .ref a :: rest)) := by
  obtain ⟨cl, A, r⟩ := id V
  obtain ⟨T', h', X', e', W, st⟩ := stI X hx hZ eT A (own_in hj r hi) (g := mkF m pc Ls (.int x :: .int j :: .ref a :: rest)) rfl rfl hd
  rw [(own_ix hj).2] at X' W
  exact own_by st (K T' h' _ X' e' W rfl (V.set W))
theorem own_bastore (X : Stand p l e R s m args below meth c T locs cells slots) (hx : p.tables.exec = Jvm.exec) (hZ : Z.Warmed39 s.vm) (eT : T.heap = h) (V : OVec Z h a .byte L) {j x : Int32} {i : Nat} (hj : j.toInt = i) (hi : i < L.length) (hd : decode c.code pc = .ok (.bastore, 1))
    (K : ∀ T' h' L', Stand p l e R s m args below meth c T' (locs ++ [⟨a, i⟩]) cells slots → T'.heap = h' → Wr h h' a i (.int (nar .byte x)) → L' = L.set i (nar .byte x) → OVec Z h' a .byte L' → ORun p e below s Q C S T' (mkF m (pc + 1) Ls rest)) : ORun p e below s Q C S T (mkF m pc Ls (.int x :: .int j :: .ref a :: rest)) := by
  obtain ⟨cl, A, r⟩ := id V
  obtain ⟨T', h', X', e', W, st⟩ := stB X hx hZ eT A (own_in hj r hi) (g := mkF m pc Ls (.int x :: .int j :: .ref a :: rest)) rfl rfl hd
  rw [(own_ix hj).2] at X' W
  exact own_by st (K T' h' _ X' e' W rfl (V.set W))
theorem own_newarray (X : Stand p l e R s m args below meth c T locs cells slots) (hx : p.tables.exec = Jvm.exec) (hZ : Z.Warmed39 s.vm) {aty : ArrayType} (w : (Jvm.Cond.arrayClass (newarray.typeOf aty)).before a0 Z = true) (eT : T.heap = h) (hdv : defaultValue (newarray.typeOf aty) = .int 0) {n : Int32} {N cap : Nat} (hn : n.toInt = N) (hcap : N ≤ cap) (hb : cap * 8 ≤ 536870912) (hc : cells + 1 ≤ R.cells) (hl : slots + cap ≤ R.slots) {ad : String} (had : "[" ++ (newarray.typeOf aty).toString = ad) (hd : decode c.code pc = .ok (.newarray aty, 2))
    (K : ∀ T' h' b L', b = h.size → Stand p l e R s m args below meth c T' locs (cells + 1) (slots + cap) → T'.heap = h' → Ext h h' → L' = List.replicate N (0 : Int32) → OVec Z h' b (newarray.typeOf aty) L' → Exa Z h' b ad → ORun p e below s Q C S T' (mkF m (pc + 2) Ls (.ref b :: rest))) : ORun p e below s Q C S T (mkF m pc Ls (.int n :: rest)) := by
  have q := own_ix hn
  obtain ⟨T', h', cA, X', e', E, A, Ex, st⟩ := newPE X hx hZ w eT (g := mkF m pc Ls (.int n :: rest)) rfl hd rfl q.1 (cap := cap) (by rw [q.2]; exact hcap) hb hc hl had
  exact own_by st (K T' h' _ _ rfl X' e' E rfl (OVec.new A hdv hn) Ex)
end OwnVec
section OwnVecJ
variable {p : Program} {l : Launch} {e : Env} {R : Room} {s : State} {m : MethodId} {args : Array Value} {below : List Frame} {meth : Method} {c : Code} {T T' : State} {locs : List Loc} {cells slots : Nat} {Q : Option Value → Heap → List Loc → Prop} {C S : Nat} {Z : State} {a0 : Array Value} {h h' : Heap} {a b : Addr} {L : List Int64} {pc : Nat} {Ls : Array Slot} {rest : List Value}
def OVecJ (Z : State) (h : Heap) (a : Addr) (L : List Int64) : Prop := ∃ c : Cell, Arr Z h a c .long ∧ c.slots = (L.map Value.long).toArray
theorem OVecJ.lt (V : OVecJ Z h a L) : a < h.size := by obtain ⟨c, A, -⟩ := V; exact A.lt
theorem OVecJ.ext (V : OVecJ Z h a L) (E : Ext h h') : OVecJ Z h' a L := by obtain ⟨c, A, r⟩ := V; exact ⟨c, A.ext E, r⟩
theorem OVecJ.other {sl : Nat} {v : Value} (V : OVecJ Z h b L) (W : Wr h h' a sl v) (q : b ≠ a) : OVecJ Z h' b L := by obtain ⟨c, A, r⟩ := V; exact ⟨c, A.other W q, r⟩
theorem OVecJ.keep {ws : List Addr} (V : OVecJ Z h a L) (K : Keep h h' ws) (q : a ∉ ws) : OVecJ Z h' a L := by obtain ⟨c, A, r⟩ := V; exact ⟨c, ⟨K.2.1 a c A.1 q, A.2⟩, r⟩
theorem OVecJ.set {j : Nat} {x : Int64} (V : OVecJ Z h a L) (W : Wr h h' a j (.long x)) : OVecJ Z h' a (L.set j x) := by
  obtain ⟨c, A, r⟩ := V
  refine ⟨c.setSlot j (.long x), A.same W, ?_⟩
  show c.slots.setIfInBounds j (.long x) = _
  rw [r, List.setIfInBounds_toArray, List.map_set]
theorem OVecJ.new {k : ClassId} {n : Int32} (A : Arr Z h a (newA k .long n) .long) {N : Nat} (hn : n.toInt = N) : OVecJ Z h a (List.replicate N 0) := by
  refine ⟨_, A, ?_⟩
  have e : n.toNatClampNeg = N := by simp only [Int32.toNatClampNeg]; omega
  have d : defaultValue .long = .long 0 := rfl
  simp [newA, e, d]
theorem own_inJ {c : Cell} {j : Int32} {i : Nat} (hj : j.toInt = i) (r : c.slots = (L.map Value.long).toArray) (hi : i < L.length) : ¬ (j < 0 ∨ c.slots.size ≤ j.toNatClampNeg) := by
  obtain ⟨q1, q2⟩ := own_ix hj
  rintro (q | q)
  · exact q1 q
  · rw [r, q2] at q; simp at q; omega
theorem own_laload (X : Stand p l e R s m args below meth c T locs cells slots) (hx : p.tables.exec = Jvm.exec) (hZ : Z.Warmed39 s.vm) (eT : T.heap = h) (V : OVecJ Z h a L) {j : Int32} {i : Nat} (hj : j.toInt = i) (hi : i < L.length) (hd : decode c.code pc = .ok (.laload, 1))
    (K : ∀ v, v = L.getD i 0 → ORun p e below s Q C S T (mkF m (pc + 1) Ls (.long v :: rest))) : ORun p e below s Q C S T (mkF m pc Ls (.int j :: .ref a :: rest)) := by
  obtain ⟨cl, A, r⟩ := V
  refine own_by (fun t k => X.laload hx (j := j) (v := .long (L.getD i 0)) (by rw [eT]; exact A.1) (State.isArrayOf_alike hZ.alike A.2.1) A.2.2 (own_inJ hj r hi) ?_ (g := mkF m pc Ls (.int j :: .ref a :: rest)) rfl rfl hd _ k) (K _ rfl)
  rw [(own_ix hj).2, r]; simp [List.getD_eq_getElem?_getD, List.getElem?_eq_getElem hi]
theorem own_lastore (X : Stand p l e R s m args below meth c T locs cells slots) (hx : p.tables.exec = Jvm.exec) (hZ : Z.Warmed39 s.vm) (eT : T.heap = h) (V : OVecJ Z h a L) {j : Int32} {x : Int64} {i : Nat} (hj : j.toInt = i) (hi : i < L.length) (hd : decode c.code pc = .ok (.lastore, 1))
    (K : ∀ T' h' L', Stand p l e R s m args below meth c T' (locs ++ [⟨a, i⟩]) cells slots → T'.heap = h' → Wr h h' a i (.long x) → L' = L.set i x → OVecJ Z h' a L' → ORun p e below s Q C S T' (mkF m (pc + 1) Ls rest)) : ORun p e below s Q C S T (mkF m pc Ls (.long x :: .int j :: .ref a :: rest)) := by
  obtain ⟨cl, A, r⟩ := id V
  obtain ⟨T', h', X', e', W, st⟩ := stJ X hx hZ eT A (own_inJ hj r hi) (g := mkF m pc Ls (.long x :: .int j :: .ref a :: rest)) rfl rfl hd
  rw [(own_ix hj).2] at X' W
  exact own_by st (K T' h' _ X' e' W rfl (V.set W))
theorem own_newJ (X : Stand p l e R s m args below meth c T locs cells slots) (hx : p.tables.exec = Jvm.exec) (hZ : Z.Warmed39 s.vm) (w : (Jvm.Cond.arrayClass .long).before a0 Z = true) (eT : T.heap = h) {n : Int32} {N cap : Nat} (hn : n.toInt = N) (hcap : N ≤ cap) (hb : cap * 8 ≤ 536870912) (hc : cells + 1 ≤ R.cells) (hl : slots + cap ≤ R.slots) (hd : decode c.code pc = .ok (.newarray .long, 2))
    (K : ∀ T' h' b L', b = h.size → Stand p l e R s m args below meth c T' locs (cells + 1) (slots + cap) → T'.heap = h' → Ext h h' → L' = List.replicate N (0 : Int64) → OVecJ Z h' b L' → ORun p e below s Q C S T' (mkF m (pc + 2) Ls (.ref b :: rest))) : ORun p e below s Q C S T (mkF m pc Ls (.int n :: rest)) := by
  have q := own_ix hn
  obtain ⟨T', h', cA, X', e', E, A, st⟩ := newP X hx hZ (aty := .long) w eT (g := mkF m pc Ls (.int n :: rest)) rfl hd rfl q.1 (cap := cap) (by rw [q.2]; exact hcap) hb hc hl
  exact own_by st (K T' h' _ _ rfl X' e' E rfl (OVecJ.new A hn))
end OwnVecJ
section OwnCalls2
variable {p : Program} {l : Launch} {e : Env} {R : Room} {s : State} {m : MethodId} {args : Array Value} {below : List Frame} {meth : Method} {c : Code} {T T' : State} {locs : List Loc} {cells slots : Nat} {Q : Option Value → Heap → List Loc → Prop} {C S : Nat}
variable {Z : State} {a0 : Array Value} {h : Heap} {own : String} {index : Nat} {y z : MethodName} {bytes : ByteArray} {maxL : Nat} {ret : Option FieldType} {rm : Room} {as' : Array Value} {Qc : Option Value → Heap → List Loc → Prop} {W pc : Nat} {Ls : Array Slot} {st argsL rest : List Value}
/-- a private method -/
theorem own_callP (X : Stand p l e R s m args below meth c T locs cells slots) (hx : p.tables.exec = Jvm.exec) (hZ : Z.Warmed39 s.vm) (hown : s.vm.findClass own = some m.cls) {Cn : String} {b : Addr} (E : Exa Z h b Cn) (w1 : (Jvm.Cond.methodLink own index y).before a0 Z = true) (w2 : (Jvm.Cond.instanceMethod y).before a0 Z = true) (ws : (Jvm.Cond.selects y.cls y y).before a0 Z = true) (wp : (Jvm.Cond.privateMethod y).before a0 Z = true) (w3 : (Jvm.Cond.initialized y.cls).before a0 Z = true) (w4 : (Jvm.Cond.code y bytes maxL ret).before a0 Z = true)
    (hy : y.cls ≠ "java/lang/invoke/MethodHandle" ∧ y.cls ≠ "java/lang/invoke/VarHandle") (M : OMet l y bytes maxL ret [] rm as' Z h Qc) (eT : T.heap = h) (hf : rm.frames + 1 ≤ R.frames) (hl : W + (maxL + 11) + rm.locals ≤ R.locals) (hc : cells + rm.cells ≤ R.cells) (hs : slots + rm.slots ≤ R.slots)
    (hsz : Ls.size = c.maxLocals) (hlen : ∀ sig, parseMethodDescriptor y.desc = some sig → argsL.length = sig.parameters.length) (hst : st = argsL.reverse ++ .ref b :: rest) (has : (.ref b :: argsL).toArray = as') (hW : 2 * 0 + (rest.map fun v => v.category).sum ≤ W) (hd : decode c.code pc = .ok (.invokevirtual index, 3))
    (K : ∀ T' L v, Stand p l e R s m args below meth c T' (locs ++ L) (cells + rm.cells) (slots + rm.slots) → Qc v T'.heap L → ORun p e below s Q C S T' (mkF m (pc + 3) Ls (v.toList ++ rest))) : ORun p e below s Q C S T (mkF m pc Ls st) := by
  obtain ⟨cq, qa, qb⟩ := E.cell
  obtain ⟨v, _, ⟨T', L', k', n'⟩, -, X', ⟨Lc, hQ, e1, e2, e3⟩, stp⟩ := X.privateBack hx (y := y) hown (mvT hZ w1) (mvT hZ w2) (mvT hZ ws) (Cond.privateMethod_at (mvP hZ wp (args := #[]))) (mvT hZ w4) hy (backOf (W := W) M hZ w4 w3 hf hl) (g := mkF m pc Ls st) rfl hsz (Steps.refl _) (a := b) (by rw [eT]; exact qa) qb (argsL := argsL) (rest := rest) hlen hst hW hd (fun _ _ => ⟨has, eT, hc, hs⟩)
  dsimp only [Pt.U, Pt.locs, Pt.cells, Pt.slots] at X' e1 e2 e3 stp hQ
  subst e1 e2 e3
  exact own_tr stp (K T' Lc v X' hQ)
/-- an interface's method, the object's class known -/
theorem own_callI (X : Stand p l e R s m args below meth c T locs cells slots) (hx : p.tables.exec = Jvm.exec) (hZ : Z.Warmed39 s.vm) (hown : s.vm.findClass own = some m.cls) {Cn : String} {b : Addr} {count : Nat} {xi : MethodName} (E : Exa Z h b Cn) (w1 : (Jvm.Cond.methodLink own index xi).before a0 Z = true) (wd : (Jvm.Cond.declares xi).before a0 Z = true) (wf : (Jvm.Cond.interfaceMethod xi.cls xi.cls xi.name xi.desc).before a0 Z = true) (hfa : ((Jvm.Cond.interfaceMethod xi.cls xi.cls xi.name xi.desc).onTables && (Jvm.Cond.interfaceMethod xi.cls xi.cls xi.name xi.desc).keepsFace) = true) (ws : (Jvm.Cond.selects Cn xi y).before a0 Z = true) (w2 : (Jvm.Cond.instanceMethod y).before a0 Z = true) (wp : (Jvm.Cond.publicMethod y).before a0 Z = true) (wu : (Jvm.Cond.unhidden Cn xi.name xi.desc).before a0 Z = true) (wc : (Jvm.Cond.castable Cn xi.cls).before a0 Z = true) (w3 : (Jvm.Cond.initialized y.cls).before a0 Z = true) (w4 : (Jvm.Cond.code y bytes maxL ret).before a0 Z = true)
    (hy : xi.cls ≠ "java/lang/invoke/MethodHandle" ∧ xi.cls ≠ "java/lang/invoke/VarHandle") (M : OMet l y bytes maxL ret [] rm as' Z h Qc) (eT : T.heap = h) (hf : rm.frames + 1 ≤ R.frames) (hl : W + (maxL + 11) + rm.locals ≤ R.locals) (hc : cells + rm.cells ≤ R.cells) (hs : slots + rm.slots ≤ R.slots)
    (hsz : Ls.size = c.maxLocals) (hlen : ∀ sig, parseMethodDescriptor xi.desc = some sig → argsL.length = sig.parameters.length) (hst : st = argsL.reverse ++ .ref b :: rest) (has : (.ref b :: argsL).toArray = as') (hW : 2 * 0 + (rest.map fun v => v.category).sum ≤ W) (hd : decode c.code pc = .ok (.invokeinterface index count, 5))
    (K : ∀ T' L v, Stand p l e R s m args below meth c T' (locs ++ L) (cells + rm.cells) (slots + rm.slots) → Qc v T'.heap L → ORun p e below s Q C S T' (mkF m (pc + 5) Ls (v.toList ++ rest))) : ORun p e below s Q C S T (mkF m pc Ls st) := by
  obtain ⟨cq, kq, qa, qb, qc⟩ := isOf hZ eT E
  obtain ⟨v, _, ⟨T', L', k', n'⟩, -, X', ⟨Lc, hQ, e1, e2, e3⟩, stp⟩ := X.interfaceBack hx (xi := xi) (y := y) hown (mvT hZ w1) (mvT hZ wd) (mvT hZ wf hfa) (mvT hZ ws) (mvT hZ w2) (mvT hZ wp) (mvT hZ wu) (mvT hZ wc) hy (backOf (W := W) M hZ w4 w3 hf hl) qa qb qc (g := mkF m pc Ls st) rfl hsz (Steps.refl _) (argsL := argsL) (rest := rest) hlen hst hW hd (fun _ _ => ⟨has, eT, hc, hs⟩)
  dsimp only [Pt.U, Pt.locs, Pt.cells, Pt.slots] at X' e1 e2 e3 stp hQ
  subst e1 e2 e3
  exact own_tr stp (K T' Lc v X' hQ)
end OwnCalls2
section OwnSta
variable {Z : State} {h h' : Heap} {a : Addr} {C n d : String} {w : Value} {ws : List Addr} {L : List Int32} {Lr : List Value} {ty : FieldType} {Kn : String}
theorem own_staK (F : Sta Z h C n d w) (K : Keep h h' ws) (hn : ∀ x ∈ ws, ∀ cell : Cell, h[x]? = some cell → cell.vm.isStatics = false) : Sta Z h' C n d w := by
  obtain ⟨cf, i, k, f, st, cell, h1, h2, h3, h4, h5, h6, h7⟩ := F
  exact ⟨cf, i, k, f, st, cell, h1, h2, h3, h4, K.2.1 st cell h5 (fun q => by have z := hn st q cell h5; rw [h6] at z; cases z), h6, h7⟩
theorem own_nsE (E : Exa Z h a C) : ∀ cell : Cell, h[a]? = some cell → cell.vm.isStatics = false := fun cell hc => by
  obtain ⟨c, k, e1, -, -, e4, -⟩ := E
  cases hc.symm.trans e1; exact e4
theorem own_nsA {c : Cell} (A : Arr Z h a c ty) : ∀ cell : Cell, h[a]? = some cell → cell.vm.isStatics = false := fun cell hc => by
  have e := Option.some.inj (hc.symm.trans A.1)
  rw [e]
  obtain ⟨-, ⟨q, -⟩, z⟩ := A
  first | exact q | (cases hv : c.vm <;> simp_all [VmData.isStatics])
theorem own_nsV (V : OVec Z h a ty L) : ∀ cell : Cell, h[a]? = some cell → cell.vm.isStatics = false := by obtain ⟨c, A, -⟩ := V; exact own_nsA A
end OwnSta
section OwnBm
variable {p : Program} {l : Launch} {e : Env} {R : Room} {s : State} {m : MethodId} {args : Array Value} {below : List Frame} {meth : Method} {c : Code} {T T' : State} {locs : List Loc} {cells slots : Nat} {Q : Option Value → Heap → List Loc → Prop} {C S : Nat}
theorem own_retD (X : Stand p l e R s m args below meth c T locs cells slots) (hx : p.tables.exec = Jvm.exec) {pc : Nat} {Ls : Array Slot} {z : UInt64} {rest : List Value} (hret : meth.sig.returnType = some .double) (hlk : meth.locks = false) (hd : decode c.code pc = .ok (.dreturn, 1)) (hc : cells ≤ C) (hs : slots ≤ S) (hQ : Q (some (.double z)) T.heap locs) :
    ORun p e below s Q C S T (mkF m pc Ls (.double z :: rest)) := by
  obtain ⟨fs, hr, hrun, hended, hW, hsame⟩ := X.leave (v := some (.double z)) (fun h => by rw [hret] at h; cases h) hlk
  exact ⟨_, _, retOut X hx hret rfl (Or.inr (Or.inr (Or.inl ⟨rfl, rfl, _, rfl⟩))) hd hr, hrun, hended, _, _, rfl, hQ, ⟨_, rfl⟩, hW, hsame.mono hc hs⟩
end OwnBm
theorem pd_0 : parseMethodDescriptor "()V" = some ⟨[], none⟩ := by decide +kernel
theorem pd_1 : parseMethodDescriptor "(DD)V" = some ⟨[.double, .double], none⟩ := by decide +kernel
theorem pd_2 : parseMethodDescriptor "(DID)D" = some ⟨[.double, .int, .double], some .double⟩ := by decide +kernel
theorem d2_0 : decode jdk_30_method_1_code 0 = .ok (.aload_n 0, 1) := by decide +kernel
theorem d2_1 : decode jdk_30_method_1_code 1 = .ok (.invokespecial 1, 3) := by decide +kernel
theorem d2_4 : decode jdk_30_method_1_code 4 = .ok (.return_, 1) := by decide +kernel
theorem pn_rm2 : plainName "java/lang/Record" = true := by first | (simp [plainName, overriddenIn]; done) | decide +kernel
theorem ef_rm2 (m : MethodId) (x0 : Addr) : entryFrame m #[(.ref x0)] 1 = mkF m 0 #[.val (.ref x0)] [] := by first | (simp [entryFrame, mkF, argsToLocals, Value.category]; done) | rfl
set_option maxRecDepth 65536 in
set_option maxHeartbeats 40000000 in
theorem rm2 (l : Launch) (Z : State) (a0 : Array Value) (hw : ∀ d ∈ tables_1, d.before a0 Z = true) (ws : List Jvm.Cond) (h0 : Heap) (n0 : Nat) (Z0 : n0 ≤ h0.size) (a1 : Addr) :
    OMet l (⟨"java/lang/Record", "<init>", "()V"⟩ : MethodName) jdk_30_method_1_code 1 none ws ({ frames := 1, cells := 0, slots := 0, locals := 20 } : Room) #[(.ref a1)] Z h0 (fun v h L' => v = none ∧ Fr n0 L' ∧ h = h0) := by
  refine own_met (plainFor_of_name pn_rm2) ?_
  intro p e s m below meth c s₁ X0 hx hby hml hown hnm hret hlk hZ e0
  rw [ef_rm2]
  have N0 := Fr.nil n0
  show ORun p e below s _ _ _ s₁ (mkF m 0 #[.val (.ref a1)] [])
  refine own_by (fun t k => XS.aloadN X0.here hx rfl (hb hby d2_0) rfl rfl k) ?_
  show ORun p e below s _ _ _ s₁ (mkF m 1 #[.val (.ref a1)] [(.ref a1)])
  obtain ⟨T1, X1, e1, st1⟩ := initO X0 hx hZ hown (hw _ (List.mem_of_getElem? (i := 15) rfl)) (hw _ (List.mem_of_getElem? (i := 16) rfl)) (hw _ (List.mem_of_getElem? (i := 17) rfl)) e0 (g := (mkF m 1 #[.val (.ref a1)] [(.ref a1)])) rfl (by rw [hml]; rfl) rfl (hb hby d2_1) (by decide) (W := 0) (by show 2 * 0 + _ ≤ _; exact Nat.le_of_eq rfl) (by decide)
  refine own_by st1 ?_
  show ORun p e below s _ _ _ T1 (mkF m 4 #[.val (.ref a1)] [])
  refine own_retV X1 hx hret hlk (hb hby d2_4) (by decide) (by decide) ?_
  exact ⟨rfl, N0, e1⟩
theorem d1_0 : decode prog_50_method_1_code 0 = .ok (.aload_n 0, 1) := by decide +kernel
theorem d1_1 : decode prog_50_method_1_code 1 = .ok (.invokespecial 1, 3) := by decide +kernel
theorem d1_4 : decode prog_50_method_1_code 4 = .ok (.dload_n 1, 1) := by decide +kernel
theorem d1_5 : decode prog_50_method_1_code 5 = .ok (.dconst 0, 1) := by decide +kernel
theorem d1_6 : decode prog_50_method_1_code 6 = .ok (.dcmp .l, 1) := by decide +kernel
theorem d1_7 : decode prog_50_method_1_code 7 = .ok (.ifCond .lt 11, 3) := by decide +kernel
theorem d1_10 : decode prog_50_method_1_code 10 = .ok (.dload_n 1, 1) := by decide +kernel
theorem d1_11 : decode prog_50_method_1_code 11 = .ok (.ldc2_w 9, 3) := by decide +kernel
theorem d1_14 : decode prog_50_method_1_code 14 = .ok (.dcmp .g, 1) := by decide +kernel
theorem d1_15 : decode prog_50_method_1_code 15 = .ok (.ifCond .lt 17, 3) := by decide +kernel
theorem d1_32 : decode prog_50_method_1_code 32 = .ok (.dload_n 3, 1) := by decide +kernel
theorem d1_33 : decode prog_50_method_1_code 33 = .ok (.dconst 0, 1) := by decide +kernel
theorem d1_34 : decode prog_50_method_1_code 34 = .ok (.dcmp .l, 1) := by decide +kernel
theorem d1_35 : decode prog_50_method_1_code 35 = .ok (.ifCond .lt 9, 3) := by decide +kernel
theorem d1_38 : decode prog_50_method_1_code 38 = .ok (.dload_n 3, 1) := by decide +kernel
theorem d1_39 : decode prog_50_method_1_code 39 = .ok (.dconst 1, 1) := by decide +kernel
theorem d1_40 : decode prog_50_method_1_code 40 = .ok (.dcmp .g, 1) := by decide +kernel
theorem d1_41 : decode prog_50_method_1_code 41 = .ok (.ifCond .le 17, 3) := by decide +kernel
theorem d1_58 : decode prog_50_method_1_code 58 = .ok (.aload_n 0, 1) := by decide +kernel
theorem d1_59 : decode prog_50_method_1_code 59 = .ok (.dload_n 1, 1) := by decide +kernel
theorem d1_60 : decode prog_50_method_1_code 60 = .ok (.putfield 21, 3) := by decide +kernel
theorem d1_63 : decode prog_50_method_1_code 63 = .ok (.aload_n 0, 1) := by decide +kernel
theorem d1_64 : decode prog_50_method_1_code 64 = .ok (.dload_n 3, 1) := by decide +kernel
theorem d1_65 : decode prog_50_method_1_code 65 = .ok (.putfield 27, 3) := by decide +kernel
theorem d1_68 : decode prog_50_method_1_code 68 = .ok (.return_, 1) := by decide +kernel
theorem pn_rm1 : plainName "com/example/baris/baris/engine/scoring/Bm25" = true := by first | (simp [plainName, overriddenIn]; done) | decide +kernel
theorem ef_rm1 (m : MethodId) (x0 : Addr) (x1 : UInt64) (x2 : UInt64) : entryFrame m #[(.ref x0), (.double x1), (.double x2)] 5 = mkF m 0 #[.val (.ref x0), .val (.double x1), .second, .val (.double x2), .second] [] := by first | (simp [entryFrame, mkF, argsToLocals, Value.category]; done) | rfl
set_option maxRecDepth 65536 in
set_option maxHeartbeats 40000000 in
theorem rm1 (l : Launch) (Z : State) (a0 : Array Value) (hw : ∀ d ∈ tables_1, d.before a0 Z = true) (ws : List Jvm.Cond) (h0 : Heap) (n0 : Nat) (Z0 : n0 ≤ h0.size) (a1 : Addr) (aa jj : Nat) (ha : aa ≤ 255) (hj : jj ≤ 4) (E_a1 : Exa Z h0 a1 "com/example/baris/baris/engine/scoring/Bm25") (g_a1 : n0 ≤ a1) (F_k1_a1 : Fld Z h0 a1 "com/example/baris/baris/engine/scoring/Bm25" "k1" "D" (.double (0 : UInt64))) (F_b_a1 : Fld Z h0 a1 "com/example/baris/baris/engine/scoring/Bm25" "b" "D" (.double (0 : UInt64))) :
    OMet l (⟨"com/example/baris/baris/engine/scoring/Bm25", "<init>", "(DD)V"⟩ : MethodName) prog_50_method_1_code 5 none ws ({ frames := 2, cells := 0, slots := 0, locals := 40 } : Room) #[(.ref a1), (.double (own_Q aa 1 (-2))), (.double (own_Q jj 1 (-2)))] Z h0 (fun v h L' => v = none ∧ Fr n0 L' ∧ Keep h0 h [a1] ∧ Exa Z h a1 "com/example/baris/baris/engine/scoring/Bm25" ∧ Fld Z h a1 "com/example/baris/baris/engine/scoring/Bm25" "k1" "D" (.double (own_Q aa 1 (-2))) ∧ Fld Z h a1 "com/example/baris/baris/engine/scoring/Bm25" "b" "D" (.double (own_Q jj 1 (-2)))) := by
  refine own_met (plainFor_of_name pn_rm1) ?_
  intro p e s m below meth c s₁ X0 hx hby hml hown hnm hret hlk hZ e0
  rw [ef_rm1]
  have N0 := Fr.nil n0
  show ORun p e below s _ _ _ s₁ (mkF m 0 #[.val (.ref a1), .val (.double (own_Q aa 1 (-2))), .second, .val (.double (own_Q jj 1 (-2))), .second] [])
  refine own_by (fun t k => XS.aloadN X0.here hx rfl (hb hby d1_0) rfl rfl k) ?_
  show ORun p e below s _ _ _ s₁ (mkF m 1 #[.val (.ref a1), .val (.double (own_Q aa 1 (-2))), .second, .val (.double (own_Q jj 1 (-2))), .second] [(.ref a1)])
  refine own_callC X0 hx hZ hown rfl (hw _ (List.mem_of_getElem? (i := 10) rfl)) (hw _ (List.mem_of_getElem? (i := 11) rfl)) (hw _ (List.mem_of_getElem? (i := 13) rfl)) (hw _ (List.mem_of_getElem? (i := 14) rfl)) (by decide) (rm2 l Z a0 hw [] h0 n0 Z0 a1) e0 (by decide) (W := 0) (by decide) (by decide) (by decide) (b := a1) (argsL := []) (rest := []) (by rw [hml]; rfl) (lenOf pd_0 rfl) rfl rfl (Nat.le_of_eq rfl) (hb hby d1_1) ?_
  intro T1 L1 u1 X1 hQ1
  obtain ⟨rfl, Nq1, e1⟩ := hQ1
  have N1 := Fr.app N0 Nq1
  show ORun p e below s _ _ _ T1 (mkF m 4 #[.val (.ref a1), .val (.double (own_Q aa 1 (-2))), .second, .val (.double (own_Q jj 1 (-2))), .second] [])
  refine own_by (fun t k => XS.dloadN X1.here hx rfl (hb hby d1_4) rfl k) ?_
  show ORun p e below s _ _ _ T1 (mkF m 5 #[.val (.ref a1), .val (.double (own_Q aa 1 (-2))), .second, .val (.double (own_Q jj 1 (-2))), .second] [(.double (own_Q aa 1 (-2)))])
  refine own_by (fun t k => XS.dconst0 X1.here hx rfl (hb hby d1_5) own_d0 k) ?_
  show ORun p e below s _ _ _ T1 (mkF m 6 #[.val (.ref a1), .val (.double (own_Q aa 1 (-2))), .second, .val (.double (own_Q jj 1 (-2))), .second] [(.double (own_Q 0 1 0)), (.double (own_Q aa 1 (-2)))])
  obtain ⟨cv2, fq2, gq2⟩ := own_fge0 aa (-2) (d := 1) (by decide) .l
  refine own_by (fun t k => XS.dcmpS X1.here hx rfl (hb hby d1_6) rfl fq2 k) ?_
  show ORun p e below s _ _ _ T1 (mkF m 7 #[.val (.ref a1), .val (.double (own_Q aa 1 (-2))), .second, .val (.double (own_Q jj 1 (-2))), .second] [(.int cv2)])
  by_cases hc3 : cv2 < (0 : Int32)
  · have t3 := own_lt hc3 (a := cv2.toInt) (b := 0) rfl (by decide)
    exfalso
    omega
  · have t3 := own_nlt hc3 (a := cv2.toInt) (b := 0) rfl (by decide)
    refine own_by (fun t k => XS.ifNo X1.here hx rfl (hb hby d1_7) rfl ((if0 _ _).trans (flt hc3).1) k) ?_
    show ORun p e below s _ _ _ T1 (mkF m 10 #[.val (.ref a1), .val (.double (own_Q aa 1 (-2))), .second, .val (.double (own_Q jj 1 (-2))), .second] [])
    refine own_by (fun t k => XS.dloadN X1.here hx rfl (hb hby d1_10) rfl k) ?_
    show ORun p e below s _ _ _ T1 (mkF m 11 #[.val (.ref a1), .val (.double (own_Q aa 1 (-2))), .second, .val (.double (own_Q jj 1 (-2))), .second] [(.double (own_Q aa 1 (-2)))])
    refine own_by (fun t k => X1.ldc2DoubleC hx hown (mvT hZ (hw _ (List.mem_of_getElem? (i := 18) rfl))) (g := (mkF m 11 #[.val (.ref a1), .val (.double (own_Q aa 1 (-2))), .second, .val (.double (own_Q jj 1 (-2))), .second] [(.double (own_Q aa 1 (-2)))])) rfl (hb hby d1_11) _ k) ?_
    show ORun p e below s _ _ _ T1 (mkF m 14 #[.val (.ref a1), .val (.double (own_Q aa 1 (-2))), .second, .val (.double (own_Q jj 1 (-2))), .second] [(.double (9218868437227405312 : UInt64)), (.double (own_Q aa 1 (-2)))])
    refine own_by (fun t k => XS.dcmpS X1.here hx rfl (hb hby d1_14) rfl (own_finf (by omega) (by decide) (by decide) .g) k) ?_
    show ORun p e below s _ _ _ T1 (mkF m 15 #[.val (.ref a1), .val (.double (own_Q aa 1 (-2))), .second, .val (.double (own_Q jj 1 (-2))), .second] [(.int (-1 : Int32))])
    refine own_by (fun t k => XS.ifYes X1.here hx rfl (pc0 := 15) (pc' := 32) rfl (hb hby d1_15) rfl ((if0 _ _).trans (tlt (by decide)).1) (by decide) (by decide) k) ?_
    show ORun p e below s _ _ _ T1 (mkF m 32 #[.val (.ref a1), .val (.double (own_Q aa 1 (-2))), .second, .val (.double (own_Q jj 1 (-2))), .second] [])
    refine own_by (fun t k => XS.dloadN X1.here hx rfl (hb hby d1_32) rfl k) ?_
    show ORun p e below s _ _ _ T1 (mkF m 33 #[.val (.ref a1), .val (.double (own_Q aa 1 (-2))), .second, .val (.double (own_Q jj 1 (-2))), .second] [(.double (own_Q jj 1 (-2)))])
    refine own_by (fun t k => XS.dconst0 X1.here hx rfl (hb hby d1_33) own_d0 k) ?_
    show ORun p e below s _ _ _ T1 (mkF m 34 #[.val (.ref a1), .val (.double (own_Q aa 1 (-2))), .second, .val (.double (own_Q jj 1 (-2))), .second] [(.double (own_Q 0 1 0)), (.double (own_Q jj 1 (-2)))])
    obtain ⟨cv4, fq4, gq4⟩ := own_fge0 jj (-2) (d := 1) (by decide) .l
    refine own_by (fun t k => XS.dcmpS X1.here hx rfl (hb hby d1_34) rfl fq4 k) ?_
    show ORun p e below s _ _ _ T1 (mkF m 35 #[.val (.ref a1), .val (.double (own_Q aa 1 (-2))), .second, .val (.double (own_Q jj 1 (-2))), .second] [(.int cv4)])
    by_cases hc5 : cv4 < (0 : Int32)
    · have t5 := own_lt hc5 (a := cv4.toInt) (b := 0) rfl (by decide)
      exfalso
      omega
    · have t5 := own_nlt hc5 (a := cv4.toInt) (b := 0) rfl (by decide)
      refine own_by (fun t k => XS.ifNo X1.here hx rfl (hb hby d1_35) rfl ((if0 _ _).trans (flt hc5).1) k) ?_
      show ORun p e below s _ _ _ T1 (mkF m 38 #[.val (.ref a1), .val (.double (own_Q aa 1 (-2))), .second, .val (.double (own_Q jj 1 (-2))), .second] [])
      refine own_by (fun t k => XS.dloadN X1.here hx rfl (hb hby d1_38) rfl k) ?_
      show ORun p e below s _ _ _ T1 (mkF m 39 #[.val (.ref a1), .val (.double (own_Q aa 1 (-2))), .second, .val (.double (own_Q jj 1 (-2))), .second] [(.double (own_Q jj 1 (-2)))])
      refine own_by (fun t k => XS.dconst1 X1.here hx rfl (hb hby d1_39) own_d1 k) ?_
      show ORun p e below s _ _ _ T1 (mkF m 40 #[.val (.ref a1), .val (.double (own_Q aa 1 (-2))), .second, .val (.double (own_Q jj 1 (-2))), .second] [(.double (own_Q 1 1 0)), (.double (own_Q jj 1 (-2)))])
      obtain ⟨cv6, fq6, gq6⟩ := own_b1 hj .g
      refine own_by (fun t k => XS.dcmpS X1.here hx rfl (hb hby d1_40) rfl fq6 k) ?_
      show ORun p e below s _ _ _ T1 (mkF m 41 #[.val (.ref a1), .val (.double (own_Q aa 1 (-2))), .second, .val (.double (own_Q jj 1 (-2))), .second] [(.int cv6)])
      by_cases hc7 : (0 : Int32) < cv6
      · have t7 := own_lt hc7 (a := 0) (b := cv6.toInt) (by decide) rfl
        exfalso
        omega
      · have t7 := own_nlt hc7 (a := 0) (b := cv6.toInt) (by decide) rfl
        refine own_by (fun t k => XS.ifYes X1.here hx rfl (pc0 := 41) (pc' := 58) rfl (hb hby d1_41) rfl ((if0 _ _).trans (flt hc7).2.2.2) (by decide) (by decide) k) ?_
        show ORun p e below s _ _ _ T1 (mkF m 58 #[.val (.ref a1), .val (.double (own_Q aa 1 (-2))), .second, .val (.double (own_Q jj 1 (-2))), .second] [])
        refine own_by (fun t k => XS.aloadN X1.here hx rfl (hb hby d1_58) rfl rfl k) ?_
        show ORun p e below s _ _ _ T1 (mkF m 59 #[.val (.ref a1), .val (.double (own_Q aa 1 (-2))), .second, .val (.double (own_Q jj 1 (-2))), .second] [(.ref a1)])
        refine own_by (fun t k => XS.dloadN X1.here hx rfl (hb hby d1_59) rfl k) ?_
        show ORun p e below s _ _ _ T1 (mkF m 60 #[.val (.ref a1), .val (.double (own_Q aa 1 (-2))), .second, .val (.double (own_Q jj 1 (-2))), .second] [(.double (own_Q aa 1 (-2))), (.ref a1)])
        obtain ⟨T8, h8, X8, e8, W8, st8⟩ := putF X1 hx hZ hown (host := "") (Or.inl (hw _ (List.mem_of_getElem? (i := 19) rfl))) Via.refl e1 F_k1_a1 E_a1 (Or.inr ⟨(hw _ (List.mem_of_getElem? (i := 20) rfl)), rfl, hnm⟩) (hw _ (List.mem_of_getElem? (i := 5) rfl)) (ty := .double) (by decide) rfl rfl (g := (mkF m 60 #[.val (.ref a1), .val (.double (own_Q aa 1 (-2))), .second, .val (.double (own_Q jj 1 (-2))), .second] [(.double (own_Q aa 1 (-2))), (.ref a1)])) rfl rfl (hb hby d1_60)
        have Fw8 := Fld.same W8 F_k1_a1
        have N8 := Fr.snoc X8 N1 g_a1
        refine own_by st8 ?_
        show ORun p e below s _ _ _ T8 (mkF m 63 #[.val (.ref a1), .val (.double (own_Q aa 1 (-2))), .second, .val (.double (own_Q jj 1 (-2))), .second] [])
        refine own_by (fun t k => XS.aloadN X8.here hx rfl (hb hby d1_63) rfl rfl k) ?_
        show ORun p e below s _ _ _ T8 (mkF m 64 #[.val (.ref a1), .val (.double (own_Q aa 1 (-2))), .second, .val (.double (own_Q jj 1 (-2))), .second] [(.ref a1)])
        refine own_by (fun t k => XS.dloadN X8.here hx rfl (hb hby d1_64) rfl k) ?_
        show ORun p e below s _ _ _ T8 (mkF m 65 #[.val (.ref a1), .val (.double (own_Q aa 1 (-2))), .second, .val (.double (own_Q jj 1 (-2))), .second] [(.double (own_Q jj 1 (-2))), (.ref a1)])
        obtain ⟨T9, h9, X9, e9, W9, st9⟩ := putF X8 hx hZ hown (host := "") (Or.inl (hw _ (List.mem_of_getElem? (i := 21) rfl))) Via.refl e8 (F_b_a1.other W8 (Or.inr (slot_ne (Or.inr (hw _ (List.mem_of_getElem? (i := 22) rfl))) (Or.inr (hw _ (List.mem_of_getElem? (i := 20) rfl))) (by decide) (t := .double) (t' := .double) (by decide) (by decide)))) (E_a1.wr W8) (Or.inr ⟨(hw _ (List.mem_of_getElem? (i := 22) rfl)), rfl, hnm⟩) (hw _ (List.mem_of_getElem? (i := 5) rfl)) (ty := .double) (by decide) rfl rfl (g := (mkF m 65 #[.val (.ref a1), .val (.double (own_Q aa 1 (-2))), .second, .val (.double (own_Q jj 1 (-2))), .second] [(.double (own_Q jj 1 (-2))), (.ref a1)])) rfl rfl (hb hby d1_65)
        have Fw9 := Fld.same W9 (F_b_a1.other W8 (Or.inr (slot_ne (Or.inr (hw _ (List.mem_of_getElem? (i := 22) rfl))) (Or.inr (hw _ (List.mem_of_getElem? (i := 20) rfl))) (by decide) (t := .double) (t' := .double) (by decide) (by decide))))
        have N9 := Fr.snoc X9 N8 g_a1
        refine own_by st9 ?_
        show ORun p e below s _ _ _ T9 (mkF m 68 #[.val (.ref a1), .val (.double (own_Q aa 1 (-2))), .second, .val (.double (own_Q jj 1 (-2))), .second] [])
        refine own_retV X9 hx hret hlk (hb hby d1_68) (by decide) (by decide) ?_
        rw [e9]
        exact ⟨rfl, N9, (((Keep.refl h0 [a1]).wr W8 (Or.inl (List.mem_of_getElem? (i := 0) rfl))).wr W9 (Or.inl (List.mem_of_getElem? (i := 0) rfl))), ((E_a1.wr W8).wr W9), (Fw8.other W9 (Or.inr (slot_ne (Or.inr (hw _ (List.mem_of_getElem? (i := 20) rfl))) (Or.inr (hw _ (List.mem_of_getElem? (i := 22) rfl))) (by decide) (t := .double) (t' := .double) (by decide) (by decide)))), Fw9⟩
theorem d4_0 : decode prog_50_method_4_code 0 = .ok (.getstatic 37, 3) := by decide +kernel
theorem d4_3 : decode prog_50_method_4_code 3 = .ok (.ifCond .ne 38, 3) := by decide +kernel
theorem d4_41 : decode prog_50_method_4_code 41 = .ok (.iload_n 3, 1) := by decide +kernel
theorem d4_42 : decode prog_50_method_4_code 42 = .ok (.i2d, 1) := by decide +kernel
theorem d4_43 : decode prog_50_method_4_code 43 = .ok (.dload 4, 2) := by decide +kernel
theorem d4_45 : decode prog_50_method_4_code 45 = .ok (.ddiv, 1) := by decide +kernel
theorem d4_46 : decode prog_50_method_4_code 46 = .ok (.dstore 6, 2) := by decide +kernel
theorem d4_48 : decode prog_50_method_4_code 48 = .ok (.dload_n 1, 1) := by decide +kernel
theorem d4_49 : decode prog_50_method_4_code 49 = .ok (.aload_n 0, 1) := by decide +kernel
theorem d4_50 : decode prog_50_method_4_code 50 = .ok (.getfield 21, 3) := by decide +kernel
theorem d4_53 : decode prog_50_method_4_code 53 = .ok (.dconst 1, 1) := by decide +kernel
theorem d4_54 : decode prog_50_method_4_code 54 = .ok (.dadd, 1) := by decide +kernel
theorem d4_55 : decode prog_50_method_4_code 55 = .ok (.dmul, 1) := by decide +kernel
theorem d4_56 : decode prog_50_method_4_code 56 = .ok (.dload_n 1, 1) := by decide +kernel
theorem d4_57 : decode prog_50_method_4_code 57 = .ok (.aload_n 0, 1) := by decide +kernel
theorem d4_58 : decode prog_50_method_4_code 58 = .ok (.getfield 21, 3) := by decide +kernel
theorem d4_61 : decode prog_50_method_4_code 61 = .ok (.dconst 1, 1) := by decide +kernel
theorem d4_62 : decode prog_50_method_4_code 62 = .ok (.aload_n 0, 1) := by decide +kernel
theorem d4_63 : decode prog_50_method_4_code 63 = .ok (.getfield 27, 3) := by decide +kernel
theorem d4_66 : decode prog_50_method_4_code 66 = .ok (.dsub, 1) := by decide +kernel
theorem d4_67 : decode prog_50_method_4_code 67 = .ok (.aload_n 0, 1) := by decide +kernel
theorem d4_68 : decode prog_50_method_4_code 68 = .ok (.getfield 27, 3) := by decide +kernel
theorem d4_71 : decode prog_50_method_4_code 71 = .ok (.dload 6, 2) := by decide +kernel
theorem d4_73 : decode prog_50_method_4_code 73 = .ok (.dmul, 1) := by decide +kernel
theorem d4_74 : decode prog_50_method_4_code 74 = .ok (.dadd, 1) := by decide +kernel
theorem d4_75 : decode prog_50_method_4_code 75 = .ok (.dmul, 1) := by decide +kernel
theorem d4_76 : decode prog_50_method_4_code 76 = .ok (.dadd, 1) := by decide +kernel
theorem d4_77 : decode prog_50_method_4_code 77 = .ok (.ddiv, 1) := by decide +kernel
theorem d4_78 : decode prog_50_method_4_code 78 = .ok (.dreturn, 1) := by decide +kernel
theorem pn_rm4 : plainName "com/example/baris/baris/engine/scoring/Bm25" = true := by first | (simp [plainName, overriddenIn]; done) | decide +kernel
theorem ef_rm4 (m : MethodId) (x0 : Addr) (x1 : UInt64) (x2 : Int32) (x3 : UInt64) : entryFrame m #[(.ref x0), (.double x1), (.int x2), (.double x3)] 8 = mkF m 0 #[.val (.ref x0), .val (.double x1), .second, .val (.int x2), .val (.double x3), .second, .unset, .unset] [] := by first | (simp [entryFrame, mkF, argsToLocals, Value.category]; done) | rfl
set_option maxRecDepth 65536 in
set_option maxHeartbeats 40000000 in
theorem rm4 (l : Launch) (Z : State) (a0 : Array Value) (hw : ∀ d ∈ tables_1, d.before a0 Z = true) (ws : List Jvm.Cond) (h0 : Heap) (n0 : Nat) (Z0 : n0 ≤ h0.size) (a1 : Addr) (p3 : Int32) (tt dd ee Ae aa jj : Nat) (hp3 : p3.toInt = dd) (ht : 1 ≤ tt ∧ tt ≤ 1048576) (hd : 1 ≤ dd ∧ dd ≤ 2147483647) (he : ee ≤ 15) (hA : Ae = 2 ^ ee) (ha : aa ≤ 255) (hj : jj ≤ 4) (Sd : Sta Z h0 "com/example/baris/baris/engine/scoring/Bm25" "$assertionsDisabled" "Z" (.int 1)) (Fk : Fld Z h0 a1 "com/example/baris/baris/engine/scoring/Bm25" "k1" "D" (.double (own_Q aa 1 (-2)))) (Fb : Fld Z h0 a1 "com/example/baris/baris/engine/scoring/Bm25" "b" "D" (.double (own_Q jj 1 (-2)))) :
    OMet l (⟨"com/example/baris/baris/engine/scoring/Bm25", "termFrequencyNorm", "(DID)D"⟩ : MethodName) prog_50_method_4_code 8 (some .double) ws ({ frames := 0, cells := 0, slots := 0, locals := 0 } : Room) #[(.ref a1), (.double (own_Q tt 1 (-2))), (.int p3), (.double (own_Q Ae 1 (-4)))] Z h0 (fun v h L' => v = some (.double (own_Q (Ae * tt * (aa + 4)) (4 * Ae * tt + aa * ((4 - jj) * Ae + jj * dd * 16)) 0)) ∧ Fr n0 L' ∧ h = h0) := by
  refine own_met (plainFor_of_name pn_rm4) ?_
  intro p e s m below meth c s₁ X0 hx hby hml hown hnm hret hlk hZ e0
  rw [ef_rm4]
  have N0 := Fr.nil n0
  have rg_p3 := rng32 p3
  obtain ⟨f1, f3, f4, f5, f6, f7, f8, f9, hW⟩ := own_tfn ht hd he hA ha hj
  have f2 := own_k1 ha
  show ORun p e below s _ _ _ s₁ (mkF m 0 #[.val (.ref a1), .val (.double (own_Q tt 1 (-2))), .second, .val (.int p3), .val (.double (own_Q Ae 1 (-4))), .second, .unset, .unset] [])
  obtain ⟨T1, X1, e1, st1⟩ := getS2 X0 hx hZ hown (host := "") (Or.inl (hw _ (List.mem_of_getElem? (i := 28) rfl))) Via.refl e0 Sd (g := (mkF m 0 #[.val (.ref a1), .val (.double (own_Q tt 1 (-2))), .second, .val (.int p3), .val (.double (own_Q Ae 1 (-4))), .second, .unset, .unset] [])) rfl (hb hby d4_0)
  refine own_by st1 ?_
  show ORun p e below s _ _ _ T1 (mkF m 3 #[.val (.ref a1), .val (.double (own_Q tt 1 (-2))), .second, .val (.int p3), .val (.double (own_Q Ae 1 (-4))), .second, .unset, .unset] [(.int (1 : Int32))])
  refine own_by (fun t k => XS.ifYes X1.here hx rfl (pc0 := 3) (pc' := 41) rfl (hb hby d4_3) rfl ((if0 _ _).trans (feq (by decide)).2) (by decide) (by decide) k) ?_
  show ORun p e below s _ _ _ T1 (mkF m 41 #[.val (.ref a1), .val (.double (own_Q tt 1 (-2))), .second, .val (.int p3), .val (.double (own_Q Ae 1 (-4))), .second, .unset, .unset] [])
  refine own_by (fun t k => XS.iloadN X1.here hx rfl (hb hby d4_41) rfl k) ?_
  show ORun p e below s _ _ _ T1 (mkF m 42 #[.val (.ref a1), .val (.double (own_Q tt 1 (-2))), .second, .val (.int p3), .val (.double (own_Q Ae 1 (-4))), .second, .unset, .unset] [(.int p3)])
  refine own_by (fun t k => XS.i2dS X1.here hx rfl (hb hby d4_42) rfl (own_i2d hp3) k) ?_
  show ORun p e below s _ _ _ T1 (mkF m 43 #[.val (.ref a1), .val (.double (own_Q tt 1 (-2))), .second, .val (.int p3), .val (.double (own_Q Ae 1 (-4))), .second, .unset, .unset] [(.double (own_Q dd 1 0))])
  refine own_by (fun t k => XS.dload X1.here hx rfl (hb hby d4_43) rfl k) ?_
  show ORun p e below s _ _ _ T1 (mkF m 45 #[.val (.ref a1), .val (.double (own_Q tt 1 (-2))), .second, .val (.int p3), .val (.double (own_Q Ae 1 (-4))), .second, .unset, .unset] [(.double (own_Q Ae 1 (-4))), (.double (own_Q dd 1 0))])
  have fq2 : FP.ddiv (own_Q dd 1 0) (own_Q Ae 1 (-4)) = (own_Q dd 1 (4 - (ee : Int))) := f1
  refine own_by (fun t k => XS.ddivS X1.here hx rfl (hb hby d4_45) rfl (by rw [fq2]; exact own_Qno _ (by decide) _) fq2 k) ?_
  show ORun p e below s _ _ _ T1 (mkF m 46 #[.val (.ref a1), .val (.double (own_Q tt 1 (-2))), .second, .val (.int p3), .val (.double (own_Q Ae 1 (-4))), .second, .unset, .unset] [(.double (own_Q dd 1 (4 - (ee : Int))))])
  refine own_by (fun t k => XS.dstore X1.here hx rfl (hb hby d4_46) rfl (l' := #[.val (.ref a1), .val (.double (own_Q tt 1 (-2))), .second, .val (.int p3), .val (.double (own_Q Ae 1 (-4))), .second, .val (.double (own_Q dd 1 (4 - (ee : Int)))), .second]) rfl k) ?_
  show ORun p e below s _ _ _ T1 (mkF m 48 #[.val (.ref a1), .val (.double (own_Q tt 1 (-2))), .second, .val (.int p3), .val (.double (own_Q Ae 1 (-4))), .second, .val (.double (own_Q dd 1 (4 - (ee : Int)))), .second] [])
  refine own_by (fun t k => XS.dloadN X1.here hx rfl (hb hby d4_48) rfl k) ?_
  show ORun p e below s _ _ _ T1 (mkF m 49 #[.val (.ref a1), .val (.double (own_Q tt 1 (-2))), .second, .val (.int p3), .val (.double (own_Q Ae 1 (-4))), .second, .val (.double (own_Q dd 1 (4 - (ee : Int)))), .second] [(.double (own_Q tt 1 (-2)))])
  refine own_by (fun t k => XS.aloadN X1.here hx rfl (hb hby d4_49) rfl rfl k) ?_
  show ORun p e below s _ _ _ T1 (mkF m 50 #[.val (.ref a1), .val (.double (own_Q tt 1 (-2))), .second, .val (.int p3), .val (.double (own_Q Ae 1 (-4))), .second, .val (.double (own_Q dd 1 (4 - (ee : Int)))), .second] [(.ref a1), (.double (own_Q tt 1 (-2)))])
  obtain ⟨T3, X3, e3, st3⟩ := getF X1 hx hZ hown (host := "") (Or.inl (hw _ (List.mem_of_getElem? (i := 19) rfl))) Via.refl e1 Fk (g := (mkF m 50 #[.val (.ref a1), .val (.double (own_Q tt 1 (-2))), .second, .val (.int p3), .val (.double (own_Q Ae 1 (-4))), .second, .val (.double (own_Q dd 1 (4 - (ee : Int)))), .second] [(.ref a1), (.double (own_Q tt 1 (-2)))])) rfl rfl (hb hby d4_50)
  refine own_by st3 ?_
  show ORun p e below s _ _ _ T3 (mkF m 53 #[.val (.ref a1), .val (.double (own_Q tt 1 (-2))), .second, .val (.int p3), .val (.double (own_Q Ae 1 (-4))), .second, .val (.double (own_Q dd 1 (4 - (ee : Int)))), .second] [(.double (own_Q aa 1 (-2))), (.double (own_Q tt 1 (-2)))])
  refine own_by (fun t k => XS.dconst1 X3.here hx rfl (hb hby d4_53) own_d1 k) ?_
  show ORun p e below s _ _ _ T3 (mkF m 54 #[.val (.ref a1), .val (.double (own_Q tt 1 (-2))), .second, .val (.int p3), .val (.double (own_Q Ae 1 (-4))), .second, .val (.double (own_Q dd 1 (4 - (ee : Int)))), .second] [(.double (own_Q 1 1 0)), (.double (own_Q aa 1 (-2))), (.double (own_Q tt 1 (-2)))])
  have fq4 : FP.dadd (own_Q aa 1 (-2)) (own_Q 1 1 0) = (own_Q (aa + 4) 1 (-2)) := f2
  refine own_by (fun t k => XS.daddS X3.here hx rfl (hb hby d4_54) rfl (by rw [fq4]; exact own_Qno _ (by decide) _) fq4 k) ?_
  show ORun p e below s _ _ _ T3 (mkF m 55 #[.val (.ref a1), .val (.double (own_Q tt 1 (-2))), .second, .val (.int p3), .val (.double (own_Q Ae 1 (-4))), .second, .val (.double (own_Q dd 1 (4 - (ee : Int)))), .second] [(.double (own_Q (aa + 4) 1 (-2))), (.double (own_Q tt 1 (-2)))])
  have fq5 : FP.dmul (own_Q tt 1 (-2)) (own_Q (aa + 4) 1 (-2)) = (own_Q (tt * (aa + 4)) 1 (-4)) := f3
  refine own_by (fun t k => XS.dmulS X3.here hx rfl (hb hby d4_55) rfl (by rw [fq5]; exact own_Qno _ (by decide) _) fq5 k) ?_
  show ORun p e below s _ _ _ T3 (mkF m 56 #[.val (.ref a1), .val (.double (own_Q tt 1 (-2))), .second, .val (.int p3), .val (.double (own_Q Ae 1 (-4))), .second, .val (.double (own_Q dd 1 (4 - (ee : Int)))), .second] [(.double (own_Q (tt * (aa + 4)) 1 (-4)))])
  refine own_by (fun t k => XS.dloadN X3.here hx rfl (hb hby d4_56) rfl k) ?_
  show ORun p e below s _ _ _ T3 (mkF m 57 #[.val (.ref a1), .val (.double (own_Q tt 1 (-2))), .second, .val (.int p3), .val (.double (own_Q Ae 1 (-4))), .second, .val (.double (own_Q dd 1 (4 - (ee : Int)))), .second] [(.double (own_Q tt 1 (-2))), (.double (own_Q (tt * (aa + 4)) 1 (-4)))])
  refine own_by (fun t k => XS.aloadN X3.here hx rfl (hb hby d4_57) rfl rfl k) ?_
  show ORun p e below s _ _ _ T3 (mkF m 58 #[.val (.ref a1), .val (.double (own_Q tt 1 (-2))), .second, .val (.int p3), .val (.double (own_Q Ae 1 (-4))), .second, .val (.double (own_Q dd 1 (4 - (ee : Int)))), .second] [(.ref a1), (.double (own_Q tt 1 (-2))), (.double (own_Q (tt * (aa + 4)) 1 (-4)))])
  obtain ⟨T6, X6, e6, st6⟩ := getF X3 hx hZ hown (host := "") (Or.inl (hw _ (List.mem_of_getElem? (i := 19) rfl))) Via.refl e3 Fk (g := (mkF m 58 #[.val (.ref a1), .val (.double (own_Q tt 1 (-2))), .second, .val (.int p3), .val (.double (own_Q Ae 1 (-4))), .second, .val (.double (own_Q dd 1 (4 - (ee : Int)))), .second] [(.ref a1), (.double (own_Q tt 1 (-2))), (.double (own_Q (tt * (aa + 4)) 1 (-4)))])) rfl rfl (hb hby d4_58)
  refine own_by st6 ?_
  show ORun p e below s _ _ _ T6 (mkF m 61 #[.val (.ref a1), .val (.double (own_Q tt 1 (-2))), .second, .val (.int p3), .val (.double (own_Q Ae 1 (-4))), .second, .val (.double (own_Q dd 1 (4 - (ee : Int)))), .second] [(.double (own_Q aa 1 (-2))), (.double (own_Q tt 1 (-2))), (.double (own_Q (tt * (aa + 4)) 1 (-4)))])
  refine own_by (fun t k => XS.dconst1 X6.here hx rfl (hb hby d4_61) own_d1 k) ?_
  show ORun p e below s _ _ _ T6 (mkF m 62 #[.val (.ref a1), .val (.double (own_Q tt 1 (-2))), .second, .val (.int p3), .val (.double (own_Q Ae 1 (-4))), .second, .val (.double (own_Q dd 1 (4 - (ee : Int)))), .second] [(.double (own_Q 1 1 0)), (.double (own_Q aa 1 (-2))), (.double (own_Q tt 1 (-2))), (.double (own_Q (tt * (aa + 4)) 1 (-4)))])
  refine own_by (fun t k => XS.aloadN X6.here hx rfl (hb hby d4_62) rfl rfl k) ?_
  show ORun p e below s _ _ _ T6 (mkF m 63 #[.val (.ref a1), .val (.double (own_Q tt 1 (-2))), .second, .val (.int p3), .val (.double (own_Q Ae 1 (-4))), .second, .val (.double (own_Q dd 1 (4 - (ee : Int)))), .second] [(.ref a1), (.double (own_Q 1 1 0)), (.double (own_Q aa 1 (-2))), (.double (own_Q tt 1 (-2))), (.double (own_Q (tt * (aa + 4)) 1 (-4)))])
  obtain ⟨T7, X7, e7, st7⟩ := getF X6 hx hZ hown (host := "") (Or.inl (hw _ (List.mem_of_getElem? (i := 21) rfl))) Via.refl e6 Fb (g := (mkF m 63 #[.val (.ref a1), .val (.double (own_Q tt 1 (-2))), .second, .val (.int p3), .val (.double (own_Q Ae 1 (-4))), .second, .val (.double (own_Q dd 1 (4 - (ee : Int)))), .second] [(.ref a1), (.double (own_Q 1 1 0)), (.double (own_Q aa 1 (-2))), (.double (own_Q tt 1 (-2))), (.double (own_Q (tt * (aa + 4)) 1 (-4)))])) rfl rfl (hb hby d4_63)
  refine own_by st7 ?_
  show ORun p e below s _ _ _ T7 (mkF m 66 #[.val (.ref a1), .val (.double (own_Q tt 1 (-2))), .second, .val (.int p3), .val (.double (own_Q Ae 1 (-4))), .second, .val (.double (own_Q dd 1 (4 - (ee : Int)))), .second] [(.double (own_Q jj 1 (-2))), (.double (own_Q 1 1 0)), (.double (own_Q aa 1 (-2))), (.double (own_Q tt 1 (-2))), (.double (own_Q (tt * (aa + 4)) 1 (-4)))])
  have fq8 : FP.dsub (own_Q 1 1 0) (own_Q jj 1 (-2)) = (own_Q (4 - jj) 1 (-2)) := f4
  refine own_by (fun t k => XS.dsubS X7.here hx rfl (hb hby d4_66) rfl (by rw [fq8]; exact own_Qno _ (by decide) _) fq8 k) ?_
  show ORun p e below s _ _ _ T7 (mkF m 67 #[.val (.ref a1), .val (.double (own_Q tt 1 (-2))), .second, .val (.int p3), .val (.double (own_Q Ae 1 (-4))), .second, .val (.double (own_Q dd 1 (4 - (ee : Int)))), .second] [(.double (own_Q (4 - jj) 1 (-2))), (.double (own_Q aa 1 (-2))), (.double (own_Q tt 1 (-2))), (.double (own_Q (tt * (aa + 4)) 1 (-4)))])
  refine own_by (fun t k => XS.aloadN X7.here hx rfl (hb hby d4_67) rfl rfl k) ?_
  show ORun p e below s _ _ _ T7 (mkF m 68 #[.val (.ref a1), .val (.double (own_Q tt 1 (-2))), .second, .val (.int p3), .val (.double (own_Q Ae 1 (-4))), .second, .val (.double (own_Q dd 1 (4 - (ee : Int)))), .second] [(.ref a1), (.double (own_Q (4 - jj) 1 (-2))), (.double (own_Q aa 1 (-2))), (.double (own_Q tt 1 (-2))), (.double (own_Q (tt * (aa + 4)) 1 (-4)))])
  obtain ⟨T9, X9, e9, st9⟩ := getF X7 hx hZ hown (host := "") (Or.inl (hw _ (List.mem_of_getElem? (i := 21) rfl))) Via.refl e7 Fb (g := (mkF m 68 #[.val (.ref a1), .val (.double (own_Q tt 1 (-2))), .second, .val (.int p3), .val (.double (own_Q Ae 1 (-4))), .second, .val (.double (own_Q dd 1 (4 - (ee : Int)))), .second] [(.ref a1), (.double (own_Q (4 - jj) 1 (-2))), (.double (own_Q aa 1 (-2))), (.double (own_Q tt 1 (-2))), (.double (own_Q (tt * (aa + 4)) 1 (-4)))])) rfl rfl (hb hby d4_68)
  refine own_by st9 ?_
  show ORun p e below s _ _ _ T9 (mkF m 71 #[.val (.ref a1), .val (.double (own_Q tt 1 (-2))), .second, .val (.int p3), .val (.double (own_Q Ae 1 (-4))), .second, .val (.double (own_Q dd 1 (4 - (ee : Int)))), .second] [(.double (own_Q jj 1 (-2))), (.double (own_Q (4 - jj) 1 (-2))), (.double (own_Q aa 1 (-2))), (.double (own_Q tt 1 (-2))), (.double (own_Q (tt * (aa + 4)) 1 (-4)))])
  refine own_by (fun t k => XS.dload X9.here hx rfl (hb hby d4_71) rfl k) ?_
  show ORun p e below s _ _ _ T9 (mkF m 73 #[.val (.ref a1), .val (.double (own_Q tt 1 (-2))), .second, .val (.int p3), .val (.double (own_Q Ae 1 (-4))), .second, .val (.double (own_Q dd 1 (4 - (ee : Int)))), .second] [(.double (own_Q dd 1 (4 - (ee : Int)))), (.double (own_Q jj 1 (-2))), (.double (own_Q (4 - jj) 1 (-2))), (.double (own_Q aa 1 (-2))), (.double (own_Q tt 1 (-2))), (.double (own_Q (tt * (aa + 4)) 1 (-4)))])
  have fq10 : FP.dmul (own_Q jj 1 (-2)) (own_Q dd 1 (4 - (ee : Int))) = (own_Q (jj * dd) 1 (2 - (ee : Int))) := f5
  refine own_by (fun t k => XS.dmulS X9.here hx rfl (hb hby d4_73) rfl (by rw [fq10]; exact own_Qno _ (by decide) _) fq10 k) ?_
  show ORun p e below s _ _ _ T9 (mkF m 74 #[.val (.ref a1), .val (.double (own_Q tt 1 (-2))), .second, .val (.int p3), .val (.double (own_Q Ae 1 (-4))), .second, .val (.double (own_Q dd 1 (4 - (ee : Int)))), .second] [(.double (own_Q (jj * dd) 1 (2 - (ee : Int)))), (.double (own_Q (4 - jj) 1 (-2))), (.double (own_Q aa 1 (-2))), (.double (own_Q tt 1 (-2))), (.double (own_Q (tt * (aa + 4)) 1 (-4)))])
  have fq11 : FP.dadd (own_Q (4 - jj) 1 (-2)) (own_Q (jj * dd) 1 (2 - (ee : Int))) = (own_Q ((4 - jj) * Ae + jj * dd * 16) 1 (-2 - (ee : Int))) := f6
  refine own_by (fun t k => XS.daddS X9.here hx rfl (hb hby d4_74) rfl (by rw [fq11]; exact own_Qno _ (by decide) _) fq11 k) ?_
  show ORun p e below s _ _ _ T9 (mkF m 75 #[.val (.ref a1), .val (.double (own_Q tt 1 (-2))), .second, .val (.int p3), .val (.double (own_Q Ae 1 (-4))), .second, .val (.double (own_Q dd 1 (4 - (ee : Int)))), .second] [(.double (own_Q ((4 - jj) * Ae + jj * dd * 16) 1 (-2 - (ee : Int)))), (.double (own_Q aa 1 (-2))), (.double (own_Q tt 1 (-2))), (.double (own_Q (tt * (aa + 4)) 1 (-4)))])
  have fq12 : FP.dmul (own_Q aa 1 (-2)) (own_Q ((4 - jj) * Ae + jj * dd * 16) 1 (-2 - (ee : Int))) = (own_Q (aa * ((4 - jj) * Ae + jj * dd * 16)) 1 (-4 - (ee : Int))) := f7
  refine own_by (fun t k => XS.dmulS X9.here hx rfl (hb hby d4_75) rfl (by rw [fq12]; exact own_Qno _ (by decide) _) fq12 k) ?_
  show ORun p e below s _ _ _ T9 (mkF m 76 #[.val (.ref a1), .val (.double (own_Q tt 1 (-2))), .second, .val (.int p3), .val (.double (own_Q Ae 1 (-4))), .second, .val (.double (own_Q dd 1 (4 - (ee : Int)))), .second] [(.double (own_Q (aa * ((4 - jj) * Ae + jj * dd * 16)) 1 (-4 - (ee : Int)))), (.double (own_Q tt 1 (-2))), (.double (own_Q (tt * (aa + 4)) 1 (-4)))])
  have fq13 : FP.dadd (own_Q tt 1 (-2)) (own_Q (aa * ((4 - jj) * Ae + jj * dd * 16)) 1 (-4 - (ee : Int))) = (own_Q (4 * Ae * tt + aa * ((4 - jj) * Ae + jj * dd * 16)) 1 (-4 - (ee : Int))) := f8
  refine own_by (fun t k => XS.daddS X9.here hx rfl (hb hby d4_76) rfl (by rw [fq13]; exact own_Qno _ (by decide) _) fq13 k) ?_
  show ORun p e below s _ _ _ T9 (mkF m 77 #[.val (.ref a1), .val (.double (own_Q tt 1 (-2))), .second, .val (.int p3), .val (.double (own_Q Ae 1 (-4))), .second, .val (.double (own_Q dd 1 (4 - (ee : Int)))), .second] [(.double (own_Q (4 * Ae * tt + aa * ((4 - jj) * Ae + jj * dd * 16)) 1 (-4 - (ee : Int)))), (.double (own_Q (tt * (aa + 4)) 1 (-4)))])
  have fq14 : FP.ddiv (own_Q (tt * (aa + 4)) 1 (-4)) (own_Q (4 * Ae * tt + aa * ((4 - jj) * Ae + jj * dd * 16)) 1 (-4 - (ee : Int))) = (own_Q (Ae * tt * (aa + 4)) (4 * Ae * tt + aa * ((4 - jj) * Ae + jj * dd * 16)) 0) := f9
  refine own_by (fun t k => XS.ddivS X9.here hx rfl (hb hby d4_77) rfl (by rw [fq14]; exact own_Qno _ hW _) fq14 k) ?_
  show ORun p e below s _ _ _ T9 (mkF m 78 #[.val (.ref a1), .val (.double (own_Q tt 1 (-2))), .second, .val (.int p3), .val (.double (own_Q Ae 1 (-4))), .second, .val (.double (own_Q dd 1 (4 - (ee : Int)))), .second] [(.double (own_Q (Ae * tt * (aa + 4)) (4 * Ae * tt + aa * ((4 - jj) * Ae + jj * dd * 16)) 0))])
  refine own_retD X9 hx hret hlk (hb hby d4_78) (by decide) (by decide) ?_
  exact ⟨rfl, N0, e9⟩
theorem pn_rm0 : plainName "com/example/baris/baris/engine/scoring/Bm25TermFrequencyNormPinLaw" = true := by first | (simp [plainName, overriddenIn]; done) | decide +kernel
theorem ef_rm0 (m : MethodId) (x0 : Int32) (x1 : Int32) (x2 : Int32) (x3 : Int32) (x4 : Int32) : entryFrame m #[(.int x0), (.int x1), (.int x2), (.int x3), (.int x4)] maxLocals = mkF m 0 #[.val (.int x0), .val (.int x1), .val (.int x2), .val (.int x3), .val (.int x4), .unset, .unset, .unset, .unset, .unset, .unset, .unset, .unset, .unset, .unset, .unset, .unset, .unset, .unset, .unset, .unset, .unset, .unset, .unset, .unset, .unset, .unset, .unset, .unset, .unset] [] := by first | (simp [entryFrame, mkF, argsToLocals, Value.category, maxLocals]; done) | rfl
set_option maxRecDepth 65536 in
set_option maxHeartbeats 40000000 in
theorem rm0 (l : Launch) (Z : State) (a0 : Array Value) (hw : ∀ d ∈ tables_1, d.before a0 Z = true) (ws : List Jvm.Cond) (h0 : Heap) (n0 : Nat) (Z0 : n0 ≤ h0.size) (p1 p2 p3 p4 p5 : Int32) (Sd : Sta Z h0 "com/example/baris/baris/engine/scoring/Bm25" "$assertionsDisabled" "Z" (.int 1)) :
    OMet l x code maxLocals ret ws room_1 #[(.int p1), (.int p2), (.int p3), (.int p4), (.int p5)] Z h0 (fun v h L => v = some (.int 1) ∧ Fr n0 L) := by
  refine own_met (plainFor_of_name pn_rm0) ?_
  intro p e s m below meth c s₁ X0 hx hby hml hown hnm hret hlk hZ e0
  rw [ef_rm0]
  have N0 := Fr.nil n0
  have rg_p1 := rng32 p1
  have rg_p2 := rng32 p2
  have rg_p3 := rng32 p3
  have rg_p4 := rng32 p4
  have rg_p5 := rng32 p5
  show ORun p e below s _ _ _ s₁ (mkF m 0 #[.val (.int p1), .val (.int p2), .val (.int p3), .val (.int p4), .val (.int p5), .unset, .unset, .unset, .unset, .unset, .unset, .unset, .unset, .unset, .unset, .unset, .unset, .unset, .unset, .unset, .unset, .unset, .unset, .unset, .unset, .unset, .unset, .unset, .unset, .unset] [])
  refine own_by (fun t k => XS.iloadN X0.here hx rfl (hb hby at_0) rfl k) ?_
  show ORun p e below s _ _ _ s₁ (mkF m 1 #[.val (.int p1), .val (.int p2), .val (.int p3), .val (.int p4), .val (.int p5), .unset, .unset, .unset, .unset, .unset, .unset, .unset, .unset, .unset, .unset, .unset, .unset, .unset, .unset, .unset, .unset, .unset, .unset, .unset, .unset, .unset, .unset, .unset, .unset, .unset] [(.int p1)])
  refine own_by (fun t k => X0.ldcInt hx hown (mvT hZ (hw _ (List.mem_of_getElem? (i := 0) rfl))) (g := (mkF m 1 #[.val (.int p1), .val (.int p2), .val (.int p3), .val (.int p4), .val (.int p5), .unset, .unset, .unset, .unset, .unset, .unset, .unset, .unset, .unset, .unset, .unset, .unset, .unset, .unset, .unset, .unset, .unset, .unset, .unset, .unset, .unset, .unset, .unset, .unset, .unset] [(.int p1)])) rfl (hb hby at_1) _ k) ?_
  show ORun p e below s _ _ _ s₁ (mkF m 3 #[.val (.int p1), .val (.int p2), .val (.int p3), .val (.int p4), .val (.int p5), .unset, .unset, .unset, .unset, .unset, .unset, .unset, .unset, .unset, .unset, .unset, .unset, .unset, .unset, .unset, .unset, .unset, .unset, .unset, .unset, .unset, .unset, .unset, .unset, .unset] [(.int (1048575 : Int32)), (.int p1)])
  refine own_by (fun t k => XS.iand X0.here hx rfl (hb hby at_3) rfl k) (own_letI (f := (fun z => (mkF m 4 #[.val (.int p1), .val (.int p2), .val (.int p3), .val (.int p4), .val (.int p5), .unset, .unset, .unset, .unset, .unset, .unset, .unset, .unset, .unset, .unset, .unset, .unset, .unset, .unset, .unset, .unset, .unset, .unset, .unset, .unset, .unset, .unset, .unset, .unset, .unset] [(.int z)]))) (p1 &&& (1048575 : Int32)) fun v1 hv1 => ?_)
  show ORun p e below s _ _ _ s₁ (mkF m 4 #[.val (.int p1), .val (.int p2), .val (.int p3), .val (.int p4), .val (.int p5), .unset, .unset, .unset, .unset, .unset, .unset, .unset, .unset, .unset, .unset, .unset, .unset, .unset, .unset, .unset, .unset, .unset, .unset, .unset, .unset, .unset, .unset, .unset, .unset, .unset] [(.int v1)])
  have a1a : v1.toInt = p1.toInt % 1048576 := by rw [hv1]; exact c_mask p1 (1048575 : Int32) 20 (by decide) (by decide)
  have r1 := rng32 v1
  refine own_by (fun t k => XS.iconst X0.here hx rfl (hb hby at_4) k) ?_
  show ORun p e below s _ _ _ s₁ (mkF m 5 #[.val (.int p1), .val (.int p2), .val (.int p3), .val (.int p4), .val (.int p5), .unset, .unset, .unset, .unset, .unset, .unset, .unset, .unset, .unset, .unset, .unset, .unset, .unset, .unset, .unset, .unset, .unset, .unset, .unset, .unset, .unset, .unset, .unset, .unset, .unset] [(.int (1 : Int32)), (.int v1)])
  refine own_by (fun t k => XS.iadd X0.here hx rfl (hb hby at_5) rfl k) (own_letI (f := (fun z => (mkF m 6 #[.val (.int p1), .val (.int p2), .val (.int p3), .val (.int p4), .val (.int p5), .unset, .unset, .unset, .unset, .unset, .unset, .unset, .unset, .unset, .unset, .unset, .unset, .unset, .unset, .unset, .unset, .unset, .unset, .unset, .unset, .unset, .unset, .unset, .unset, .unset] [(.int z)]))) (v1 + (1 : Int32)) fun v2 hv2 => ?_)
  show ORun p e below s _ _ _ s₁ (mkF m 6 #[.val (.int p1), .val (.int p2), .val (.int p3), .val (.int p4), .val (.int p5), .unset, .unset, .unset, .unset, .unset, .unset, .unset, .unset, .unset, .unset, .unset, .unset, .unset, .unset, .unset, .unset, .unset, .unset, .unset, .unset, .unset, .unset, .unset, .unset, .unset] [(.int v2)])
  have r2 := rng32 v2
  have a2 : v2.toInt = v1.toInt + 1 := by
    have q : (v2.toInt - (v1.toInt + 1)) % 4294967296 = 0 := by rw [hv2]; exact c_iadd v1 (1 : Int32)
    omega
  refine own_by (fun t k => XS.istore X0.here hx rfl (hb hby at_6) rfl (l' := #[.val (.int p1), .val (.int p2), .val (.int p3), .val (.int p4), .val (.int p5), .val (.int v2), .unset, .unset, .unset, .unset, .unset, .unset, .unset, .unset, .unset, .unset, .unset, .unset, .unset, .unset, .unset, .unset, .unset, .unset, .unset, .unset, .unset, .unset, .unset, .unset]) rfl k) ?_
  show ORun p e below s _ _ _ s₁ (mkF m 8 #[.val (.int p1), .val (.int p2), .val (.int p3), .val (.int p4), .val (.int p5), .val (.int v2), .unset, .unset, .unset, .unset, .unset, .unset, .unset, .unset, .unset, .unset, .unset, .unset, .unset, .unset, .unset, .unset, .unset, .unset, .unset, .unset, .unset, .unset, .unset, .unset] [])
  refine own_by (fun t k => XS.iloadN X0.here hx rfl (hb hby at_8) rfl k) ?_
  show ORun p e below s _ _ _ s₁ (mkF m 9 #[.val (.int p1), .val (.int p2), .val (.int p3), .val (.int p4), .val (.int p5), .val (.int v2), .unset, .unset, .unset, .unset, .unset, .unset, .unset, .unset, .unset, .unset, .unset, .unset, .unset, .unset, .unset, .unset, .unset, .unset, .unset, .unset, .unset, .unset, .unset, .unset] [(.int p2)])
  refine own_by (fun t k => X0.ldcInt hx hown (mvT hZ (hw _ (List.mem_of_getElem? (i := 1) rfl))) (g := (mkF m 9 #[.val (.int p1), .val (.int p2), .val (.int p3), .val (.int p4), .val (.int p5), .val (.int v2), .unset, .unset, .unset, .unset, .unset, .unset, .unset, .unset, .unset, .unset, .unset, .unset, .unset, .unset, .unset, .unset, .unset, .unset, .unset, .unset, .unset, .unset, .unset, .unset] [(.int p2)])) rfl (hb hby at_9) _ k) ?_
  show ORun p e below s _ _ _ s₁ (mkF m 11 #[.val (.int p1), .val (.int p2), .val (.int p3), .val (.int p4), .val (.int p5), .val (.int v2), .unset, .unset, .unset, .unset, .unset, .unset, .unset, .unset, .unset, .unset, .unset, .unset, .unset, .unset, .unset, .unset, .unset, .unset, .unset, .unset, .unset, .unset, .unset, .unset] [(.int (2147483647 : Int32)), (.int p2)])
  refine own_by (fun t k => XS.iand X0.here hx rfl (hb hby at_11) rfl k) (own_letI (f := (fun z => (mkF m 12 #[.val (.int p1), .val (.int p2), .val (.int p3), .val (.int p4), .val (.int p5), .val (.int v2), .unset, .unset, .unset, .unset, .unset, .unset, .unset, .unset, .unset, .unset, .unset, .unset, .unset, .unset, .unset, .unset, .unset, .unset, .unset, .unset, .unset, .unset, .unset, .unset] [(.int z)]))) (p2 &&& (2147483647 : Int32)) fun v3 hv3 => ?_)
  show ORun p e below s _ _ _ s₁ (mkF m 12 #[.val (.int p1), .val (.int p2), .val (.int p3), .val (.int p4), .val (.int p5), .val (.int v2), .unset, .unset, .unset, .unset, .unset, .unset, .unset, .unset, .unset, .unset, .unset, .unset, .unset, .unset, .unset, .unset, .unset, .unset, .unset, .unset, .unset, .unset, .unset, .unset] [(.int v3)])
  have a3a : v3.toInt = p2.toInt % 2147483648 := by rw [hv3]; exact c_mask p2 (2147483647 : Int32) 31 (by decide) (by decide)
  have r3 := rng32 v3
  refine own_by (fun t k => XS.istore X0.here hx rfl (hb hby at_12) rfl (l' := #[.val (.int p1), .val (.int p2), .val (.int p3), .val (.int p4), .val (.int p5), .val (.int v2), .val (.int v3), .unset, .unset, .unset, .unset, .unset, .unset, .unset, .unset, .unset, .unset, .unset, .unset, .unset, .unset, .unset, .unset, .unset, .unset, .unset, .unset, .unset, .unset, .unset]) rfl k) ?_
  show ORun p e below s _ _ _ s₁ (mkF m 14 #[.val (.int p1), .val (.int p2), .val (.int p3), .val (.int p4), .val (.int p5), .val (.int v2), .val (.int v3), .unset, .unset, .unset, .unset, .unset, .unset, .unset, .unset, .unset, .unset, .unset, .unset, .unset, .unset, .unset, .unset, .unset, .unset, .unset, .unset, .unset, .unset, .unset] [])
  have J4 : ∀ w4 : Int32, (1 ≤ w4.toInt) → ORun p e below s (fun v h L => v = some (.int 1) ∧ Fr n0 L) room_1.cells room_1.slots s₁ (mkF m 22 #[.val (.int p1), .val (.int p2), .val (.int p3), .val (.int p4), .val (.int p5), .val (.int v2), .val (.int w4), .unset, .unset, .unset, .unset, .unset, .unset, .unset, .unset, .unset, .unset, .unset, .unset, .unset, .unset, .unset, .unset, .unset, .unset, .unset, .unset, .unset, .unset, .unset] []) := by
    intro w4 hJ4
    have rj4 := rng32 w4
    refine own_by (fun t k => XS.iloadN X0.here hx rfl (hb hby at_22) rfl k) ?_
    show ORun p e below s _ _ _ s₁ (mkF m 23 #[.val (.int p1), .val (.int p2), .val (.int p3), .val (.int p4), .val (.int p5), .val (.int v2), .val (.int w4), .unset, .unset, .unset, .unset, .unset, .unset, .unset, .unset, .unset, .unset, .unset, .unset, .unset, .unset, .unset, .unset, .unset, .unset, .unset, .unset, .unset, .unset, .unset] [(.int p3)])
    refine own_by (fun t k => XS.bipush X0.here hx rfl (hb hby at_23) k) ?_
    show ORun p e below s _ _ _ s₁ (mkF m 25 #[.val (.int p1), .val (.int p2), .val (.int p3), .val (.int p4), .val (.int p5), .val (.int v2), .val (.int w4), .unset, .unset, .unset, .unset, .unset, .unset, .unset, .unset, .unset, .unset, .unset, .unset, .unset, .unset, .unset, .unset, .unset, .unset, .unset, .unset, .unset, .unset, .unset] [(.int (15 : Int32)), (.int p3)])
    refine own_by (fun t k => XS.iand X0.here hx rfl (hb hby at_25) rfl k) (own_letI (f := (fun z => (mkF m 26 #[.val (.int p1), .val (.int p2), .val (.int p3), .val (.int p4), .val (.int p5), .val (.int v2), .val (.int w4), .unset, .unset, .unset, .unset, .unset, .unset, .unset, .unset, .unset, .unset, .unset, .unset, .unset, .unset, .unset, .unset, .unset, .unset, .unset, .unset, .unset, .unset, .unset] [(.int z)]))) (p3 &&& (15 : Int32)) fun v5 hv5 => ?_)
    show ORun p e below s _ _ _ s₁ (mkF m 26 #[.val (.int p1), .val (.int p2), .val (.int p3), .val (.int p4), .val (.int p5), .val (.int v2), .val (.int w4), .unset, .unset, .unset, .unset, .unset, .unset, .unset, .unset, .unset, .unset, .unset, .unset, .unset, .unset, .unset, .unset, .unset, .unset, .unset, .unset, .unset, .unset, .unset] [(.int v5)])
    have a5a : v5.toInt = p3.toInt % 16 := by rw [hv5]; exact c_mask p3 (15 : Int32) 4 (by decide) (by decide)
    have r5 := rng32 v5
    refine own_by (fun t k => XS.istore X0.here hx rfl (hb hby at_26) rfl (l' := #[.val (.int p1), .val (.int p2), .val (.int p3), .val (.int p4), .val (.int p5), .val (.int v2), .val (.int w4), .val (.int v5), .unset, .unset, .unset, .unset, .unset, .unset, .unset, .unset, .unset, .unset, .unset, .unset, .unset, .unset, .unset, .unset, .unset, .unset, .unset, .unset, .unset, .unset]) rfl k) ?_
    show ORun p e below s _ _ _ s₁ (mkF m 28 #[.val (.int p1), .val (.int p2), .val (.int p3), .val (.int p4), .val (.int p5), .val (.int v2), .val (.int w4), .val (.int v5), .unset, .unset, .unset, .unset, .unset, .unset, .unset, .unset, .unset, .unset, .unset, .unset, .unset, .unset, .unset, .unset, .unset, .unset, .unset, .unset, .unset, .unset] [])
    refine own_by (fun t k => XS.iconst X0.here hx rfl (hb hby at_28) k) ?_
    show ORun p e below s _ _ _ s₁ (mkF m 29 #[.val (.int p1), .val (.int p2), .val (.int p3), .val (.int p4), .val (.int p5), .val (.int v2), .val (.int w4), .val (.int v5), .unset, .unset, .unset, .unset, .unset, .unset, .unset, .unset, .unset, .unset, .unset, .unset, .unset, .unset, .unset, .unset, .unset, .unset, .unset, .unset, .unset, .unset] [(.int (1 : Int32))])
    refine own_by (fun t k => XS.iload X0.here hx rfl (hb hby at_29) rfl k) ?_
    show ORun p e below s _ _ _ s₁ (mkF m 31 #[.val (.int p1), .val (.int p2), .val (.int p3), .val (.int p4), .val (.int p5), .val (.int v2), .val (.int w4), .val (.int v5), .unset, .unset, .unset, .unset, .unset, .unset, .unset, .unset, .unset, .unset, .unset, .unset, .unset, .unset, .unset, .unset, .unset, .unset, .unset, .unset, .unset, .unset] [(.int v5), (.int (1 : Int32))])
    refine own_by (fun t k => XS.ishl X0.here hx rfl (hb hby at_31) rfl k) (own_letI (f := (fun z => (mkF m 32 #[.val (.int p1), .val (.int p2), .val (.int p3), .val (.int p4), .val (.int p5), .val (.int v2), .val (.int w4), .val (.int v5), .unset, .unset, .unset, .unset, .unset, .unset, .unset, .unset, .unset, .unset, .unset, .unset, .unset, .unset, .unset, .unset, .unset, .unset, .unset, .unset, .unset, .unset] [(.int z)]))) ((1 : Int32) <<< (v5 &&& 31)) fun v6 hv6 => ?_)
    show ORun p e below s _ _ _ s₁ (mkF m 32 #[.val (.int p1), .val (.int p2), .val (.int p3), .val (.int p4), .val (.int p5), .val (.int v2), .val (.int w4), .val (.int v5), .unset, .unset, .unset, .unset, .unset, .unset, .unset, .unset, .unset, .unset, .unset, .unset, .unset, .unset, .unset, .unset, .unset, .unset, .unset, .unset, .unset, .unset] [(.int v6)])
    obtain ⟨ee, hee⟩ : ∃ n : Nat, v5.toInt = n := ⟨v5.toInt.toNat, by omega⟩
    have he : ee ≤ 15 := by omega
    obtain ⟨Ae, hA⟩ : ∃ n : Nat, n = 2 ^ ee := ⟨_, rfl⟩
    have hAe : v6.toInt = (Ae : Int) := by rw [hv6, hA]; exact own_shl1 hee he
    have h2e : 1 ≤ Ae ∧ Ae ≤ 32768 := by rw [hA]; exact own_2e he
    refine own_by (fun t k => XS.istore X0.here hx rfl (hb hby at_32) rfl (l' := #[.val (.int p1), .val (.int p2), .val (.int p3), .val (.int p4), .val (.int p5), .val (.int v2), .val (.int w4), .val (.int v5), .val (.int v6), .unset, .unset, .unset, .unset, .unset, .unset, .unset, .unset, .unset, .unset, .unset, .unset, .unset, .unset, .unset, .unset, .unset, .unset, .unset, .unset, .unset]) rfl k) ?_
    show ORun p e below s _ _ _ s₁ (mkF m 34 #[.val (.int p1), .val (.int p2), .val (.int p3), .val (.int p4), .val (.int p5), .val (.int v2), .val (.int w4), .val (.int v5), .val (.int v6), .unset, .unset, .unset, .unset, .unset, .unset, .unset, .unset, .unset, .unset, .unset, .unset, .unset, .unset, .unset, .unset, .unset, .unset, .unset, .unset, .unset] [])
    refine own_by (fun t k => XS.iloadN X0.here hx rfl (hb hby at_34) rfl k) ?_
    show ORun p e below s _ _ _ s₁ (mkF m 35 #[.val (.int p1), .val (.int p2), .val (.int p3), .val (.int p4), .val (.int p5), .val (.int v2), .val (.int w4), .val (.int v5), .val (.int v6), .unset, .unset, .unset, .unset, .unset, .unset, .unset, .unset, .unset, .unset, .unset, .unset, .unset, .unset, .unset, .unset, .unset, .unset, .unset, .unset, .unset] [(.int p4)])
    refine own_by (fun t k => XS.sipush X0.here hx rfl (hb hby at_35) k) ?_
    show ORun p e below s _ _ _ s₁ (mkF m 38 #[.val (.int p1), .val (.int p2), .val (.int p3), .val (.int p4), .val (.int p5), .val (.int v2), .val (.int w4), .val (.int v5), .val (.int v6), .unset, .unset, .unset, .unset, .unset, .unset, .unset, .unset, .unset, .unset, .unset, .unset, .unset, .unset, .unset, .unset, .unset, .unset, .unset, .unset, .unset] [(.int (255 : Int32)), (.int p4)])
    refine own_by (fun t k => XS.iand X0.here hx rfl (hb hby at_38) rfl k) (own_letI (f := (fun z => (mkF m 39 #[.val (.int p1), .val (.int p2), .val (.int p3), .val (.int p4), .val (.int p5), .val (.int v2), .val (.int w4), .val (.int v5), .val (.int v6), .unset, .unset, .unset, .unset, .unset, .unset, .unset, .unset, .unset, .unset, .unset, .unset, .unset, .unset, .unset, .unset, .unset, .unset, .unset, .unset, .unset] [(.int z)]))) (p4 &&& (255 : Int32)) fun v7 hv7 => ?_)
    show ORun p e below s _ _ _ s₁ (mkF m 39 #[.val (.int p1), .val (.int p2), .val (.int p3), .val (.int p4), .val (.int p5), .val (.int v2), .val (.int w4), .val (.int v5), .val (.int v6), .unset, .unset, .unset, .unset, .unset, .unset, .unset, .unset, .unset, .unset, .unset, .unset, .unset, .unset, .unset, .unset, .unset, .unset, .unset, .unset, .unset] [(.int v7)])
    have a7a : v7.toInt = p4.toInt % 256 := by rw [hv7]; exact c_mask p4 (255 : Int32) 8 (by decide) (by decide)
    have r7 := rng32 v7
    refine own_by (fun t k => XS.istore X0.here hx rfl (hb hby at_39) rfl (l' := #[.val (.int p1), .val (.int p2), .val (.int p3), .val (.int p4), .val (.int p5), .val (.int v2), .val (.int w4), .val (.int v5), .val (.int v6), .val (.int v7), .unset, .unset, .unset, .unset, .unset, .unset, .unset, .unset, .unset, .unset, .unset, .unset, .unset, .unset, .unset, .unset, .unset, .unset, .unset, .unset]) rfl k) ?_
    show ORun p e below s _ _ _ s₁ (mkF m 41 #[.val (.int p1), .val (.int p2), .val (.int p3), .val (.int p4), .val (.int p5), .val (.int v2), .val (.int w4), .val (.int v5), .val (.int v6), .val (.int v7), .unset, .unset, .unset, .unset, .unset, .unset, .unset, .unset, .unset, .unset, .unset, .unset, .unset, .unset, .unset, .unset, .unset, .unset, .unset, .unset] [])
    refine own_by (fun t k => XS.iload X0.here hx rfl (hb hby at_41) rfl k) ?_
    show ORun p e below s _ _ _ s₁ (mkF m 43 #[.val (.int p1), .val (.int p2), .val (.int p3), .val (.int p4), .val (.int p5), .val (.int v2), .val (.int w4), .val (.int v5), .val (.int v6), .val (.int v7), .unset, .unset, .unset, .unset, .unset, .unset, .unset, .unset, .unset, .unset, .unset, .unset, .unset, .unset, .unset, .unset, .unset, .unset, .unset, .unset] [(.int p5)])
    refine own_by (fun t k => X0.ldcInt hx hown (mvT hZ (hw _ (List.mem_of_getElem? (i := 1) rfl))) (g := (mkF m 43 #[.val (.int p1), .val (.int p2), .val (.int p3), .val (.int p4), .val (.int p5), .val (.int v2), .val (.int w4), .val (.int v5), .val (.int v6), .val (.int v7), .unset, .unset, .unset, .unset, .unset, .unset, .unset, .unset, .unset, .unset, .unset, .unset, .unset, .unset, .unset, .unset, .unset, .unset, .unset, .unset] [(.int p5)])) rfl (hb hby at_43) _ k) ?_
    show ORun p e below s _ _ _ s₁ (mkF m 45 #[.val (.int p1), .val (.int p2), .val (.int p3), .val (.int p4), .val (.int p5), .val (.int v2), .val (.int w4), .val (.int v5), .val (.int v6), .val (.int v7), .unset, .unset, .unset, .unset, .unset, .unset, .unset, .unset, .unset, .unset, .unset, .unset, .unset, .unset, .unset, .unset, .unset, .unset, .unset, .unset] [(.int (2147483647 : Int32)), (.int p5)])
    refine own_by (fun t k => XS.iand X0.here hx rfl (hb hby at_45) rfl k) (own_letI (f := (fun z => (mkF m 46 #[.val (.int p1), .val (.int p2), .val (.int p3), .val (.int p4), .val (.int p5), .val (.int v2), .val (.int w4), .val (.int v5), .val (.int v6), .val (.int v7), .unset, .unset, .unset, .unset, .unset, .unset, .unset, .unset, .unset, .unset, .unset, .unset, .unset, .unset, .unset, .unset, .unset, .unset, .unset, .unset] [(.int z)]))) (p5 &&& (2147483647 : Int32)) fun v8 hv8 => ?_)
    show ORun p e below s _ _ _ s₁ (mkF m 46 #[.val (.int p1), .val (.int p2), .val (.int p3), .val (.int p4), .val (.int p5), .val (.int v2), .val (.int w4), .val (.int v5), .val (.int v6), .val (.int v7), .unset, .unset, .unset, .unset, .unset, .unset, .unset, .unset, .unset, .unset, .unset, .unset, .unset, .unset, .unset, .unset, .unset, .unset, .unset, .unset] [(.int v8)])
    have a8a : v8.toInt = p5.toInt % 2147483648 := by rw [hv8]; exact c_mask p5 (2147483647 : Int32) 31 (by decide) (by decide)
    have r8 := rng32 v8
    refine own_by (fun t k => XS.iconst X0.here hx rfl (hb hby at_46) k) ?_
    show ORun p e below s _ _ _ s₁ (mkF m 47 #[.val (.int p1), .val (.int p2), .val (.int p3), .val (.int p4), .val (.int p5), .val (.int v2), .val (.int w4), .val (.int v5), .val (.int v6), .val (.int v7), .unset, .unset, .unset, .unset, .unset, .unset, .unset, .unset, .unset, .unset, .unset, .unset, .unset, .unset, .unset, .unset, .unset, .unset, .unset, .unset] [(.int (5 : Int32)), (.int v8)])
    refine own_by (fun t k => iremM X0 hx rfl (hb hby at_47) rfl (by decide) k) (own_letI (f := (fun z => (mkF m 48 #[.val (.int p1), .val (.int p2), .val (.int p3), .val (.int p4), .val (.int p5), .val (.int v2), .val (.int w4), .val (.int v5), .val (.int v6), .val (.int v7), .unset, .unset, .unset, .unset, .unset, .unset, .unset, .unset, .unset, .unset, .unset, .unset, .unset, .unset, .unset, .unset, .unset, .unset, .unset, .unset] [(.int z)]))) (v8 % (5 : Int32)) fun v9 hv9 => ?_)
    show ORun p e below s _ _ _ s₁ (mkF m 48 #[.val (.int p1), .val (.int p2), .val (.int p3), .val (.int p4), .val (.int p5), .val (.int v2), .val (.int w4), .val (.int v5), .val (.int v6), .val (.int v7), .unset, .unset, .unset, .unset, .unset, .unset, .unset, .unset, .unset, .unset, .unset, .unset, .unset, .unset, .unset, .unset, .unset, .unset, .unset, .unset] [(.int v9)])
    have r9 := rng32 v9
    have a9 : v9.toInt = v8.toInt % 5 := by
      have q : (0 ≤ v8.toInt → v9.toInt = v8.toInt % 5) ∧ (v8.toInt < 0 → v9.toInt = -((-v8.toInt) % 5)) := by rw [hv9]; exact c_irem v8 (5 : Int32) 5 (by decide)
      omega
    refine own_by (fun t k => XS.istore X0.here hx rfl (hb hby at_48) rfl (l' := #[.val (.int p1), .val (.int p2), .val (.int p3), .val (.int p4), .val (.int p5), .val (.int v2), .val (.int w4), .val (.int v5), .val (.int v6), .val (.int v7), .val (.int v9), .unset, .unset, .unset, .unset, .unset, .unset, .unset, .unset, .unset, .unset, .unset, .unset, .unset, .unset, .unset, .unset, .unset, .unset, .unset]) rfl k) ?_
    show ORun p e below s _ _ _ s₁ (mkF m 50 #[.val (.int p1), .val (.int p2), .val (.int p3), .val (.int p4), .val (.int p5), .val (.int v2), .val (.int w4), .val (.int v5), .val (.int v6), .val (.int v7), .val (.int v9), .unset, .unset, .unset, .unset, .unset, .unset, .unset, .unset, .unset, .unset, .unset, .unset, .unset, .unset, .unset, .unset, .unset, .unset, .unset] [])
    obtain ⟨tt, htt⟩ : ∃ n : Nat, v2.toInt = n := ⟨v2.toInt.toNat, by omega⟩
    obtain ⟨dd, hdd⟩ : ∃ n : Nat, w4.toInt = n := ⟨w4.toInt.toNat, by omega⟩
    obtain ⟨aa, haa⟩ : ∃ n : Nat, v7.toInt = n := ⟨v7.toInt.toNat, by omega⟩
    obtain ⟨jj, hjj⟩ : ∃ n : Nat, v9.toInt = n := ⟨v9.toInt.toNat, by omega⟩
    have ht : 1 ≤ tt ∧ tt ≤ 1048576 := by omega
    have hd : 1 ≤ dd ∧ dd ≤ 2147483647 := by omega
    have ha : aa ≤ 255 := by omega
    have hj : jj ≤ 4 := by omega
    obtain ⟨b1, b2, b3, b4, b5, b6, b7, b8⟩ := own_bds ht.2 hd.2 h2e.2 ha hj
    obtain ⟨-, -, -, -, -, -, -, -, hW⟩ := own_tfn ht hd he hA ha hj
    have hAt : 1 * 1 ≤ Ae * tt := Nat.mul_le_mul h2e.1 ht.1
    have hNp : 0 < (Ae * tt * (aa + 4)) := Nat.mul_pos (by omega) (by omega)
    refine own_by (fun t k => XS.iload X0.here hx rfl (hb hby at_50) rfl k) ?_
    show ORun p e below s _ _ _ s₁ (mkF m 52 #[.val (.int p1), .val (.int p2), .val (.int p3), .val (.int p4), .val (.int p5), .val (.int v2), .val (.int w4), .val (.int v5), .val (.int v6), .val (.int v7), .val (.int v9), .unset, .unset, .unset, .unset, .unset, .unset, .unset, .unset, .unset, .unset, .unset, .unset, .unset, .unset, .unset, .unset, .unset, .unset, .unset] [(.int v2)])
    refine own_by (fun t k => XS.i2dS X0.here hx rfl (hb hby at_52) rfl (own_i2d htt) k) ?_
    show ORun p e below s _ _ _ s₁ (mkF m 53 #[.val (.int p1), .val (.int p2), .val (.int p3), .val (.int p4), .val (.int p5), .val (.int v2), .val (.int w4), .val (.int v5), .val (.int v6), .val (.int v7), .val (.int v9), .unset, .unset, .unset, .unset, .unset, .unset, .unset, .unset, .unset, .unset, .unset, .unset, .unset, .unset, .unset, .unset, .unset, .unset, .unset] [(.double (own_Q tt 1 0))])
    refine own_by (fun t k => X0.ldc2DoubleC hx hown (mvT hZ (hw _ (List.mem_of_getElem? (i := 2) rfl))) (g := (mkF m 53 #[.val (.int p1), .val (.int p2), .val (.int p3), .val (.int p4), .val (.int p5), .val (.int v2), .val (.int w4), .val (.int v5), .val (.int v6), .val (.int v7), .val (.int v9), .unset, .unset, .unset, .unset, .unset, .unset, .unset, .unset, .unset, .unset, .unset, .unset, .unset, .unset, .unset, .unset, .unset, .unset, .unset] [(.double (own_Q tt 1 0))])) rfl (hb hby at_53) _ k) ?_
    show ORun p e below s _ _ _ s₁ (mkF m 56 #[.val (.int p1), .val (.int p2), .val (.int p3), .val (.int p4), .val (.int p5), .val (.int v2), .val (.int w4), .val (.int v5), .val (.int v6), .val (.int v7), .val (.int v9), .unset, .unset, .unset, .unset, .unset, .unset, .unset, .unset, .unset, .unset, .unset, .unset, .unset, .unset, .unset, .unset, .unset, .unset, .unset] [(.double (4616189618054758400 : UInt64)), (.double (own_Q tt 1 0))])
    have fq10 : FP.ddiv (own_Q tt 1 0) (4616189618054758400 : UInt64) = (own_Q tt 1 (-2)) := (by rw [own_d4]; exact own_q4 (by omega))
    refine own_by (fun t k => XS.ddivS X0.here hx rfl (hb hby at_56) rfl (by rw [fq10]; exact own_Qno _ (by decide) _) fq10 k) ?_
    show ORun p e below s _ _ _ s₁ (mkF m 57 #[.val (.int p1), .val (.int p2), .val (.int p3), .val (.int p4), .val (.int p5), .val (.int v2), .val (.int w4), .val (.int v5), .val (.int v6), .val (.int v7), .val (.int v9), .unset, .unset, .unset, .unset, .unset, .unset, .unset, .unset, .unset, .unset, .unset, .unset, .unset, .unset, .unset, .unset, .unset, .unset, .unset] [(.double (own_Q tt 1 (-2)))])
    refine own_by (fun t k => XS.dstore X0.here hx rfl (hb hby at_57) rfl (l' := #[.val (.int p1), .val (.int p2), .val (.int p3), .val (.int p4), .val (.int p5), .val (.int v2), .val (.int w4), .val (.int v5), .val (.int v6), .val (.int v7), .val (.int v9), .val (.double (own_Q tt 1 (-2))), .second, .unset, .unset, .unset, .unset, .unset, .unset, .unset, .unset, .unset, .unset, .unset, .unset, .unset, .unset, .unset, .unset, .unset]) rfl k) ?_
    show ORun p e below s _ _ _ s₁ (mkF m 59 #[.val (.int p1), .val (.int p2), .val (.int p3), .val (.int p4), .val (.int p5), .val (.int v2), .val (.int w4), .val (.int v5), .val (.int v6), .val (.int v7), .val (.int v9), .val (.double (own_Q tt 1 (-2))), .second, .unset, .unset, .unset, .unset, .unset, .unset, .unset, .unset, .unset, .unset, .unset, .unset, .unset, .unset, .unset, .unset, .unset] [])
    refine own_by (fun t k => XS.iload X0.here hx rfl (hb hby at_59) rfl k) ?_
    show ORun p e below s _ _ _ s₁ (mkF m 61 #[.val (.int p1), .val (.int p2), .val (.int p3), .val (.int p4), .val (.int p5), .val (.int v2), .val (.int w4), .val (.int v5), .val (.int v6), .val (.int v7), .val (.int v9), .val (.double (own_Q tt 1 (-2))), .second, .unset, .unset, .unset, .unset, .unset, .unset, .unset, .unset, .unset, .unset, .unset, .unset, .unset, .unset, .unset, .unset, .unset] [(.int v7)])
    refine own_by (fun t k => XS.i2dS X0.here hx rfl (hb hby at_61) rfl (own_i2d haa) k) ?_
    show ORun p e below s _ _ _ s₁ (mkF m 62 #[.val (.int p1), .val (.int p2), .val (.int p3), .val (.int p4), .val (.int p5), .val (.int v2), .val (.int w4), .val (.int v5), .val (.int v6), .val (.int v7), .val (.int v9), .val (.double (own_Q tt 1 (-2))), .second, .unset, .unset, .unset, .unset, .unset, .unset, .unset, .unset, .unset, .unset, .unset, .unset, .unset, .unset, .unset, .unset, .unset] [(.double (own_Q aa 1 0))])
    refine own_by (fun t k => X0.ldc2DoubleC hx hown (mvT hZ (hw _ (List.mem_of_getElem? (i := 2) rfl))) (g := (mkF m 62 #[.val (.int p1), .val (.int p2), .val (.int p3), .val (.int p4), .val (.int p5), .val (.int v2), .val (.int w4), .val (.int v5), .val (.int v6), .val (.int v7), .val (.int v9), .val (.double (own_Q tt 1 (-2))), .second, .unset, .unset, .unset, .unset, .unset, .unset, .unset, .unset, .unset, .unset, .unset, .unset, .unset, .unset, .unset, .unset, .unset] [(.double (own_Q aa 1 0))])) rfl (hb hby at_62) _ k) ?_
    show ORun p e below s _ _ _ s₁ (mkF m 65 #[.val (.int p1), .val (.int p2), .val (.int p3), .val (.int p4), .val (.int p5), .val (.int v2), .val (.int w4), .val (.int v5), .val (.int v6), .val (.int v7), .val (.int v9), .val (.double (own_Q tt 1 (-2))), .second, .unset, .unset, .unset, .unset, .unset, .unset, .unset, .unset, .unset, .unset, .unset, .unset, .unset, .unset, .unset, .unset, .unset] [(.double (4616189618054758400 : UInt64)), (.double (own_Q aa 1 0))])
    have fq11 : FP.ddiv (own_Q aa 1 0) (4616189618054758400 : UInt64) = (own_Q aa 1 (-2)) := (by rw [own_d4]; exact own_q4 (by omega))
    refine own_by (fun t k => XS.ddivS X0.here hx rfl (hb hby at_65) rfl (by rw [fq11]; exact own_Qno _ (by decide) _) fq11 k) ?_
    show ORun p e below s _ _ _ s₁ (mkF m 66 #[.val (.int p1), .val (.int p2), .val (.int p3), .val (.int p4), .val (.int p5), .val (.int v2), .val (.int w4), .val (.int v5), .val (.int v6), .val (.int v7), .val (.int v9), .val (.double (own_Q tt 1 (-2))), .second, .unset, .unset, .unset, .unset, .unset, .unset, .unset, .unset, .unset, .unset, .unset, .unset, .unset, .unset, .unset, .unset, .unset] [(.double (own_Q aa 1 (-2)))])
    refine own_by (fun t k => XS.dstore X0.here hx rfl (hb hby at_66) rfl (l' := #[.val (.int p1), .val (.int p2), .val (.int p3), .val (.int p4), .val (.int p5), .val (.int v2), .val (.int w4), .val (.int v5), .val (.int v6), .val (.int v7), .val (.int v9), .val (.double (own_Q tt 1 (-2))), .second, .val (.double (own_Q aa 1 (-2))), .second, .unset, .unset, .unset, .unset, .unset, .unset, .unset, .unset, .unset, .unset, .unset, .unset, .unset, .unset, .unset]) rfl k) ?_
    show ORun p e below s _ _ _ s₁ (mkF m 68 #[.val (.int p1), .val (.int p2), .val (.int p3), .val (.int p4), .val (.int p5), .val (.int v2), .val (.int w4), .val (.int v5), .val (.int v6), .val (.int v7), .val (.int v9), .val (.double (own_Q tt 1 (-2))), .second, .val (.double (own_Q aa 1 (-2))), .second, .unset, .unset, .unset, .unset, .unset, .unset, .unset, .unset, .unset, .unset, .unset, .unset, .unset, .unset, .unset] [])
    refine own_by (fun t k => XS.iload X0.here hx rfl (hb hby at_68) rfl k) ?_
    show ORun p e below s _ _ _ s₁ (mkF m 70 #[.val (.int p1), .val (.int p2), .val (.int p3), .val (.int p4), .val (.int p5), .val (.int v2), .val (.int w4), .val (.int v5), .val (.int v6), .val (.int v7), .val (.int v9), .val (.double (own_Q tt 1 (-2))), .second, .val (.double (own_Q aa 1 (-2))), .second, .unset, .unset, .unset, .unset, .unset, .unset, .unset, .unset, .unset, .unset, .unset, .unset, .unset, .unset, .unset] [(.int v9)])
    refine own_by (fun t k => XS.i2dS X0.here hx rfl (hb hby at_70) rfl (own_i2d hjj) k) ?_
    show ORun p e below s _ _ _ s₁ (mkF m 71 #[.val (.int p1), .val (.int p2), .val (.int p3), .val (.int p4), .val (.int p5), .val (.int v2), .val (.int w4), .val (.int v5), .val (.int v6), .val (.int v7), .val (.int v9), .val (.double (own_Q tt 1 (-2))), .second, .val (.double (own_Q aa 1 (-2))), .second, .unset, .unset, .unset, .unset, .unset, .unset, .unset, .unset, .unset, .unset, .unset, .unset, .unset, .unset, .unset] [(.double (own_Q jj 1 0))])
    refine own_by (fun t k => X0.ldc2DoubleC hx hown (mvT hZ (hw _ (List.mem_of_getElem? (i := 2) rfl))) (g := (mkF m 71 #[.val (.int p1), .val (.int p2), .val (.int p3), .val (.int p4), .val (.int p5), .val (.int v2), .val (.int w4), .val (.int v5), .val (.int v6), .val (.int v7), .val (.int v9), .val (.double (own_Q tt 1 (-2))), .second, .val (.double (own_Q aa 1 (-2))), .second, .unset, .unset, .unset, .unset, .unset, .unset, .unset, .unset, .unset, .unset, .unset, .unset, .unset, .unset, .unset] [(.double (own_Q jj 1 0))])) rfl (hb hby at_71) _ k) ?_
    show ORun p e below s _ _ _ s₁ (mkF m 74 #[.val (.int p1), .val (.int p2), .val (.int p3), .val (.int p4), .val (.int p5), .val (.int v2), .val (.int w4), .val (.int v5), .val (.int v6), .val (.int v7), .val (.int v9), .val (.double (own_Q tt 1 (-2))), .second, .val (.double (own_Q aa 1 (-2))), .second, .unset, .unset, .unset, .unset, .unset, .unset, .unset, .unset, .unset, .unset, .unset, .unset, .unset, .unset, .unset] [(.double (4616189618054758400 : UInt64)), (.double (own_Q jj 1 0))])
    have fq12 : FP.ddiv (own_Q jj 1 0) (4616189618054758400 : UInt64) = (own_Q jj 1 (-2)) := (by rw [own_d4]; exact own_q4 (by omega))
    refine own_by (fun t k => XS.ddivS X0.here hx rfl (hb hby at_74) rfl (by rw [fq12]; exact own_Qno _ (by decide) _) fq12 k) ?_
    show ORun p e below s _ _ _ s₁ (mkF m 75 #[.val (.int p1), .val (.int p2), .val (.int p3), .val (.int p4), .val (.int p5), .val (.int v2), .val (.int w4), .val (.int v5), .val (.int v6), .val (.int v7), .val (.int v9), .val (.double (own_Q tt 1 (-2))), .second, .val (.double (own_Q aa 1 (-2))), .second, .unset, .unset, .unset, .unset, .unset, .unset, .unset, .unset, .unset, .unset, .unset, .unset, .unset, .unset, .unset] [(.double (own_Q jj 1 (-2)))])
    refine own_by (fun t k => XS.dstore X0.here hx rfl (hb hby at_75) rfl (l' := #[.val (.int p1), .val (.int p2), .val (.int p3), .val (.int p4), .val (.int p5), .val (.int v2), .val (.int w4), .val (.int v5), .val (.int v6), .val (.int v7), .val (.int v9), .val (.double (own_Q tt 1 (-2))), .second, .val (.double (own_Q aa 1 (-2))), .second, .val (.double (own_Q jj 1 (-2))), .second, .unset, .unset, .unset, .unset, .unset, .unset, .unset, .unset, .unset, .unset, .unset, .unset, .unset]) rfl k) ?_
    show ORun p e below s _ _ _ s₁ (mkF m 77 #[.val (.int p1), .val (.int p2), .val (.int p3), .val (.int p4), .val (.int p5), .val (.int v2), .val (.int w4), .val (.int v5), .val (.int v6), .val (.int v7), .val (.int v9), .val (.double (own_Q tt 1 (-2))), .second, .val (.double (own_Q aa 1 (-2))), .second, .val (.double (own_Q jj 1 (-2))), .second, .unset, .unset, .unset, .unset, .unset, .unset, .unset, .unset, .unset, .unset, .unset, .unset, .unset] [])
    refine own_by (fun t k => XS.iload X0.here hx rfl (hb hby at_77) rfl k) ?_
    show ORun p e below s _ _ _ s₁ (mkF m 79 #[.val (.int p1), .val (.int p2), .val (.int p3), .val (.int p4), .val (.int p5), .val (.int v2), .val (.int w4), .val (.int v5), .val (.int v6), .val (.int v7), .val (.int v9), .val (.double (own_Q tt 1 (-2))), .second, .val (.double (own_Q aa 1 (-2))), .second, .val (.double (own_Q jj 1 (-2))), .second, .unset, .unset, .unset, .unset, .unset, .unset, .unset, .unset, .unset, .unset, .unset, .unset, .unset] [(.int v6)])
    refine own_by (fun t k => XS.i2dS X0.here hx rfl (hb hby at_79) rfl (own_i2d hAe) k) ?_
    show ORun p e below s _ _ _ s₁ (mkF m 80 #[.val (.int p1), .val (.int p2), .val (.int p3), .val (.int p4), .val (.int p5), .val (.int v2), .val (.int w4), .val (.int v5), .val (.int v6), .val (.int v7), .val (.int v9), .val (.double (own_Q tt 1 (-2))), .second, .val (.double (own_Q aa 1 (-2))), .second, .val (.double (own_Q jj 1 (-2))), .second, .unset, .unset, .unset, .unset, .unset, .unset, .unset, .unset, .unset, .unset, .unset, .unset, .unset] [(.double (own_Q Ae 1 0))])
    refine own_by (fun t k => X0.ldc2DoubleC hx hown (mvT hZ (hw _ (List.mem_of_getElem? (i := 3) rfl))) (g := (mkF m 80 #[.val (.int p1), .val (.int p2), .val (.int p3), .val (.int p4), .val (.int p5), .val (.int v2), .val (.int w4), .val (.int v5), .val (.int v6), .val (.int v7), .val (.int v9), .val (.double (own_Q tt 1 (-2))), .second, .val (.double (own_Q aa 1 (-2))), .second, .val (.double (own_Q jj 1 (-2))), .second, .unset, .unset, .unset, .unset, .unset, .unset, .unset, .unset, .unset, .unset, .unset, .unset, .unset] [(.double (own_Q Ae 1 0))])) rfl (hb hby at_80) _ k) ?_
    show ORun p e below s _ _ _ s₁ (mkF m 83 #[.val (.int p1), .val (.int p2), .val (.int p3), .val (.int p4), .val (.int p5), .val (.int v2), .val (.int w4), .val (.int v5), .val (.int v6), .val (.int v7), .val (.int v9), .val (.double (own_Q tt 1 (-2))), .second, .val (.double (own_Q aa 1 (-2))), .second, .val (.double (own_Q jj 1 (-2))), .second, .unset, .unset, .unset, .unset, .unset, .unset, .unset, .unset, .unset, .unset, .unset, .unset, .unset] [(.double (4625196817309499392 : UInt64)), (.double (own_Q Ae 1 0))])
    have fq13 : FP.ddiv (own_Q Ae 1 0) (4625196817309499392 : UInt64) = (own_Q Ae 1 (-4)) := (by rw [own_d16]; exact own_q16 (by omega))
    refine own_by (fun t k => XS.ddivS X0.here hx rfl (hb hby at_83) rfl (by rw [fq13]; exact own_Qno _ (by decide) _) fq13 k) ?_
    show ORun p e below s _ _ _ s₁ (mkF m 84 #[.val (.int p1), .val (.int p2), .val (.int p3), .val (.int p4), .val (.int p5), .val (.int v2), .val (.int w4), .val (.int v5), .val (.int v6), .val (.int v7), .val (.int v9), .val (.double (own_Q tt 1 (-2))), .second, .val (.double (own_Q aa 1 (-2))), .second, .val (.double (own_Q jj 1 (-2))), .second, .unset, .unset, .unset, .unset, .unset, .unset, .unset, .unset, .unset, .unset, .unset, .unset, .unset] [(.double (own_Q Ae 1 (-4)))])
    refine own_by (fun t k => XS.dstore X0.here hx rfl (hb hby at_84) rfl (l' := #[.val (.int p1), .val (.int p2), .val (.int p3), .val (.int p4), .val (.int p5), .val (.int v2), .val (.int w4), .val (.int v5), .val (.int v6), .val (.int v7), .val (.int v9), .val (.double (own_Q tt 1 (-2))), .second, .val (.double (own_Q aa 1 (-2))), .second, .val (.double (own_Q jj 1 (-2))), .second, .val (.double (own_Q Ae 1 (-4))), .second, .unset, .unset, .unset, .unset, .unset, .unset, .unset, .unset, .unset, .unset, .unset]) rfl k) ?_
    show ORun p e below s _ _ _ s₁ (mkF m 86 #[.val (.int p1), .val (.int p2), .val (.int p3), .val (.int p4), .val (.int p5), .val (.int v2), .val (.int w4), .val (.int v5), .val (.int v6), .val (.int v7), .val (.int v9), .val (.double (own_Q tt 1 (-2))), .second, .val (.double (own_Q aa 1 (-2))), .second, .val (.double (own_Q jj 1 (-2))), .second, .val (.double (own_Q Ae 1 (-4))), .second, .unset, .unset, .unset, .unset, .unset, .unset, .unset, .unset, .unset, .unset, .unset] [])
    obtain ⟨T14, h14, X14, e14, E14, A14, D14, -, st14⟩ := newO X0 hx hZ hown (hw _ (List.mem_of_getElem? (i := 4) rfl)) (hw _ (List.mem_of_getElem? (i := 5) rfl)) (hw _ (List.mem_of_getElem? (i := 6) rfl)) e0 (g := (mkF m 86 #[.val (.int p1), .val (.int p2), .val (.int p3), .val (.int p4), .val (.int p5), .val (.int v2), .val (.int w4), .val (.int v5), .val (.int v6), .val (.int v7), .val (.int v9), .val (.double (own_Q tt 1 (-2))), .second, .val (.double (own_Q aa 1 (-2))), .second, .val (.double (own_Q jj 1 (-2))), .second, .val (.double (own_Q Ae 1 (-4))), .second, .unset, .unset, .unset, .unset, .unset, .unset, .unset, .unset, .unset, .unset, .unset] [])) rfl (hb hby at_86) (by decide) (by decide)
    obtain ⟨b14, g14⟩ : ∃ z, z = h0.size := ⟨_, rfl⟩
    rw [← g14] at A14 D14 st14
    have old_b14 : n0 ≤ b14 := Nat.le_trans Z0 (Nat.le_of_eq g14.symm)
    have sz_b14 : h0.size ≤ b14 := Nat.le_trans (Nat.le_refl h0.size) (Nat.le_of_eq g14.symm)
    have F14_20 : Fld Z h14 b14 "com/example/baris/baris/engine/scoring/Bm25" "k1" "D" (.double (0 : UInt64)) := D14 (Or.inr (hw _ (List.mem_of_getElem? (i := 20) rfl))) (ty := .double) (by decide)
    have F14_22 : Fld Z h14 b14 "com/example/baris/baris/engine/scoring/Bm25" "b" "D" (.double (0 : UInt64)) := D14 (Or.inr (hw _ (List.mem_of_getElem? (i := 22) rfl))) (ty := .double) (by decide)
    refine own_by st14 ?_
    show ORun p e below s _ _ _ T14 (mkF m 89 #[.val (.int p1), .val (.int p2), .val (.int p3), .val (.int p4), .val (.int p5), .val (.int v2), .val (.int w4), .val (.int v5), .val (.int v6), .val (.int v7), .val (.int v9), .val (.double (own_Q tt 1 (-2))), .second, .val (.double (own_Q aa 1 (-2))), .second, .val (.double (own_Q jj 1 (-2))), .second, .val (.double (own_Q Ae 1 (-4))), .second, .unset, .unset, .unset, .unset, .unset, .unset, .unset, .unset, .unset, .unset, .unset] [(.ref b14)])
    refine own_by (fun t k => XS.dup X14.here hx rfl (hb hby at_89) rfl rfl k) ?_
    show ORun p e below s _ _ _ T14 (mkF m 90 #[.val (.int p1), .val (.int p2), .val (.int p3), .val (.int p4), .val (.int p5), .val (.int v2), .val (.int w4), .val (.int v5), .val (.int v6), .val (.int v7), .val (.int v9), .val (.double (own_Q tt 1 (-2))), .second, .val (.double (own_Q aa 1 (-2))), .second, .val (.double (own_Q jj 1 (-2))), .second, .val (.double (own_Q Ae 1 (-4))), .second, .unset, .unset, .unset, .unset, .unset, .unset, .unset, .unset, .unset, .unset, .unset] [(.ref b14), (.ref b14)])
    refine own_by (fun t k => XS.dload X14.here hx rfl (hb hby at_90) rfl k) ?_
    show ORun p e below s _ _ _ T14 (mkF m 92 #[.val (.int p1), .val (.int p2), .val (.int p3), .val (.int p4), .val (.int p5), .val (.int v2), .val (.int w4), .val (.int v5), .val (.int v6), .val (.int v7), .val (.int v9), .val (.double (own_Q tt 1 (-2))), .second, .val (.double (own_Q aa 1 (-2))), .second, .val (.double (own_Q jj 1 (-2))), .second, .val (.double (own_Q Ae 1 (-4))), .second, .unset, .unset, .unset, .unset, .unset, .unset, .unset, .unset, .unset, .unset, .unset] [(.double (own_Q aa 1 (-2))), (.ref b14), (.ref b14)])
    refine own_by (fun t k => XS.dload X14.here hx rfl (hb hby at_92) rfl k) ?_
    show ORun p e below s _ _ _ T14 (mkF m 94 #[.val (.int p1), .val (.int p2), .val (.int p3), .val (.int p4), .val (.int p5), .val (.int v2), .val (.int w4), .val (.int v5), .val (.int v6), .val (.int v7), .val (.int v9), .val (.double (own_Q tt 1 (-2))), .second, .val (.double (own_Q aa 1 (-2))), .second, .val (.double (own_Q jj 1 (-2))), .second, .val (.double (own_Q Ae 1 (-4))), .second, .unset, .unset, .unset, .unset, .unset, .unset, .unset, .unset, .unset, .unset, .unset] [(.double (own_Q jj 1 (-2))), (.double (own_Q aa 1 (-2))), (.ref b14), (.ref b14)])
    refine own_callC X14 hx hZ hown rfl (hw _ (List.mem_of_getElem? (i := 7) rfl)) (hw _ (List.mem_of_getElem? (i := 8) rfl)) (hw _ (List.mem_of_getElem? (i := 6) rfl)) (hw _ (List.mem_of_getElem? (i := 9) rfl)) (by decide) (rm1 l Z a0 hw [] h14 n0 (Nat.le_trans Z0 E14.1) b14 aa jj ha hj A14 old_b14 F14_20 F14_22) e14 (by decide) (W := 1) (by decide) (by decide) (by decide) (b := b14) (argsL := [(.double (own_Q aa 1 (-2))), (.double (own_Q jj 1 (-2)))]) (rest := [(.ref b14)]) (by rw [hml]; rfl) (lenOf pd_1 rfl) rfl rfl (Nat.le_of_eq rfl) (hb hby at_94) ?_
    intro T15 L15 u15 X15 hQ15
    obtain ⟨rfl, Nq15, K15, En15_b14, Fn15_k1_b14, Fn15_b_b14⟩ := hQ15
    have N15 := Fr.app N0 Nq15
    show ORun p e below s _ _ _ T15 (mkF m 97 #[.val (.int p1), .val (.int p2), .val (.int p3), .val (.int p4), .val (.int p5), .val (.int v2), .val (.int w4), .val (.int v5), .val (.int v6), .val (.int v7), .val (.int v9), .val (.double (own_Q tt 1 (-2))), .second, .val (.double (own_Q aa 1 (-2))), .second, .val (.double (own_Q jj 1 (-2))), .second, .val (.double (own_Q Ae 1 (-4))), .second, .unset, .unset, .unset, .unset, .unset, .unset, .unset, .unset, .unset, .unset, .unset] [(.ref b14)])
    refine own_by (fun t k => XS.astore X15.here hx rfl (hb hby at_97) rfl rfl (l' := #[.val (.int p1), .val (.int p2), .val (.int p3), .val (.int p4), .val (.int p5), .val (.int v2), .val (.int w4), .val (.int v5), .val (.int v6), .val (.int v7), .val (.int v9), .val (.double (own_Q tt 1 (-2))), .second, .val (.double (own_Q aa 1 (-2))), .second, .val (.double (own_Q jj 1 (-2))), .second, .val (.double (own_Q Ae 1 (-4))), .second, .val (.ref b14), .unset, .unset, .unset, .unset, .unset, .unset, .unset, .unset, .unset, .unset]) rfl k) ?_
    show ORun p e below s _ _ _ T15 (mkF m 99 #[.val (.int p1), .val (.int p2), .val (.int p3), .val (.int p4), .val (.int p5), .val (.int v2), .val (.int w4), .val (.int v5), .val (.int v6), .val (.int v7), .val (.int v9), .val (.double (own_Q tt 1 (-2))), .second, .val (.double (own_Q aa 1 (-2))), .second, .val (.double (own_Q jj 1 (-2))), .second, .val (.double (own_Q Ae 1 (-4))), .second, .val (.ref b14), .unset, .unset, .unset, .unset, .unset, .unset, .unset, .unset, .unset, .unset] [])
    refine own_by (fun t k => XS.aload X15.here hx rfl (hb hby at_99) rfl rfl k) ?_
    show ORun p e below s _ _ _ T15 (mkF m 101 #[.val (.int p1), .val (.int p2), .val (.int p3), .val (.int p4), .val (.int p5), .val (.int v2), .val (.int w4), .val (.int v5), .val (.int v6), .val (.int v7), .val (.int v9), .val (.double (own_Q tt 1 (-2))), .second, .val (.double (own_Q aa 1 (-2))), .second, .val (.double (own_Q jj 1 (-2))), .second, .val (.double (own_Q Ae 1 (-4))), .second, .val (.ref b14), .unset, .unset, .unset, .unset, .unset, .unset, .unset, .unset, .unset, .unset] [(.ref b14)])
    refine own_by (fun t k => XS.dload X15.here hx rfl (hb hby at_101) rfl k) ?_
    show ORun p e below s _ _ _ T15 (mkF m 103 #[.val (.int p1), .val (.int p2), .val (.int p3), .val (.int p4), .val (.int p5), .val (.int v2), .val (.int w4), .val (.int v5), .val (.int v6), .val (.int v7), .val (.int v9), .val (.double (own_Q tt 1 (-2))), .second, .val (.double (own_Q aa 1 (-2))), .second, .val (.double (own_Q jj 1 (-2))), .second, .val (.double (own_Q Ae 1 (-4))), .second, .val (.ref b14), .unset, .unset, .unset, .unset, .unset, .unset, .unset, .unset, .unset, .unset] [(.double (own_Q tt 1 (-2))), (.ref b14)])
    refine own_by (fun t k => XS.iload X15.here hx rfl (hb hby at_103) rfl k) ?_
    show ORun p e below s _ _ _ T15 (mkF m 105 #[.val (.int p1), .val (.int p2), .val (.int p3), .val (.int p4), .val (.int p5), .val (.int v2), .val (.int w4), .val (.int v5), .val (.int v6), .val (.int v7), .val (.int v9), .val (.double (own_Q tt 1 (-2))), .second, .val (.double (own_Q aa 1 (-2))), .second, .val (.double (own_Q jj 1 (-2))), .second, .val (.double (own_Q Ae 1 (-4))), .second, .val (.ref b14), .unset, .unset, .unset, .unset, .unset, .unset, .unset, .unset, .unset, .unset] [(.int w4), (.double (own_Q tt 1 (-2))), (.ref b14)])
    refine own_by (fun t k => XS.dload X15.here hx rfl (hb hby at_105) rfl k) ?_
    show ORun p e below s _ _ _ T15 (mkF m 107 #[.val (.int p1), .val (.int p2), .val (.int p3), .val (.int p4), .val (.int p5), .val (.int v2), .val (.int w4), .val (.int v5), .val (.int v6), .val (.int v7), .val (.int v9), .val (.double (own_Q tt 1 (-2))), .second, .val (.double (own_Q aa 1 (-2))), .second, .val (.double (own_Q jj 1 (-2))), .second, .val (.double (own_Q Ae 1 (-4))), .second, .val (.ref b14), .unset, .unset, .unset, .unset, .unset, .unset, .unset, .unset, .unset, .unset] [(.double (own_Q Ae 1 (-4))), (.int w4), (.double (own_Q tt 1 (-2))), (.ref b14)])
    refine own_callV X15 hx hZ hown En15_b14 (hw _ (List.mem_of_getElem? (i := 23) rfl)) (hw _ (List.mem_of_getElem? (i := 24) rfl)) (notFace_of_selects (args := #[]) (mvT hZ (hw _ (List.mem_of_getElem? (i := 26) rfl)))) (hw _ (List.mem_of_getElem? (i := 26) rfl)) (hw _ (List.mem_of_getElem? (i := 25) rfl)) (hw _ (List.mem_of_getElem? (i := 6) rfl)) (hw _ (List.mem_of_getElem? (i := 27) rfl)) (by decide) (rm4 l Z a0 hw [] T15.heap n0 (Nat.le_trans (Nat.le_trans Z0 E14.1) K15.1) b14 w4 tt dd ee Ae aa jj hdd ht hd he hA ha hj (own_staK (Sd.ext E14) K15 (nsS (own_nsE A14) ns0)) Fn15_k1_b14 Fn15_b_b14) rfl (by decide) (W := 0) (by decide) (by decide) (by decide) (argsL := [(.double (own_Q tt 1 (-2))), (.int w4), (.double (own_Q Ae 1 (-4)))]) (rest := []) (by rw [hml]; rfl) (lenOf pd_2 rfl) rfl rfl (Nat.le_of_eq rfl) (hb hby at_107) ?_
    intro T16 L16 u16 X16 hQ16
    obtain ⟨rfl, Nq16, e16⟩ := hQ16
    have N16 := Fr.app N15 Nq16
    show ORun p e below s _ _ _ T16 (mkF m 110 #[.val (.int p1), .val (.int p2), .val (.int p3), .val (.int p4), .val (.int p5), .val (.int v2), .val (.int w4), .val (.int v5), .val (.int v6), .val (.int v7), .val (.int v9), .val (.double (own_Q tt 1 (-2))), .second, .val (.double (own_Q aa 1 (-2))), .second, .val (.double (own_Q jj 1 (-2))), .second, .val (.double (own_Q Ae 1 (-4))), .second, .val (.ref b14), .unset, .unset, .unset, .unset, .unset, .unset, .unset, .unset, .unset, .unset] [(.double (own_Q (Ae * tt * (aa + 4)) (4 * Ae * tt + aa * ((4 - jj) * Ae + jj * dd * 16)) 0))])
    refine own_by (fun t k => XS.dstore X16.here hx rfl (hb hby at_110) rfl (l' := #[.val (.int p1), .val (.int p2), .val (.int p3), .val (.int p4), .val (.int p5), .val (.int v2), .val (.int w4), .val (.int v5), .val (.int v6), .val (.int v7), .val (.int v9), .val (.double (own_Q tt 1 (-2))), .second, .val (.double (own_Q aa 1 (-2))), .second, .val (.double (own_Q jj 1 (-2))), .second, .val (.double (own_Q Ae 1 (-4))), .second, .val (.ref b14), .val (.double (own_Q (Ae * tt * (aa + 4)) (4 * Ae * tt + aa * ((4 - jj) * Ae + jj * dd * 16)) 0)), .second, .unset, .unset, .unset, .unset, .unset, .unset, .unset, .unset]) rfl k) ?_
    show ORun p e below s _ _ _ T16 (mkF m 112 #[.val (.int p1), .val (.int p2), .val (.int p3), .val (.int p4), .val (.int p5), .val (.int v2), .val (.int w4), .val (.int v5), .val (.int v6), .val (.int v7), .val (.int v9), .val (.double (own_Q tt 1 (-2))), .second, .val (.double (own_Q aa 1 (-2))), .second, .val (.double (own_Q jj 1 (-2))), .second, .val (.double (own_Q Ae 1 (-4))), .second, .val (.ref b14), .val (.double (own_Q (Ae * tt * (aa + 4)) (4 * Ae * tt + aa * ((4 - jj) * Ae + jj * dd * 16)) 0)), .second, .unset, .unset, .unset, .unset, .unset, .unset, .unset, .unset] [])
    refine own_by (fun t k => X16.ldc2Long hx hown (mvT hZ (hw _ (List.mem_of_getElem? (i := 30) rfl))) (g := (mkF m 112 #[.val (.int p1), .val (.int p2), .val (.int p3), .val (.int p4), .val (.int p5), .val (.int v2), .val (.int w4), .val (.int v5), .val (.int v6), .val (.int v7), .val (.int v9), .val (.double (own_Q tt 1 (-2))), .second, .val (.double (own_Q aa 1 (-2))), .second, .val (.double (own_Q jj 1 (-2))), .second, .val (.double (own_Q Ae 1 (-4))), .second, .val (.ref b14), .val (.double (own_Q (Ae * tt * (aa + 4)) (4 * Ae * tt + aa * ((4 - jj) * Ae + jj * dd * 16)) 0)), .second, .unset, .unset, .unset, .unset, .unset, .unset, .unset, .unset] [])) rfl (hb hby at_112) _ k) ?_
    show ORun p e below s _ _ _ T16 (mkF m 115 #[.val (.int p1), .val (.int p2), .val (.int p3), .val (.int p4), .val (.int p5), .val (.int v2), .val (.int w4), .val (.int v5), .val (.int v6), .val (.int v7), .val (.int v9), .val (.double (own_Q tt 1 (-2))), .second, .val (.double (own_Q aa 1 (-2))), .second, .val (.double (own_Q jj 1 (-2))), .second, .val (.double (own_Q Ae 1 (-4))), .second, .val (.ref b14), .val (.double (own_Q (Ae * tt * (aa + 4)) (4 * Ae * tt + aa * ((4 - jj) * Ae + jj * dd * 16)) 0)), .second, .unset, .unset, .unset, .unset, .unset, .unset, .unset, .unset] [(.long (4 : Int64))])
    refine own_by (fun t k => XS.iload X16.here hx rfl (hb hby at_115) rfl k) ?_
    show ORun p e below s _ _ _ T16 (mkF m 117 #[.val (.int p1), .val (.int p2), .val (.int p3), .val (.int p4), .val (.int p5), .val (.int v2), .val (.int w4), .val (.int v5), .val (.int v6), .val (.int v7), .val (.int v9), .val (.double (own_Q tt 1 (-2))), .second, .val (.double (own_Q aa 1 (-2))), .second, .val (.double (own_Q jj 1 (-2))), .second, .val (.double (own_Q Ae 1 (-4))), .second, .val (.ref b14), .val (.double (own_Q (Ae * tt * (aa + 4)) (4 * Ae * tt + aa * ((4 - jj) * Ae + jj * dd * 16)) 0)), .second, .unset, .unset, .unset, .unset, .unset, .unset, .unset, .unset] [(.int v6), (.long (4 : Int64))])
    refine own_by (fun t k => XS.i2l X16.here hx rfl (hb hby at_117) rfl k) (own_letJ (f := (fun z => (mkF m 118 #[.val (.int p1), .val (.int p2), .val (.int p3), .val (.int p4), .val (.int p5), .val (.int v2), .val (.int w4), .val (.int v5), .val (.int v6), .val (.int v7), .val (.int v9), .val (.double (own_Q tt 1 (-2))), .second, .val (.double (own_Q aa 1 (-2))), .second, .val (.double (own_Q jj 1 (-2))), .second, .val (.double (own_Q Ae 1 (-4))), .second, .val (.ref b14), .val (.double (own_Q (Ae * tt * (aa + 4)) (4 * Ae * tt + aa * ((4 - jj) * Ae + jj * dd * 16)) 0)), .second, .unset, .unset, .unset, .unset, .unset, .unset, .unset, .unset] [(.long z), (.long (4 : Int64))]))) (v6.toInt64) fun v17 hv17 => ?_)
    show ORun p e below s _ _ _ T16 (mkF m 118 #[.val (.int p1), .val (.int p2), .val (.int p3), .val (.int p4), .val (.int p5), .val (.int v2), .val (.int w4), .val (.int v5), .val (.int v6), .val (.int v7), .val (.int v9), .val (.double (own_Q tt 1 (-2))), .second, .val (.double (own_Q aa 1 (-2))), .second, .val (.double (own_Q jj 1 (-2))), .second, .val (.double (own_Q Ae 1 (-4))), .second, .val (.ref b14), .val (.double (own_Q (Ae * tt * (aa + 4)) (4 * Ae * tt + aa * ((4 - jj) * Ae + jj * dd * 16)) 0)), .second, .unset, .unset, .unset, .unset, .unset, .unset, .unset, .unset] [(.long v17), (.long (4 : Int64))])
    have nv17 : v17.toInt = ((Ae : Nat) : Int) := by rw [hv17]; exact (c_i2l v6).trans hAe
    refine own_by (fun t k => XS.lmul X16.here hx rfl (hb hby at_118) rfl k) (own_letJ (f := (fun z => (mkF m 119 #[.val (.int p1), .val (.int p2), .val (.int p3), .val (.int p4), .val (.int p5), .val (.int v2), .val (.int w4), .val (.int v5), .val (.int v6), .val (.int v7), .val (.int v9), .val (.double (own_Q tt 1 (-2))), .second, .val (.double (own_Q aa 1 (-2))), .second, .val (.double (own_Q jj 1 (-2))), .second, .val (.double (own_Q Ae 1 (-4))), .second, .val (.ref b14), .val (.double (own_Q (Ae * tt * (aa + 4)) (4 * Ae * tt + aa * ((4 - jj) * Ae + jj * dd * 16)) 0)), .second, .unset, .unset, .unset, .unset, .unset, .unset, .unset, .unset] [(.long z)]))) ((4 : Int64) * v17) fun v18 hv18 => ?_)
    show ORun p e below s _ _ _ T16 (mkF m 119 #[.val (.int p1), .val (.int p2), .val (.int p3), .val (.int p4), .val (.int p5), .val (.int v2), .val (.int w4), .val (.int v5), .val (.int v6), .val (.int v7), .val (.int v9), .val (.double (own_Q tt 1 (-2))), .second, .val (.double (own_Q aa 1 (-2))), .second, .val (.double (own_Q jj 1 (-2))), .second, .val (.double (own_Q Ae 1 (-4))), .second, .val (.ref b14), .val (.double (own_Q (Ae * tt * (aa + 4)) (4 * Ae * tt + aa * ((4 - jj) * Ae + jj * dd * 16)) 0)), .second, .unset, .unset, .unset, .unset, .unset, .unset, .unset, .unset] [(.long v18)])
    have nv18 : v18.toInt = (((4 * Ae) : Nat) : Int) := by rw [hv18]; exact own_lm (x := (4 : Int64)) (y := v17) (by decide) nv17 (by omega)
    refine own_by (fun t k => XS.iload X16.here hx rfl (hb hby at_119) rfl k) ?_
    show ORun p e below s _ _ _ T16 (mkF m 121 #[.val (.int p1), .val (.int p2), .val (.int p3), .val (.int p4), .val (.int p5), .val (.int v2), .val (.int w4), .val (.int v5), .val (.int v6), .val (.int v7), .val (.int v9), .val (.double (own_Q tt 1 (-2))), .second, .val (.double (own_Q aa 1 (-2))), .second, .val (.double (own_Q jj 1 (-2))), .second, .val (.double (own_Q Ae 1 (-4))), .second, .val (.ref b14), .val (.double (own_Q (Ae * tt * (aa + 4)) (4 * Ae * tt + aa * ((4 - jj) * Ae + jj * dd * 16)) 0)), .second, .unset, .unset, .unset, .unset, .unset, .unset, .unset, .unset] [(.int v9), (.long v18)])
    refine own_by (fun t k => XS.i2l X16.here hx rfl (hb hby at_121) rfl k) (own_letJ (f := (fun z => (mkF m 122 #[.val (.int p1), .val (.int p2), .val (.int p3), .val (.int p4), .val (.int p5), .val (.int v2), .val (.int w4), .val (.int v5), .val (.int v6), .val (.int v7), .val (.int v9), .val (.double (own_Q tt 1 (-2))), .second, .val (.double (own_Q aa 1 (-2))), .second, .val (.double (own_Q jj 1 (-2))), .second, .val (.double (own_Q Ae 1 (-4))), .second, .val (.ref b14), .val (.double (own_Q (Ae * tt * (aa + 4)) (4 * Ae * tt + aa * ((4 - jj) * Ae + jj * dd * 16)) 0)), .second, .unset, .unset, .unset, .unset, .unset, .unset, .unset, .unset] [(.long z), (.long v18)]))) (v9.toInt64) fun v19 hv19 => ?_)
    show ORun p e below s _ _ _ T16 (mkF m 122 #[.val (.int p1), .val (.int p2), .val (.int p3), .val (.int p4), .val (.int p5), .val (.int v2), .val (.int w4), .val (.int v5), .val (.int v6), .val (.int v7), .val (.int v9), .val (.double (own_Q tt 1 (-2))), .second, .val (.double (own_Q aa 1 (-2))), .second, .val (.double (own_Q jj 1 (-2))), .second, .val (.double (own_Q Ae 1 (-4))), .second, .val (.ref b14), .val (.double (own_Q (Ae * tt * (aa + 4)) (4 * Ae * tt + aa * ((4 - jj) * Ae + jj * dd * 16)) 0)), .second, .unset, .unset, .unset, .unset, .unset, .unset, .unset, .unset] [(.long v19), (.long v18)])
    have nv19 : v19.toInt = ((jj : Nat) : Int) := by rw [hv19]; exact (c_i2l v9).trans hjj
    refine own_by (fun t k => XS.iload X16.here hx rfl (hb hby at_122) rfl k) ?_
    show ORun p e below s _ _ _ T16 (mkF m 124 #[.val (.int p1), .val (.int p2), .val (.int p3), .val (.int p4), .val (.int p5), .val (.int v2), .val (.int w4), .val (.int v5), .val (.int v6), .val (.int v7), .val (.int v9), .val (.double (own_Q tt 1 (-2))), .second, .val (.double (own_Q aa 1 (-2))), .second, .val (.double (own_Q jj 1 (-2))), .second, .val (.double (own_Q Ae 1 (-4))), .second, .val (.ref b14), .val (.double (own_Q (Ae * tt * (aa + 4)) (4 * Ae * tt + aa * ((4 - jj) * Ae + jj * dd * 16)) 0)), .second, .unset, .unset, .unset, .unset, .unset, .unset, .unset, .unset] [(.int v6), (.long v19), (.long v18)])
    refine own_by (fun t k => XS.i2l X16.here hx rfl (hb hby at_124) rfl k) (own_letJ (f := (fun z => (mkF m 125 #[.val (.int p1), .val (.int p2), .val (.int p3), .val (.int p4), .val (.int p5), .val (.int v2), .val (.int w4), .val (.int v5), .val (.int v6), .val (.int v7), .val (.int v9), .val (.double (own_Q tt 1 (-2))), .second, .val (.double (own_Q aa 1 (-2))), .second, .val (.double (own_Q jj 1 (-2))), .second, .val (.double (own_Q Ae 1 (-4))), .second, .val (.ref b14), .val (.double (own_Q (Ae * tt * (aa + 4)) (4 * Ae * tt + aa * ((4 - jj) * Ae + jj * dd * 16)) 0)), .second, .unset, .unset, .unset, .unset, .unset, .unset, .unset, .unset] [(.long z), (.long v19), (.long v18)]))) (v6.toInt64) fun v20 hv20 => ?_)
    show ORun p e below s _ _ _ T16 (mkF m 125 #[.val (.int p1), .val (.int p2), .val (.int p3), .val (.int p4), .val (.int p5), .val (.int v2), .val (.int w4), .val (.int v5), .val (.int v6), .val (.int v7), .val (.int v9), .val (.double (own_Q tt 1 (-2))), .second, .val (.double (own_Q aa 1 (-2))), .second, .val (.double (own_Q jj 1 (-2))), .second, .val (.double (own_Q Ae 1 (-4))), .second, .val (.ref b14), .val (.double (own_Q (Ae * tt * (aa + 4)) (4 * Ae * tt + aa * ((4 - jj) * Ae + jj * dd * 16)) 0)), .second, .unset, .unset, .unset, .unset, .unset, .unset, .unset, .unset] [(.long v20), (.long v19), (.long v18)])
    have nv20 : v20.toInt = ((Ae : Nat) : Int) := by rw [hv20]; exact (c_i2l v6).trans hAe
    refine own_by (fun t k => XS.lmul X16.here hx rfl (hb hby at_125) rfl k) (own_letJ (f := (fun z => (mkF m 126 #[.val (.int p1), .val (.int p2), .val (.int p3), .val (.int p4), .val (.int p5), .val (.int v2), .val (.int w4), .val (.int v5), .val (.int v6), .val (.int v7), .val (.int v9), .val (.double (own_Q tt 1 (-2))), .second, .val (.double (own_Q aa 1 (-2))), .second, .val (.double (own_Q jj 1 (-2))), .second, .val (.double (own_Q Ae 1 (-4))), .second, .val (.ref b14), .val (.double (own_Q (Ae * tt * (aa + 4)) (4 * Ae * tt + aa * ((4 - jj) * Ae + jj * dd * 16)) 0)), .second, .unset, .unset, .unset, .unset, .unset, .unset, .unset, .unset] [(.long z), (.long v18)]))) (v19 * v20) fun v21 hv21 => ?_)
    show ORun p e below s _ _ _ T16 (mkF m 126 #[.val (.int p1), .val (.int p2), .val (.int p3), .val (.int p4), .val (.int p5), .val (.int v2), .val (.int w4), .val (.int v5), .val (.int v6), .val (.int v7), .val (.int v9), .val (.double (own_Q tt 1 (-2))), .second, .val (.double (own_Q aa 1 (-2))), .second, .val (.double (own_Q jj 1 (-2))), .second, .val (.double (own_Q Ae 1 (-4))), .second, .val (.ref b14), .val (.double (own_Q (Ae * tt * (aa + 4)) (4 * Ae * tt + aa * ((4 - jj) * Ae + jj * dd * 16)) 0)), .second, .unset, .unset, .unset, .unset, .unset, .unset, .unset, .unset] [(.long v21), (.long v18)])
    have nv21 : v21.toInt = (((jj * Ae) : Nat) : Int) := by rw [hv21]; exact own_lm (x := v19) (y := v20) nv19 nv20 (by omega)
    refine own_by (fun t k => XS.lsub X16.here hx rfl (hb hby at_126) rfl k) (own_letJ (f := (fun z => (mkF m 127 #[.val (.int p1), .val (.int p2), .val (.int p3), .val (.int p4), .val (.int p5), .val (.int v2), .val (.int w4), .val (.int v5), .val (.int v6), .val (.int v7), .val (.int v9), .val (.double (own_Q tt 1 (-2))), .second, .val (.double (own_Q aa 1 (-2))), .second, .val (.double (own_Q jj 1 (-2))), .second, .val (.double (own_Q Ae 1 (-4))), .second, .val (.ref b14), .val (.double (own_Q (Ae * tt * (aa + 4)) (4 * Ae * tt + aa * ((4 - jj) * Ae + jj * dd * 16)) 0)), .second, .unset, .unset, .unset, .unset, .unset, .unset, .unset, .unset] [(.long z)]))) (v18 - v21) fun v22 hv22 => ?_)
    show ORun p e below s _ _ _ T16 (mkF m 127 #[.val (.int p1), .val (.int p2), .val (.int p3), .val (.int p4), .val (.int p5), .val (.int v2), .val (.int w4), .val (.int v5), .val (.int v6), .val (.int v7), .val (.int v9), .val (.double (own_Q tt 1 (-2))), .second, .val (.double (own_Q aa 1 (-2))), .second, .val (.double (own_Q jj 1 (-2))), .second, .val (.double (own_Q Ae 1 (-4))), .second, .val (.ref b14), .val (.double (own_Q (Ae * tt * (aa + 4)) (4 * Ae * tt + aa * ((4 - jj) * Ae + jj * dd * 16)) 0)), .second, .unset, .unset, .unset, .unset, .unset, .unset, .unset, .unset] [(.long v22)])
    have nv22 : v22.toInt = ((((4 * Ae) - (jj * Ae)) : Nat) : Int) := by rw [hv22]; exact own_lsb (x := v18) (y := v21) nv18 nv21 (Nat.mul_le_mul_right _ hj) (by omega)
    refine own_by (fun t k => X16.ldc2Long hx hown (mvT hZ (hw _ (List.mem_of_getElem? (i := 31) rfl))) (g := (mkF m 127 #[.val (.int p1), .val (.int p2), .val (.int p3), .val (.int p4), .val (.int p5), .val (.int v2), .val (.int w4), .val (.int v5), .val (.int v6), .val (.int v7), .val (.int v9), .val (.double (own_Q tt 1 (-2))), .second, .val (.double (own_Q aa 1 (-2))), .second, .val (.double (own_Q jj 1 (-2))), .second, .val (.double (own_Q Ae 1 (-4))), .second, .val (.ref b14), .val (.double (own_Q (Ae * tt * (aa + 4)) (4 * Ae * tt + aa * ((4 - jj) * Ae + jj * dd * 16)) 0)), .second, .unset, .unset, .unset, .unset, .unset, .unset, .unset, .unset] [(.long v22)])) rfl (hb hby at_127) _ k) ?_
    show ORun p e below s _ _ _ T16 (mkF m 130 #[.val (.int p1), .val (.int p2), .val (.int p3), .val (.int p4), .val (.int p5), .val (.int v2), .val (.int w4), .val (.int v5), .val (.int v6), .val (.int v7), .val (.int v9), .val (.double (own_Q tt 1 (-2))), .second, .val (.double (own_Q aa 1 (-2))), .second, .val (.double (own_Q jj 1 (-2))), .second, .val (.double (own_Q Ae 1 (-4))), .second, .val (.ref b14), .val (.double (own_Q (Ae * tt * (aa + 4)) (4 * Ae * tt + aa * ((4 - jj) * Ae + jj * dd * 16)) 0)), .second, .unset, .unset, .unset, .unset, .unset, .unset, .unset, .unset] [(.long (16 : Int64)), (.long v22)])
    refine own_by (fun t k => XS.iload X16.here hx rfl (hb hby at_130) rfl k) ?_
    show ORun p e below s _ _ _ T16 (mkF m 132 #[.val (.int p1), .val (.int p2), .val (.int p3), .val (.int p4), .val (.int p5), .val (.int v2), .val (.int w4), .val (.int v5), .val (.int v6), .val (.int v7), .val (.int v9), .val (.double (own_Q tt 1 (-2))), .second, .val (.double (own_Q aa 1 (-2))), .second, .val (.double (own_Q jj 1 (-2))), .second, .val (.double (own_Q Ae 1 (-4))), .second, .val (.ref b14), .val (.double (own_Q (Ae * tt * (aa + 4)) (4 * Ae * tt + aa * ((4 - jj) * Ae + jj * dd * 16)) 0)), .second, .unset, .unset, .unset, .unset, .unset, .unset, .unset, .unset] [(.int v9), (.long (16 : Int64)), (.long v22)])
    refine own_by (fun t k => XS.i2l X16.here hx rfl (hb hby at_132) rfl k) (own_letJ (f := (fun z => (mkF m 133 #[.val (.int p1), .val (.int p2), .val (.int p3), .val (.int p4), .val (.int p5), .val (.int v2), .val (.int w4), .val (.int v5), .val (.int v6), .val (.int v7), .val (.int v9), .val (.double (own_Q tt 1 (-2))), .second, .val (.double (own_Q aa 1 (-2))), .second, .val (.double (own_Q jj 1 (-2))), .second, .val (.double (own_Q Ae 1 (-4))), .second, .val (.ref b14), .val (.double (own_Q (Ae * tt * (aa + 4)) (4 * Ae * tt + aa * ((4 - jj) * Ae + jj * dd * 16)) 0)), .second, .unset, .unset, .unset, .unset, .unset, .unset, .unset, .unset] [(.long z), (.long (16 : Int64)), (.long v22)]))) (v9.toInt64) fun v23 hv23 => ?_)
    show ORun p e below s _ _ _ T16 (mkF m 133 #[.val (.int p1), .val (.int p2), .val (.int p3), .val (.int p4), .val (.int p5), .val (.int v2), .val (.int w4), .val (.int v5), .val (.int v6), .val (.int v7), .val (.int v9), .val (.double (own_Q tt 1 (-2))), .second, .val (.double (own_Q aa 1 (-2))), .second, .val (.double (own_Q jj 1 (-2))), .second, .val (.double (own_Q Ae 1 (-4))), .second, .val (.ref b14), .val (.double (own_Q (Ae * tt * (aa + 4)) (4 * Ae * tt + aa * ((4 - jj) * Ae + jj * dd * 16)) 0)), .second, .unset, .unset, .unset, .unset, .unset, .unset, .unset, .unset] [(.long v23), (.long (16 : Int64)), (.long v22)])
    have nv23 : v23.toInt = ((jj : Nat) : Int) := by rw [hv23]; exact (c_i2l v9).trans hjj
    refine own_by (fun t k => XS.lmul X16.here hx rfl (hb hby at_133) rfl k) (own_letJ (f := (fun z => (mkF m 134 #[.val (.int p1), .val (.int p2), .val (.int p3), .val (.int p4), .val (.int p5), .val (.int v2), .val (.int w4), .val (.int v5), .val (.int v6), .val (.int v7), .val (.int v9), .val (.double (own_Q tt 1 (-2))), .second, .val (.double (own_Q aa 1 (-2))), .second, .val (.double (own_Q jj 1 (-2))), .second, .val (.double (own_Q Ae 1 (-4))), .second, .val (.ref b14), .val (.double (own_Q (Ae * tt * (aa + 4)) (4 * Ae * tt + aa * ((4 - jj) * Ae + jj * dd * 16)) 0)), .second, .unset, .unset, .unset, .unset, .unset, .unset, .unset, .unset] [(.long z), (.long v22)]))) ((16 : Int64) * v23) fun v24 hv24 => ?_)
    show ORun p e below s _ _ _ T16 (mkF m 134 #[.val (.int p1), .val (.int p2), .val (.int p3), .val (.int p4), .val (.int p5), .val (.int v2), .val (.int w4), .val (.int v5), .val (.int v6), .val (.int v7), .val (.int v9), .val (.double (own_Q tt 1 (-2))), .second, .val (.double (own_Q aa 1 (-2))), .second, .val (.double (own_Q jj 1 (-2))), .second, .val (.double (own_Q Ae 1 (-4))), .second, .val (.ref b14), .val (.double (own_Q (Ae * tt * (aa + 4)) (4 * Ae * tt + aa * ((4 - jj) * Ae + jj * dd * 16)) 0)), .second, .unset, .unset, .unset, .unset, .unset, .unset, .unset, .unset] [(.long v24), (.long v22)])
    have nv24 : v24.toInt = (((16 * jj) : Nat) : Int) := by rw [hv24]; exact own_lm (x := (16 : Int64)) (y := v23) (by decide) nv23 (by omega)
    refine own_by (fun t k => XS.iload X16.here hx rfl (hb hby at_134) rfl k) ?_
    show ORun p e below s _ _ _ T16 (mkF m 136 #[.val (.int p1), .val (.int p2), .val (.int p3), .val (.int p4), .val (.int p5), .val (.int v2), .val (.int w4), .val (.int v5), .val (.int v6), .val (.int v7), .val (.int v9), .val (.double (own_Q tt 1 (-2))), .second, .val (.double (own_Q aa 1 (-2))), .second, .val (.double (own_Q jj 1 (-2))), .second, .val (.double (own_Q Ae 1 (-4))), .second, .val (.ref b14), .val (.double (own_Q (Ae * tt * (aa + 4)) (4 * Ae * tt + aa * ((4 - jj) * Ae + jj * dd * 16)) 0)), .second, .unset, .unset, .unset, .unset, .unset, .unset, .unset, .unset] [(.int w4), (.long v24), (.long v22)])
    refine own_by (fun t k => XS.i2l X16.here hx rfl (hb hby at_136) rfl k) (own_letJ (f := (fun z => (mkF m 137 #[.val (.int p1), .val (.int p2), .val (.int p3), .val (.int p4), .val (.int p5), .val (.int v2), .val (.int w4), .val (.int v5), .val (.int v6), .val (.int v7), .val (.int v9), .val (.double (own_Q tt 1 (-2))), .second, .val (.double (own_Q aa 1 (-2))), .second, .val (.double (own_Q jj 1 (-2))), .second, .val (.double (own_Q Ae 1 (-4))), .second, .val (.ref b14), .val (.double (own_Q (Ae * tt * (aa + 4)) (4 * Ae * tt + aa * ((4 - jj) * Ae + jj * dd * 16)) 0)), .second, .unset, .unset, .unset, .unset, .unset, .unset, .unset, .unset] [(.long z), (.long v24), (.long v22)]))) (w4.toInt64) fun v25 hv25 => ?_)
    show ORun p e below s _ _ _ T16 (mkF m 137 #[.val (.int p1), .val (.int p2), .val (.int p3), .val (.int p4), .val (.int p5), .val (.int v2), .val (.int w4), .val (.int v5), .val (.int v6), .val (.int v7), .val (.int v9), .val (.double (own_Q tt 1 (-2))), .second, .val (.double (own_Q aa 1 (-2))), .second, .val (.double (own_Q jj 1 (-2))), .second, .val (.double (own_Q Ae 1 (-4))), .second, .val (.ref b14), .val (.double (own_Q (Ae * tt * (aa + 4)) (4 * Ae * tt + aa * ((4 - jj) * Ae + jj * dd * 16)) 0)), .second, .unset, .unset, .unset, .unset, .unset, .unset, .unset, .unset] [(.long v25), (.long v24), (.long v22)])
    have nv25 : v25.toInt = ((dd : Nat) : Int) := by rw [hv25]; exact (c_i2l w4).trans hdd
    refine own_by (fun t k => XS.lmul X16.here hx rfl (hb hby at_137) rfl k) (own_letJ (f := (fun z => (mkF m 138 #[.val (.int p1), .val (.int p2), .val (.int p3), .val (.int p4), .val (.int p5), .val (.int v2), .val (.int w4), .val (.int v5), .val (.int v6), .val (.int v7), .val (.int v9), .val (.double (own_Q tt 1 (-2))), .second, .val (.double (own_Q aa 1 (-2))), .second, .val (.double (own_Q jj 1 (-2))), .second, .val (.double (own_Q Ae 1 (-4))), .second, .val (.ref b14), .val (.double (own_Q (Ae * tt * (aa + 4)) (4 * Ae * tt + aa * ((4 - jj) * Ae + jj * dd * 16)) 0)), .second, .unset, .unset, .unset, .unset, .unset, .unset, .unset, .unset] [(.long z), (.long v22)]))) (v24 * v25) fun v26 hv26 => ?_)
    show ORun p e below s _ _ _ T16 (mkF m 138 #[.val (.int p1), .val (.int p2), .val (.int p3), .val (.int p4), .val (.int p5), .val (.int v2), .val (.int w4), .val (.int v5), .val (.int v6), .val (.int v7), .val (.int v9), .val (.double (own_Q tt 1 (-2))), .second, .val (.double (own_Q aa 1 (-2))), .second, .val (.double (own_Q jj 1 (-2))), .second, .val (.double (own_Q Ae 1 (-4))), .second, .val (.ref b14), .val (.double (own_Q (Ae * tt * (aa + 4)) (4 * Ae * tt + aa * ((4 - jj) * Ae + jj * dd * 16)) 0)), .second, .unset, .unset, .unset, .unset, .unset, .unset, .unset, .unset] [(.long v26), (.long v22)])
    have nv26 : v26.toInt = ((((16 * jj) * dd) : Nat) : Int) := by rw [hv26]; exact own_lm (x := v24) (y := v25) nv24 nv25 (by rw [show 16 * jj * dd = jj * dd * 16 by rw [Nat.mul_assoc, Nat.mul_comm]]; omega)
    refine own_by (fun t k => XS.ladd X16.here hx rfl (hb hby at_138) rfl k) (own_letJ (f := (fun z => (mkF m 139 #[.val (.int p1), .val (.int p2), .val (.int p3), .val (.int p4), .val (.int p5), .val (.int v2), .val (.int w4), .val (.int v5), .val (.int v6), .val (.int v7), .val (.int v9), .val (.double (own_Q tt 1 (-2))), .second, .val (.double (own_Q aa 1 (-2))), .second, .val (.double (own_Q jj 1 (-2))), .second, .val (.double (own_Q Ae 1 (-4))), .second, .val (.ref b14), .val (.double (own_Q (Ae * tt * (aa + 4)) (4 * Ae * tt + aa * ((4 - jj) * Ae + jj * dd * 16)) 0)), .second, .unset, .unset, .unset, .unset, .unset, .unset, .unset, .unset] [(.long z)]))) (v22 + v26) fun v27 hv27 => ?_)
    show ORun p e below s _ _ _ T16 (mkF m 139 #[.val (.int p1), .val (.int p2), .val (.int p3), .val (.int p4), .val (.int p5), .val (.int v2), .val (.int w4), .val (.int v5), .val (.int v6), .val (.int v7), .val (.int v9), .val (.double (own_Q tt 1 (-2))), .second, .val (.double (own_Q aa 1 (-2))), .second, .val (.double (own_Q jj 1 (-2))), .second, .val (.double (own_Q Ae 1 (-4))), .second, .val (.ref b14), .val (.double (own_Q (Ae * tt * (aa + 4)) (4 * Ae * tt + aa * ((4 - jj) * Ae + jj * dd * 16)) 0)), .second, .unset, .unset, .unset, .unset, .unset, .unset, .unset, .unset] [(.long v27)])
    have nv27 : v27.toInt = (((((4 * Ae) - (jj * Ae)) + ((16 * jj) * dd)) : Nat) : Int) := by rw [hv27]; exact own_la (x := v22) (y := v26) nv22 nv26 (by rw [show 16 * jj * dd = jj * dd * 16 by rw [Nat.mul_assoc, Nat.mul_comm]]; omega)
    have mv27 : v27.toInt = ((((4 - jj) * Ae + jj * dd * 16) : Nat) : Int) := by rw [nv27, show 4 * Ae - jj * Ae + 16 * jj * dd = ((4 - jj) * Ae + jj * dd * 16) by rw [Nat.sub_mul, show 16 * jj * dd = jj * dd * 16 by rw [Nat.mul_assoc, Nat.mul_comm]]]
    refine own_by (fun t k => XS.lstore X16.here hx rfl (hb hby at_139) rfl (l' := #[.val (.int p1), .val (.int p2), .val (.int p3), .val (.int p4), .val (.int p5), .val (.int v2), .val (.int w4), .val (.int v5), .val (.int v6), .val (.int v7), .val (.int v9), .val (.double (own_Q tt 1 (-2))), .second, .val (.double (own_Q aa 1 (-2))), .second, .val (.double (own_Q jj 1 (-2))), .second, .val (.double (own_Q Ae 1 (-4))), .second, .val (.ref b14), .val (.double (own_Q (Ae * tt * (aa + 4)) (4 * Ae * tt + aa * ((4 - jj) * Ae + jj * dd * 16)) 0)), .second, .val (.long v27), .second, .unset, .unset, .unset, .unset, .unset, .unset]) rfl k) ?_
    show ORun p e below s _ _ _ T16 (mkF m 141 #[.val (.int p1), .val (.int p2), .val (.int p3), .val (.int p4), .val (.int p5), .val (.int v2), .val (.int w4), .val (.int v5), .val (.int v6), .val (.int v7), .val (.int v9), .val (.double (own_Q tt 1 (-2))), .second, .val (.double (own_Q aa 1 (-2))), .second, .val (.double (own_Q jj 1 (-2))), .second, .val (.double (own_Q Ae 1 (-4))), .second, .val (.ref b14), .val (.double (own_Q (Ae * tt * (aa + 4)) (4 * Ae * tt + aa * ((4 - jj) * Ae + jj * dd * 16)) 0)), .second, .val (.long v27), .second, .unset, .unset, .unset, .unset, .unset, .unset] [])
    refine own_by (fun t k => XS.iload X16.here hx rfl (hb hby at_141) rfl k) ?_
    show ORun p e below s _ _ _ T16 (mkF m 143 #[.val (.int p1), .val (.int p2), .val (.int p3), .val (.int p4), .val (.int p5), .val (.int v2), .val (.int w4), .val (.int v5), .val (.int v6), .val (.int v7), .val (.int v9), .val (.double (own_Q tt 1 (-2))), .second, .val (.double (own_Q aa 1 (-2))), .second, .val (.double (own_Q jj 1 (-2))), .second, .val (.double (own_Q Ae 1 (-4))), .second, .val (.ref b14), .val (.double (own_Q (Ae * tt * (aa + 4)) (4 * Ae * tt + aa * ((4 - jj) * Ae + jj * dd * 16)) 0)), .second, .val (.long v27), .second, .unset, .unset, .unset, .unset, .unset, .unset] [(.int v6)])
    refine own_by (fun t k => XS.i2l X16.here hx rfl (hb hby at_143) rfl k) (own_letJ (f := (fun z => (mkF m 144 #[.val (.int p1), .val (.int p2), .val (.int p3), .val (.int p4), .val (.int p5), .val (.int v2), .val (.int w4), .val (.int v5), .val (.int v6), .val (.int v7), .val (.int v9), .val (.double (own_Q tt 1 (-2))), .second, .val (.double (own_Q aa 1 (-2))), .second, .val (.double (own_Q jj 1 (-2))), .second, .val (.double (own_Q Ae 1 (-4))), .second, .val (.ref b14), .val (.double (own_Q (Ae * tt * (aa + 4)) (4 * Ae * tt + aa * ((4 - jj) * Ae + jj * dd * 16)) 0)), .second, .val (.long v27), .second, .unset, .unset, .unset, .unset, .unset, .unset] [(.long z)]))) (v6.toInt64) fun v28 hv28 => ?_)
    show ORun p e below s _ _ _ T16 (mkF m 144 #[.val (.int p1), .val (.int p2), .val (.int p3), .val (.int p4), .val (.int p5), .val (.int v2), .val (.int w4), .val (.int v5), .val (.int v6), .val (.int v7), .val (.int v9), .val (.double (own_Q tt 1 (-2))), .second, .val (.double (own_Q aa 1 (-2))), .second, .val (.double (own_Q jj 1 (-2))), .second, .val (.double (own_Q Ae 1 (-4))), .second, .val (.ref b14), .val (.double (own_Q (Ae * tt * (aa + 4)) (4 * Ae * tt + aa * ((4 - jj) * Ae + jj * dd * 16)) 0)), .second, .val (.long v27), .second, .unset, .unset, .unset, .unset, .unset, .unset] [(.long v28)])
    have nv28 : v28.toInt = ((Ae : Nat) : Int) := by rw [hv28]; exact (c_i2l v6).trans hAe
    refine own_by (fun t k => XS.iload X16.here hx rfl (hb hby at_144) rfl k) ?_
    show ORun p e below s _ _ _ T16 (mkF m 146 #[.val (.int p1), .val (.int p2), .val (.int p3), .val (.int p4), .val (.int p5), .val (.int v2), .val (.int w4), .val (.int v5), .val (.int v6), .val (.int v7), .val (.int v9), .val (.double (own_Q tt 1 (-2))), .second, .val (.double (own_Q aa 1 (-2))), .second, .val (.double (own_Q jj 1 (-2))), .second, .val (.double (own_Q Ae 1 (-4))), .second, .val (.ref b14), .val (.double (own_Q (Ae * tt * (aa + 4)) (4 * Ae * tt + aa * ((4 - jj) * Ae + jj * dd * 16)) 0)), .second, .val (.long v27), .second, .unset, .unset, .unset, .unset, .unset, .unset] [(.int v2), (.long v28)])
    refine own_by (fun t k => XS.i2l X16.here hx rfl (hb hby at_146) rfl k) (own_letJ (f := (fun z => (mkF m 147 #[.val (.int p1), .val (.int p2), .val (.int p3), .val (.int p4), .val (.int p5), .val (.int v2), .val (.int w4), .val (.int v5), .val (.int v6), .val (.int v7), .val (.int v9), .val (.double (own_Q tt 1 (-2))), .second, .val (.double (own_Q aa 1 (-2))), .second, .val (.double (own_Q jj 1 (-2))), .second, .val (.double (own_Q Ae 1 (-4))), .second, .val (.ref b14), .val (.double (own_Q (Ae * tt * (aa + 4)) (4 * Ae * tt + aa * ((4 - jj) * Ae + jj * dd * 16)) 0)), .second, .val (.long v27), .second, .unset, .unset, .unset, .unset, .unset, .unset] [(.long z), (.long v28)]))) (v2.toInt64) fun v29 hv29 => ?_)
    show ORun p e below s _ _ _ T16 (mkF m 147 #[.val (.int p1), .val (.int p2), .val (.int p3), .val (.int p4), .val (.int p5), .val (.int v2), .val (.int w4), .val (.int v5), .val (.int v6), .val (.int v7), .val (.int v9), .val (.double (own_Q tt 1 (-2))), .second, .val (.double (own_Q aa 1 (-2))), .second, .val (.double (own_Q jj 1 (-2))), .second, .val (.double (own_Q Ae 1 (-4))), .second, .val (.ref b14), .val (.double (own_Q (Ae * tt * (aa + 4)) (4 * Ae * tt + aa * ((4 - jj) * Ae + jj * dd * 16)) 0)), .second, .val (.long v27), .second, .unset, .unset, .unset, .unset, .unset, .unset] [(.long v29), (.long v28)])
    have nv29 : v29.toInt = ((tt : Nat) : Int) := by rw [hv29]; exact (c_i2l v2).trans htt
    refine own_by (fun t k => XS.lmul X16.here hx rfl (hb hby at_147) rfl k) (own_letJ (f := (fun z => (mkF m 148 #[.val (.int p1), .val (.int p2), .val (.int p3), .val (.int p4), .val (.int p5), .val (.int v2), .val (.int w4), .val (.int v5), .val (.int v6), .val (.int v7), .val (.int v9), .val (.double (own_Q tt 1 (-2))), .second, .val (.double (own_Q aa 1 (-2))), .second, .val (.double (own_Q jj 1 (-2))), .second, .val (.double (own_Q Ae 1 (-4))), .second, .val (.ref b14), .val (.double (own_Q (Ae * tt * (aa + 4)) (4 * Ae * tt + aa * ((4 - jj) * Ae + jj * dd * 16)) 0)), .second, .val (.long v27), .second, .unset, .unset, .unset, .unset, .unset, .unset] [(.long z)]))) (v28 * v29) fun v30 hv30 => ?_)
    show ORun p e below s _ _ _ T16 (mkF m 148 #[.val (.int p1), .val (.int p2), .val (.int p3), .val (.int p4), .val (.int p5), .val (.int v2), .val (.int w4), .val (.int v5), .val (.int v6), .val (.int v7), .val (.int v9), .val (.double (own_Q tt 1 (-2))), .second, .val (.double (own_Q aa 1 (-2))), .second, .val (.double (own_Q jj 1 (-2))), .second, .val (.double (own_Q Ae 1 (-4))), .second, .val (.ref b14), .val (.double (own_Q (Ae * tt * (aa + 4)) (4 * Ae * tt + aa * ((4 - jj) * Ae + jj * dd * 16)) 0)), .second, .val (.long v27), .second, .unset, .unset, .unset, .unset, .unset, .unset] [(.long v30)])
    have nv30 : v30.toInt = (((Ae * tt) : Nat) : Int) := by rw [hv30]; exact own_lm (x := v28) (y := v29) nv28 nv29 (by omega)
    refine own_by (fun t k => XS.iload X16.here hx rfl (hb hby at_148) rfl k) ?_
    show ORun p e below s _ _ _ T16 (mkF m 150 #[.val (.int p1), .val (.int p2), .val (.int p3), .val (.int p4), .val (.int p5), .val (.int v2), .val (.int w4), .val (.int v5), .val (.int v6), .val (.int v7), .val (.int v9), .val (.double (own_Q tt 1 (-2))), .second, .val (.double (own_Q aa 1 (-2))), .second, .val (.double (own_Q jj 1 (-2))), .second, .val (.double (own_Q Ae 1 (-4))), .second, .val (.ref b14), .val (.double (own_Q (Ae * tt * (aa + 4)) (4 * Ae * tt + aa * ((4 - jj) * Ae + jj * dd * 16)) 0)), .second, .val (.long v27), .second, .unset, .unset, .unset, .unset, .unset, .unset] [(.int v7), (.long v30)])
    refine own_by (fun t k => XS.iconst X16.here hx rfl (hb hby at_150) k) ?_
    show ORun p e below s _ _ _ T16 (mkF m 151 #[.val (.int p1), .val (.int p2), .val (.int p3), .val (.int p4), .val (.int p5), .val (.int v2), .val (.int w4), .val (.int v5), .val (.int v6), .val (.int v7), .val (.int v9), .val (.double (own_Q tt 1 (-2))), .second, .val (.double (own_Q aa 1 (-2))), .second, .val (.double (own_Q jj 1 (-2))), .second, .val (.double (own_Q Ae 1 (-4))), .second, .val (.ref b14), .val (.double (own_Q (Ae * tt * (aa + 4)) (4 * Ae * tt + aa * ((4 - jj) * Ae + jj * dd * 16)) 0)), .second, .val (.long v27), .second, .unset, .unset, .unset, .unset, .unset, .unset] [(.int (4 : Int32)), (.int v7), (.long v30)])
    refine own_by (fun t k => XS.iadd X16.here hx rfl (hb hby at_151) rfl k) (own_letI (f := (fun z => (mkF m 152 #[.val (.int p1), .val (.int p2), .val (.int p3), .val (.int p4), .val (.int p5), .val (.int v2), .val (.int w4), .val (.int v5), .val (.int v6), .val (.int v7), .val (.int v9), .val (.double (own_Q tt 1 (-2))), .second, .val (.double (own_Q aa 1 (-2))), .second, .val (.double (own_Q jj 1 (-2))), .second, .val (.double (own_Q Ae 1 (-4))), .second, .val (.ref b14), .val (.double (own_Q (Ae * tt * (aa + 4)) (4 * Ae * tt + aa * ((4 - jj) * Ae + jj * dd * 16)) 0)), .second, .val (.long v27), .second, .unset, .unset, .unset, .unset, .unset, .unset] [(.int z), (.long v30)]))) (v7 + (4 : Int32)) fun v31 hv31 => ?_)
    show ORun p e below s _ _ _ T16 (mkF m 152 #[.val (.int p1), .val (.int p2), .val (.int p3), .val (.int p4), .val (.int p5), .val (.int v2), .val (.int w4), .val (.int v5), .val (.int v6), .val (.int v7), .val (.int v9), .val (.double (own_Q tt 1 (-2))), .second, .val (.double (own_Q aa 1 (-2))), .second, .val (.double (own_Q jj 1 (-2))), .second, .val (.double (own_Q Ae 1 (-4))), .second, .val (.ref b14), .val (.double (own_Q (Ae * tt * (aa + 4)) (4 * Ae * tt + aa * ((4 - jj) * Ae + jj * dd * 16)) 0)), .second, .val (.long v27), .second, .unset, .unset, .unset, .unset, .unset, .unset] [(.int v31), (.long v30)])
    have r31 := rng32 v31
    have a31 : v31.toInt = v7.toInt + 4 := by
      have q : (v31.toInt - (v7.toInt + 4)) % 4294967296 = 0 := by rw [hv31]; exact c_iadd v7 (4 : Int32)
      omega
    have na4 : v31.toInt = ((aa + 4 : Nat) : Int) := by omega
    refine own_by (fun t k => XS.i2l X16.here hx rfl (hb hby at_152) rfl k) (own_letJ (f := (fun z => (mkF m 153 #[.val (.int p1), .val (.int p2), .val (.int p3), .val (.int p4), .val (.int p5), .val (.int v2), .val (.int w4), .val (.int v5), .val (.int v6), .val (.int v7), .val (.int v9), .val (.double (own_Q tt 1 (-2))), .second, .val (.double (own_Q aa 1 (-2))), .second, .val (.double (own_Q jj 1 (-2))), .second, .val (.double (own_Q Ae 1 (-4))), .second, .val (.ref b14), .val (.double (own_Q (Ae * tt * (aa + 4)) (4 * Ae * tt + aa * ((4 - jj) * Ae + jj * dd * 16)) 0)), .second, .val (.long v27), .second, .unset, .unset, .unset, .unset, .unset, .unset] [(.long z), (.long v30)]))) (v31.toInt64) fun v32 hv32 => ?_)
    show ORun p e below s _ _ _ T16 (mkF m 153 #[.val (.int p1), .val (.int p2), .val (.int p3), .val (.int p4), .val (.int p5), .val (.int v2), .val (.int w4), .val (.int v5), .val (.int v6), .val (.int v7), .val (.int v9), .val (.double (own_Q tt 1 (-2))), .second, .val (.double (own_Q aa 1 (-2))), .second, .val (.double (own_Q jj 1 (-2))), .second, .val (.double (own_Q Ae 1 (-4))), .second, .val (.ref b14), .val (.double (own_Q (Ae * tt * (aa + 4)) (4 * Ae * tt + aa * ((4 - jj) * Ae + jj * dd * 16)) 0)), .second, .val (.long v27), .second, .unset, .unset, .unset, .unset, .unset, .unset] [(.long v32), (.long v30)])
    have nv32 : v32.toInt = (((aa + 4) : Nat) : Int) := by rw [hv32]; exact (c_i2l v31).trans na4
    refine own_by (fun t k => XS.lmul X16.here hx rfl (hb hby at_153) rfl k) (own_letJ (f := (fun z => (mkF m 154 #[.val (.int p1), .val (.int p2), .val (.int p3), .val (.int p4), .val (.int p5), .val (.int v2), .val (.int w4), .val (.int v5), .val (.int v6), .val (.int v7), .val (.int v9), .val (.double (own_Q tt 1 (-2))), .second, .val (.double (own_Q aa 1 (-2))), .second, .val (.double (own_Q jj 1 (-2))), .second, .val (.double (own_Q Ae 1 (-4))), .second, .val (.ref b14), .val (.double (own_Q (Ae * tt * (aa + 4)) (4 * Ae * tt + aa * ((4 - jj) * Ae + jj * dd * 16)) 0)), .second, .val (.long v27), .second, .unset, .unset, .unset, .unset, .unset, .unset] [(.long z)]))) (v30 * v32) fun v33 hv33 => ?_)
    show ORun p e below s _ _ _ T16 (mkF m 154 #[.val (.int p1), .val (.int p2), .val (.int p3), .val (.int p4), .val (.int p5), .val (.int v2), .val (.int w4), .val (.int v5), .val (.int v6), .val (.int v7), .val (.int v9), .val (.double (own_Q tt 1 (-2))), .second, .val (.double (own_Q aa 1 (-2))), .second, .val (.double (own_Q jj 1 (-2))), .second, .val (.double (own_Q Ae 1 (-4))), .second, .val (.ref b14), .val (.double (own_Q (Ae * tt * (aa + 4)) (4 * Ae * tt + aa * ((4 - jj) * Ae + jj * dd * 16)) 0)), .second, .val (.long v27), .second, .unset, .unset, .unset, .unset, .unset, .unset] [(.long v33)])
    have nv33 : v33.toInt = ((((Ae * tt) * (aa + 4)) : Nat) : Int) := by rw [hv33]; exact own_lm (x := v30) (y := v32) nv30 nv32 (by omega)
    refine own_by (fun t k => XS.lstore X16.here hx rfl (hb hby at_154) rfl (l' := #[.val (.int p1), .val (.int p2), .val (.int p3), .val (.int p4), .val (.int p5), .val (.int v2), .val (.int w4), .val (.int v5), .val (.int v6), .val (.int v7), .val (.int v9), .val (.double (own_Q tt 1 (-2))), .second, .val (.double (own_Q aa 1 (-2))), .second, .val (.double (own_Q jj 1 (-2))), .second, .val (.double (own_Q Ae 1 (-4))), .second, .val (.ref b14), .val (.double (own_Q (Ae * tt * (aa + 4)) (4 * Ae * tt + aa * ((4 - jj) * Ae + jj * dd * 16)) 0)), .second, .val (.long v27), .second, .val (.long v33), .second, .unset, .unset, .unset, .unset]) rfl k) ?_
    show ORun p e below s _ _ _ T16 (mkF m 156 #[.val (.int p1), .val (.int p2), .val (.int p3), .val (.int p4), .val (.int p5), .val (.int v2), .val (.int w4), .val (.int v5), .val (.int v6), .val (.int v7), .val (.int v9), .val (.double (own_Q tt 1 (-2))), .second, .val (.double (own_Q aa 1 (-2))), .second, .val (.double (own_Q jj 1 (-2))), .second, .val (.double (own_Q Ae 1 (-4))), .second, .val (.ref b14), .val (.double (own_Q (Ae * tt * (aa + 4)) (4 * Ae * tt + aa * ((4 - jj) * Ae + jj * dd * 16)) 0)), .second, .val (.long v27), .second, .val (.long v33), .second, .unset, .unset, .unset, .unset] [])
    refine own_by (fun t k => X16.ldc2Long hx hown (mvT hZ (hw _ (List.mem_of_getElem? (i := 30) rfl))) (g := (mkF m 156 #[.val (.int p1), .val (.int p2), .val (.int p3), .val (.int p4), .val (.int p5), .val (.int v2), .val (.int w4), .val (.int v5), .val (.int v6), .val (.int v7), .val (.int v9), .val (.double (own_Q tt 1 (-2))), .second, .val (.double (own_Q aa 1 (-2))), .second, .val (.double (own_Q jj 1 (-2))), .second, .val (.double (own_Q Ae 1 (-4))), .second, .val (.ref b14), .val (.double (own_Q (Ae * tt * (aa + 4)) (4 * Ae * tt + aa * ((4 - jj) * Ae + jj * dd * 16)) 0)), .second, .val (.long v27), .second, .val (.long v33), .second, .unset, .unset, .unset, .unset] [])) rfl (hb hby at_156) _ k) ?_
    show ORun p e below s _ _ _ T16 (mkF m 159 #[.val (.int p1), .val (.int p2), .val (.int p3), .val (.int p4), .val (.int p5), .val (.int v2), .val (.int w4), .val (.int v5), .val (.int v6), .val (.int v7), .val (.int v9), .val (.double (own_Q tt 1 (-2))), .second, .val (.double (own_Q aa 1 (-2))), .second, .val (.double (own_Q jj 1 (-2))), .second, .val (.double (own_Q Ae 1 (-4))), .second, .val (.ref b14), .val (.double (own_Q (Ae * tt * (aa + 4)) (4 * Ae * tt + aa * ((4 - jj) * Ae + jj * dd * 16)) 0)), .second, .val (.long v27), .second, .val (.long v33), .second, .unset, .unset, .unset, .unset] [(.long (4 : Int64))])
    refine own_by (fun t k => XS.iload X16.here hx rfl (hb hby at_159) rfl k) ?_
    show ORun p e below s _ _ _ T16 (mkF m 161 #[.val (.int p1), .val (.int p2), .val (.int p3), .val (.int p4), .val (.int p5), .val (.int v2), .val (.int w4), .val (.int v5), .val (.int v6), .val (.int v7), .val (.int v9), .val (.double (own_Q tt 1 (-2))), .second, .val (.double (own_Q aa 1 (-2))), .second, .val (.double (own_Q jj 1 (-2))), .second, .val (.double (own_Q Ae 1 (-4))), .second, .val (.ref b14), .val (.double (own_Q (Ae * tt * (aa + 4)) (4 * Ae * tt + aa * ((4 - jj) * Ae + jj * dd * 16)) 0)), .second, .val (.long v27), .second, .val (.long v33), .second, .unset, .unset, .unset, .unset] [(.int v6), (.long (4 : Int64))])
    refine own_by (fun t k => XS.i2l X16.here hx rfl (hb hby at_161) rfl k) (own_letJ (f := (fun z => (mkF m 162 #[.val (.int p1), .val (.int p2), .val (.int p3), .val (.int p4), .val (.int p5), .val (.int v2), .val (.int w4), .val (.int v5), .val (.int v6), .val (.int v7), .val (.int v9), .val (.double (own_Q tt 1 (-2))), .second, .val (.double (own_Q aa 1 (-2))), .second, .val (.double (own_Q jj 1 (-2))), .second, .val (.double (own_Q Ae 1 (-4))), .second, .val (.ref b14), .val (.double (own_Q (Ae * tt * (aa + 4)) (4 * Ae * tt + aa * ((4 - jj) * Ae + jj * dd * 16)) 0)), .second, .val (.long v27), .second, .val (.long v33), .second, .unset, .unset, .unset, .unset] [(.long z), (.long (4 : Int64))]))) (v6.toInt64) fun v34 hv34 => ?_)
    show ORun p e below s _ _ _ T16 (mkF m 162 #[.val (.int p1), .val (.int p2), .val (.int p3), .val (.int p4), .val (.int p5), .val (.int v2), .val (.int w4), .val (.int v5), .val (.int v6), .val (.int v7), .val (.int v9), .val (.double (own_Q tt 1 (-2))), .second, .val (.double (own_Q aa 1 (-2))), .second, .val (.double (own_Q jj 1 (-2))), .second, .val (.double (own_Q Ae 1 (-4))), .second, .val (.ref b14), .val (.double (own_Q (Ae * tt * (aa + 4)) (4 * Ae * tt + aa * ((4 - jj) * Ae + jj * dd * 16)) 0)), .second, .val (.long v27), .second, .val (.long v33), .second, .unset, .unset, .unset, .unset] [(.long v34), (.long (4 : Int64))])
    have nv34 : v34.toInt = ((Ae : Nat) : Int) := by rw [hv34]; exact (c_i2l v6).trans hAe
    refine own_by (fun t k => XS.lmul X16.here hx rfl (hb hby at_162) rfl k) (own_letJ (f := (fun z => (mkF m 163 #[.val (.int p1), .val (.int p2), .val (.int p3), .val (.int p4), .val (.int p5), .val (.int v2), .val (.int w4), .val (.int v5), .val (.int v6), .val (.int v7), .val (.int v9), .val (.double (own_Q tt 1 (-2))), .second, .val (.double (own_Q aa 1 (-2))), .second, .val (.double (own_Q jj 1 (-2))), .second, .val (.double (own_Q Ae 1 (-4))), .second, .val (.ref b14), .val (.double (own_Q (Ae * tt * (aa + 4)) (4 * Ae * tt + aa * ((4 - jj) * Ae + jj * dd * 16)) 0)), .second, .val (.long v27), .second, .val (.long v33), .second, .unset, .unset, .unset, .unset] [(.long z)]))) ((4 : Int64) * v34) fun v35 hv35 => ?_)
    show ORun p e below s _ _ _ T16 (mkF m 163 #[.val (.int p1), .val (.int p2), .val (.int p3), .val (.int p4), .val (.int p5), .val (.int v2), .val (.int w4), .val (.int v5), .val (.int v6), .val (.int v7), .val (.int v9), .val (.double (own_Q tt 1 (-2))), .second, .val (.double (own_Q aa 1 (-2))), .second, .val (.double (own_Q jj 1 (-2))), .second, .val (.double (own_Q Ae 1 (-4))), .second, .val (.ref b14), .val (.double (own_Q (Ae * tt * (aa + 4)) (4 * Ae * tt + aa * ((4 - jj) * Ae + jj * dd * 16)) 0)), .second, .val (.long v27), .second, .val (.long v33), .second, .unset, .unset, .unset, .unset] [(.long v35)])
    have nv35 : v35.toInt = (((4 * Ae) : Nat) : Int) := by rw [hv35]; exact own_lm (x := (4 : Int64)) (y := v34) (by decide) nv34 (by omega)
    refine own_by (fun t k => XS.iload X16.here hx rfl (hb hby at_163) rfl k) ?_
    show ORun p e below s _ _ _ T16 (mkF m 165 #[.val (.int p1), .val (.int p2), .val (.int p3), .val (.int p4), .val (.int p5), .val (.int v2), .val (.int w4), .val (.int v5), .val (.int v6), .val (.int v7), .val (.int v9), .val (.double (own_Q tt 1 (-2))), .second, .val (.double (own_Q aa 1 (-2))), .second, .val (.double (own_Q jj 1 (-2))), .second, .val (.double (own_Q Ae 1 (-4))), .second, .val (.ref b14), .val (.double (own_Q (Ae * tt * (aa + 4)) (4 * Ae * tt + aa * ((4 - jj) * Ae + jj * dd * 16)) 0)), .second, .val (.long v27), .second, .val (.long v33), .second, .unset, .unset, .unset, .unset] [(.int v2), (.long v35)])
    refine own_by (fun t k => XS.i2l X16.here hx rfl (hb hby at_165) rfl k) (own_letJ (f := (fun z => (mkF m 166 #[.val (.int p1), .val (.int p2), .val (.int p3), .val (.int p4), .val (.int p5), .val (.int v2), .val (.int w4), .val (.int v5), .val (.int v6), .val (.int v7), .val (.int v9), .val (.double (own_Q tt 1 (-2))), .second, .val (.double (own_Q aa 1 (-2))), .second, .val (.double (own_Q jj 1 (-2))), .second, .val (.double (own_Q Ae 1 (-4))), .second, .val (.ref b14), .val (.double (own_Q (Ae * tt * (aa + 4)) (4 * Ae * tt + aa * ((4 - jj) * Ae + jj * dd * 16)) 0)), .second, .val (.long v27), .second, .val (.long v33), .second, .unset, .unset, .unset, .unset] [(.long z), (.long v35)]))) (v2.toInt64) fun v36 hv36 => ?_)
    show ORun p e below s _ _ _ T16 (mkF m 166 #[.val (.int p1), .val (.int p2), .val (.int p3), .val (.int p4), .val (.int p5), .val (.int v2), .val (.int w4), .val (.int v5), .val (.int v6), .val (.int v7), .val (.int v9), .val (.double (own_Q tt 1 (-2))), .second, .val (.double (own_Q aa 1 (-2))), .second, .val (.double (own_Q jj 1 (-2))), .second, .val (.double (own_Q Ae 1 (-4))), .second, .val (.ref b14), .val (.double (own_Q (Ae * tt * (aa + 4)) (4 * Ae * tt + aa * ((4 - jj) * Ae + jj * dd * 16)) 0)), .second, .val (.long v27), .second, .val (.long v33), .second, .unset, .unset, .unset, .unset] [(.long v36), (.long v35)])
    have nv36 : v36.toInt = ((tt : Nat) : Int) := by rw [hv36]; exact (c_i2l v2).trans htt
    refine own_by (fun t k => XS.lmul X16.here hx rfl (hb hby at_166) rfl k) (own_letJ (f := (fun z => (mkF m 167 #[.val (.int p1), .val (.int p2), .val (.int p3), .val (.int p4), .val (.int p5), .val (.int v2), .val (.int w4), .val (.int v5), .val (.int v6), .val (.int v7), .val (.int v9), .val (.double (own_Q tt 1 (-2))), .second, .val (.double (own_Q aa 1 (-2))), .second, .val (.double (own_Q jj 1 (-2))), .second, .val (.double (own_Q Ae 1 (-4))), .second, .val (.ref b14), .val (.double (own_Q (Ae * tt * (aa + 4)) (4 * Ae * tt + aa * ((4 - jj) * Ae + jj * dd * 16)) 0)), .second, .val (.long v27), .second, .val (.long v33), .second, .unset, .unset, .unset, .unset] [(.long z)]))) (v35 * v36) fun v37 hv37 => ?_)
    show ORun p e below s _ _ _ T16 (mkF m 167 #[.val (.int p1), .val (.int p2), .val (.int p3), .val (.int p4), .val (.int p5), .val (.int v2), .val (.int w4), .val (.int v5), .val (.int v6), .val (.int v7), .val (.int v9), .val (.double (own_Q tt 1 (-2))), .second, .val (.double (own_Q aa 1 (-2))), .second, .val (.double (own_Q jj 1 (-2))), .second, .val (.double (own_Q Ae 1 (-4))), .second, .val (.ref b14), .val (.double (own_Q (Ae * tt * (aa + 4)) (4 * Ae * tt + aa * ((4 - jj) * Ae + jj * dd * 16)) 0)), .second, .val (.long v27), .second, .val (.long v33), .second, .unset, .unset, .unset, .unset] [(.long v37)])
    have nv37 : v37.toInt = ((((4 * Ae) * tt) : Nat) : Int) := by rw [hv37]; exact own_lm (x := v35) (y := v36) nv35 nv36 (by omega)
    refine own_by (fun t k => XS.iload X16.here hx rfl (hb hby at_167) rfl k) ?_
    show ORun p e below s _ _ _ T16 (mkF m 169 #[.val (.int p1), .val (.int p2), .val (.int p3), .val (.int p4), .val (.int p5), .val (.int v2), .val (.int w4), .val (.int v5), .val (.int v6), .val (.int v7), .val (.int v9), .val (.double (own_Q tt 1 (-2))), .second, .val (.double (own_Q aa 1 (-2))), .second, .val (.double (own_Q jj 1 (-2))), .second, .val (.double (own_Q Ae 1 (-4))), .second, .val (.ref b14), .val (.double (own_Q (Ae * tt * (aa + 4)) (4 * Ae * tt + aa * ((4 - jj) * Ae + jj * dd * 16)) 0)), .second, .val (.long v27), .second, .val (.long v33), .second, .unset, .unset, .unset, .unset] [(.int v7), (.long v37)])
    refine own_by (fun t k => XS.i2l X16.here hx rfl (hb hby at_169) rfl k) (own_letJ (f := (fun z => (mkF m 170 #[.val (.int p1), .val (.int p2), .val (.int p3), .val (.int p4), .val (.int p5), .val (.int v2), .val (.int w4), .val (.int v5), .val (.int v6), .val (.int v7), .val (.int v9), .val (.double (own_Q tt 1 (-2))), .second, .val (.double (own_Q aa 1 (-2))), .second, .val (.double (own_Q jj 1 (-2))), .second, .val (.double (own_Q Ae 1 (-4))), .second, .val (.ref b14), .val (.double (own_Q (Ae * tt * (aa + 4)) (4 * Ae * tt + aa * ((4 - jj) * Ae + jj * dd * 16)) 0)), .second, .val (.long v27), .second, .val (.long v33), .second, .unset, .unset, .unset, .unset] [(.long z), (.long v37)]))) (v7.toInt64) fun v38 hv38 => ?_)
    show ORun p e below s _ _ _ T16 (mkF m 170 #[.val (.int p1), .val (.int p2), .val (.int p3), .val (.int p4), .val (.int p5), .val (.int v2), .val (.int w4), .val (.int v5), .val (.int v6), .val (.int v7), .val (.int v9), .val (.double (own_Q tt 1 (-2))), .second, .val (.double (own_Q aa 1 (-2))), .second, .val (.double (own_Q jj 1 (-2))), .second, .val (.double (own_Q Ae 1 (-4))), .second, .val (.ref b14), .val (.double (own_Q (Ae * tt * (aa + 4)) (4 * Ae * tt + aa * ((4 - jj) * Ae + jj * dd * 16)) 0)), .second, .val (.long v27), .second, .val (.long v33), .second, .unset, .unset, .unset, .unset] [(.long v38), (.long v37)])
    have nv38 : v38.toInt = ((aa : Nat) : Int) := by rw [hv38]; exact (c_i2l v7).trans haa
    refine own_by (fun t k => XS.lload X16.here hx rfl (hb hby at_170) rfl k) ?_
    show ORun p e below s _ _ _ T16 (mkF m 172 #[.val (.int p1), .val (.int p2), .val (.int p3), .val (.int p4), .val (.int p5), .val (.int v2), .val (.int w4), .val (.int v5), .val (.int v6), .val (.int v7), .val (.int v9), .val (.double (own_Q tt 1 (-2))), .second, .val (.double (own_Q aa 1 (-2))), .second, .val (.double (own_Q jj 1 (-2))), .second, .val (.double (own_Q Ae 1 (-4))), .second, .val (.ref b14), .val (.double (own_Q (Ae * tt * (aa + 4)) (4 * Ae * tt + aa * ((4 - jj) * Ae + jj * dd * 16)) 0)), .second, .val (.long v27), .second, .val (.long v33), .second, .unset, .unset, .unset, .unset] [(.long v27), (.long v38), (.long v37)])
    refine own_by (fun t k => XS.lmul X16.here hx rfl (hb hby at_172) rfl k) (own_letJ (f := (fun z => (mkF m 173 #[.val (.int p1), .val (.int p2), .val (.int p3), .val (.int p4), .val (.int p5), .val (.int v2), .val (.int w4), .val (.int v5), .val (.int v6), .val (.int v7), .val (.int v9), .val (.double (own_Q tt 1 (-2))), .second, .val (.double (own_Q aa 1 (-2))), .second, .val (.double (own_Q jj 1 (-2))), .second, .val (.double (own_Q Ae 1 (-4))), .second, .val (.ref b14), .val (.double (own_Q (Ae * tt * (aa + 4)) (4 * Ae * tt + aa * ((4 - jj) * Ae + jj * dd * 16)) 0)), .second, .val (.long v27), .second, .val (.long v33), .second, .unset, .unset, .unset, .unset] [(.long z), (.long v37)]))) (v38 * v27) fun v39 hv39 => ?_)
    show ORun p e below s _ _ _ T16 (mkF m 173 #[.val (.int p1), .val (.int p2), .val (.int p3), .val (.int p4), .val (.int p5), .val (.int v2), .val (.int w4), .val (.int v5), .val (.int v6), .val (.int v7), .val (.int v9), .val (.double (own_Q tt 1 (-2))), .second, .val (.double (own_Q aa 1 (-2))), .second, .val (.double (own_Q jj 1 (-2))), .second, .val (.double (own_Q Ae 1 (-4))), .second, .val (.ref b14), .val (.double (own_Q (Ae * tt * (aa + 4)) (4 * Ae * tt + aa * ((4 - jj) * Ae + jj * dd * 16)) 0)), .second, .val (.long v27), .second, .val (.long v33), .second, .unset, .unset, .unset, .unset] [(.long v39), (.long v37)])
    have nv39 : v39.toInt = (((aa * ((4 - jj) * Ae + jj * dd * 16)) : Nat) : Int) := by rw [hv39]; exact own_lm (x := v38) (y := v27) nv38 mv27 (by omega)
    refine own_by (fun t k => XS.ladd X16.here hx rfl (hb hby at_173) rfl k) (own_letJ (f := (fun z => (mkF m 174 #[.val (.int p1), .val (.int p2), .val (.int p3), .val (.int p4), .val (.int p5), .val (.int v2), .val (.int w4), .val (.int v5), .val (.int v6), .val (.int v7), .val (.int v9), .val (.double (own_Q tt 1 (-2))), .second, .val (.double (own_Q aa 1 (-2))), .second, .val (.double (own_Q jj 1 (-2))), .second, .val (.double (own_Q Ae 1 (-4))), .second, .val (.ref b14), .val (.double (own_Q (Ae * tt * (aa + 4)) (4 * Ae * tt + aa * ((4 - jj) * Ae + jj * dd * 16)) 0)), .second, .val (.long v27), .second, .val (.long v33), .second, .unset, .unset, .unset, .unset] [(.long z)]))) (v37 + v39) fun v40 hv40 => ?_)
    show ORun p e below s _ _ _ T16 (mkF m 174 #[.val (.int p1), .val (.int p2), .val (.int p3), .val (.int p4), .val (.int p5), .val (.int v2), .val (.int w4), .val (.int v5), .val (.int v6), .val (.int v7), .val (.int v9), .val (.double (own_Q tt 1 (-2))), .second, .val (.double (own_Q aa 1 (-2))), .second, .val (.double (own_Q jj 1 (-2))), .second, .val (.double (own_Q Ae 1 (-4))), .second, .val (.ref b14), .val (.double (own_Q (Ae * tt * (aa + 4)) (4 * Ae * tt + aa * ((4 - jj) * Ae + jj * dd * 16)) 0)), .second, .val (.long v27), .second, .val (.long v33), .second, .unset, .unset, .unset, .unset] [(.long v40)])
    have nv40 : v40.toInt = (((((4 * Ae) * tt) + (aa * ((4 - jj) * Ae + jj * dd * 16))) : Nat) : Int) := by rw [hv40]; exact own_la (x := v37) (y := v39) nv37 nv39 (by omega)
    refine own_by (fun t k => XS.lstore X16.here hx rfl (hb hby at_174) rfl (l' := #[.val (.int p1), .val (.int p2), .val (.int p3), .val (.int p4), .val (.int p5), .val (.int v2), .val (.int w4), .val (.int v5), .val (.int v6), .val (.int v7), .val (.int v9), .val (.double (own_Q tt 1 (-2))), .second, .val (.double (own_Q aa 1 (-2))), .second, .val (.double (own_Q jj 1 (-2))), .second, .val (.double (own_Q Ae 1 (-4))), .second, .val (.ref b14), .val (.double (own_Q (Ae * tt * (aa + 4)) (4 * Ae * tt + aa * ((4 - jj) * Ae + jj * dd * 16)) 0)), .second, .val (.long v27), .second, .val (.long v33), .second, .val (.long v40), .second, .unset, .unset]) rfl k) ?_
    show ORun p e below s _ _ _ T16 (mkF m 176 #[.val (.int p1), .val (.int p2), .val (.int p3), .val (.int p4), .val (.int p5), .val (.int v2), .val (.int w4), .val (.int v5), .val (.int v6), .val (.int v7), .val (.int v9), .val (.double (own_Q tt 1 (-2))), .second, .val (.double (own_Q aa 1 (-2))), .second, .val (.double (own_Q jj 1 (-2))), .second, .val (.double (own_Q Ae 1 (-4))), .second, .val (.ref b14), .val (.double (own_Q (Ae * tt * (aa + 4)) (4 * Ae * tt + aa * ((4 - jj) * Ae + jj * dd * 16)) 0)), .second, .val (.long v27), .second, .val (.long v33), .second, .val (.long v40), .second, .unset, .unset] [])
    refine own_by (fun t k => XS.lload X16.here hx rfl (hb hby at_176) rfl k) ?_
    show ORun p e below s _ _ _ T16 (mkF m 178 #[.val (.int p1), .val (.int p2), .val (.int p3), .val (.int p4), .val (.int p5), .val (.int v2), .val (.int w4), .val (.int v5), .val (.int v6), .val (.int v7), .val (.int v9), .val (.double (own_Q tt 1 (-2))), .second, .val (.double (own_Q aa 1 (-2))), .second, .val (.double (own_Q jj 1 (-2))), .second, .val (.double (own_Q Ae 1 (-4))), .second, .val (.ref b14), .val (.double (own_Q (Ae * tt * (aa + 4)) (4 * Ae * tt + aa * ((4 - jj) * Ae + jj * dd * 16)) 0)), .second, .val (.long v27), .second, .val (.long v33), .second, .val (.long v40), .second, .unset, .unset] [(.long v33)])
    refine own_by (fun t k => XS.l2dS X16.here hx rfl (hb hby at_178) rfl (own_l2d nv33) k) ?_
    show ORun p e below s _ _ _ T16 (mkF m 179 #[.val (.int p1), .val (.int p2), .val (.int p3), .val (.int p4), .val (.int p5), .val (.int v2), .val (.int w4), .val (.int v5), .val (.int v6), .val (.int v7), .val (.int v9), .val (.double (own_Q tt 1 (-2))), .second, .val (.double (own_Q aa 1 (-2))), .second, .val (.double (own_Q jj 1 (-2))), .second, .val (.double (own_Q Ae 1 (-4))), .second, .val (.ref b14), .val (.double (own_Q (Ae * tt * (aa + 4)) (4 * Ae * tt + aa * ((4 - jj) * Ae + jj * dd * 16)) 0)), .second, .val (.long v27), .second, .val (.long v33), .second, .val (.long v40), .second, .unset, .unset] [(.double (own_Q ((Ae * tt) * (aa + 4)) 1 0))])
    refine own_by (fun t k => XS.lload X16.here hx rfl (hb hby at_179) rfl k) ?_
    show ORun p e below s _ _ _ T16 (mkF m 181 #[.val (.int p1), .val (.int p2), .val (.int p3), .val (.int p4), .val (.int p5), .val (.int v2), .val (.int w4), .val (.int v5), .val (.int v6), .val (.int v7), .val (.int v9), .val (.double (own_Q tt 1 (-2))), .second, .val (.double (own_Q aa 1 (-2))), .second, .val (.double (own_Q jj 1 (-2))), .second, .val (.double (own_Q Ae 1 (-4))), .second, .val (.ref b14), .val (.double (own_Q (Ae * tt * (aa + 4)) (4 * Ae * tt + aa * ((4 - jj) * Ae + jj * dd * 16)) 0)), .second, .val (.long v27), .second, .val (.long v33), .second, .val (.long v40), .second, .unset, .unset] [(.long v40), (.double (own_Q ((Ae * tt) * (aa + 4)) 1 0))])
    refine own_by (fun t k => XS.l2dS X16.here hx rfl (hb hby at_181) rfl (own_l2d nv40) k) ?_
    show ORun p e below s _ _ _ T16 (mkF m 182 #[.val (.int p1), .val (.int p2), .val (.int p3), .val (.int p4), .val (.int p5), .val (.int v2), .val (.int w4), .val (.int v5), .val (.int v6), .val (.int v7), .val (.int v9), .val (.double (own_Q tt 1 (-2))), .second, .val (.double (own_Q aa 1 (-2))), .second, .val (.double (own_Q jj 1 (-2))), .second, .val (.double (own_Q Ae 1 (-4))), .second, .val (.ref b14), .val (.double (own_Q (Ae * tt * (aa + 4)) (4 * Ae * tt + aa * ((4 - jj) * Ae + jj * dd * 16)) 0)), .second, .val (.long v27), .second, .val (.long v33), .second, .val (.long v40), .second, .unset, .unset] [(.double (own_Q (((4 * Ae) * tt) + (aa * ((4 - jj) * Ae + jj * dd * 16))) 1 0)), (.double (own_Q ((Ae * tt) * (aa + 4)) 1 0))])
    have fq41 : FP.ddiv (own_Q ((Ae * tt) * (aa + 4)) 1 0) (own_Q (((4 * Ae) * tt) + (aa * ((4 - jj) * Ae + jj * dd * 16))) 1 0) = (own_Q (Ae * tt * (aa + 4)) (4 * Ae * tt + aa * ((4 - jj) * Ae + jj * dd * 16)) 0) := own_fdiv (by omega) (by omega) hW (by decide) (by decide) (by decide) (by decide)
    refine own_by (fun t k => XS.ddivS X16.here hx rfl (hb hby at_182) rfl (by rw [fq41]; exact own_Qno _ hW _) fq41 k) ?_
    show ORun p e below s _ _ _ T16 (mkF m 183 #[.val (.int p1), .val (.int p2), .val (.int p3), .val (.int p4), .val (.int p5), .val (.int v2), .val (.int w4), .val (.int v5), .val (.int v6), .val (.int v7), .val (.int v9), .val (.double (own_Q tt 1 (-2))), .second, .val (.double (own_Q aa 1 (-2))), .second, .val (.double (own_Q jj 1 (-2))), .second, .val (.double (own_Q Ae 1 (-4))), .second, .val (.ref b14), .val (.double (own_Q (Ae * tt * (aa + 4)) (4 * Ae * tt + aa * ((4 - jj) * Ae + jj * dd * 16)) 0)), .second, .val (.long v27), .second, .val (.long v33), .second, .val (.long v40), .second, .unset, .unset] [(.double (own_Q (Ae * tt * (aa + 4)) (4 * Ae * tt + aa * ((4 - jj) * Ae + jj * dd * 16)) 0))])
    refine own_by (fun t k => XS.dstore X16.here hx rfl (hb hby at_183) rfl (l' := #[.val (.int p1), .val (.int p2), .val (.int p3), .val (.int p4), .val (.int p5), .val (.int v2), .val (.int w4), .val (.int v5), .val (.int v6), .val (.int v7), .val (.int v9), .val (.double (own_Q tt 1 (-2))), .second, .val (.double (own_Q aa 1 (-2))), .second, .val (.double (own_Q jj 1 (-2))), .second, .val (.double (own_Q Ae 1 (-4))), .second, .val (.ref b14), .val (.double (own_Q (Ae * tt * (aa + 4)) (4 * Ae * tt + aa * ((4 - jj) * Ae + jj * dd * 16)) 0)), .second, .val (.long v27), .second, .val (.long v33), .second, .val (.long v40), .second, .val (.double (own_Q (Ae * tt * (aa + 4)) (4 * Ae * tt + aa * ((4 - jj) * Ae + jj * dd * 16)) 0)), .second]) rfl k) ?_
    show ORun p e below s _ _ _ T16 (mkF m 185 #[.val (.int p1), .val (.int p2), .val (.int p3), .val (.int p4), .val (.int p5), .val (.int v2), .val (.int w4), .val (.int v5), .val (.int v6), .val (.int v7), .val (.int v9), .val (.double (own_Q tt 1 (-2))), .second, .val (.double (own_Q aa 1 (-2))), .second, .val (.double (own_Q jj 1 (-2))), .second, .val (.double (own_Q Ae 1 (-4))), .second, .val (.ref b14), .val (.double (own_Q (Ae * tt * (aa + 4)) (4 * Ae * tt + aa * ((4 - jj) * Ae + jj * dd * 16)) 0)), .second, .val (.long v27), .second, .val (.long v33), .second, .val (.long v40), .second, .val (.double (own_Q (Ae * tt * (aa + 4)) (4 * Ae * tt + aa * ((4 - jj) * Ae + jj * dd * 16)) 0)), .second] [])
    refine own_by (fun t k => XS.dload X16.here hx rfl (hb hby at_185) rfl k) ?_
    show ORun p e below s _ _ _ T16 (mkF m 187 #[.val (.int p1), .val (.int p2), .val (.int p3), .val (.int p4), .val (.int p5), .val (.int v2), .val (.int w4), .val (.int v5), .val (.int v6), .val (.int v7), .val (.int v9), .val (.double (own_Q tt 1 (-2))), .second, .val (.double (own_Q aa 1 (-2))), .second, .val (.double (own_Q jj 1 (-2))), .second, .val (.double (own_Q Ae 1 (-4))), .second, .val (.ref b14), .val (.double (own_Q (Ae * tt * (aa + 4)) (4 * Ae * tt + aa * ((4 - jj) * Ae + jj * dd * 16)) 0)), .second, .val (.long v27), .second, .val (.long v33), .second, .val (.long v40), .second, .val (.double (own_Q (Ae * tt * (aa + 4)) (4 * Ae * tt + aa * ((4 - jj) * Ae + jj * dd * 16)) 0)), .second] [(.double (own_Q (Ae * tt * (aa + 4)) (4 * Ae * tt + aa * ((4 - jj) * Ae + jj * dd * 16)) 0))])
    refine own_by (fun t k => XS.dload X16.here hx rfl (hb hby at_187) rfl k) ?_
    show ORun p e below s _ _ _ T16 (mkF m 189 #[.val (.int p1), .val (.int p2), .val (.int p3), .val (.int p4), .val (.int p5), .val (.int v2), .val (.int w4), .val (.int v5), .val (.int v6), .val (.int v7), .val (.int v9), .val (.double (own_Q tt 1 (-2))), .second, .val (.double (own_Q aa 1 (-2))), .second, .val (.double (own_Q jj 1 (-2))), .second, .val (.double (own_Q Ae 1 (-4))), .second, .val (.ref b14), .val (.double (own_Q (Ae * tt * (aa + 4)) (4 * Ae * tt + aa * ((4 - jj) * Ae + jj * dd * 16)) 0)), .second, .val (.long v27), .second, .val (.long v33), .second, .val (.long v40), .second, .val (.double (own_Q (Ae * tt * (aa + 4)) (4 * Ae * tt + aa * ((4 - jj) * Ae + jj * dd * 16)) 0)), .second] [(.double (own_Q (Ae * tt * (aa + 4)) (4 * Ae * tt + aa * ((4 - jj) * Ae + jj * dd * 16)) 0)), (.double (own_Q (Ae * tt * (aa + 4)) (4 * Ae * tt + aa * ((4 - jj) * Ae + jj * dd * 16)) 0))])
    refine own_by (fun t k => XS.dcmpS X16.here hx rfl (hb hby at_189) rfl (dcmpV_self (own_Qno _ hW _) .l) k) ?_
    show ORun p e below s _ _ _ T16 (mkF m 190 #[.val (.int p1), .val (.int p2), .val (.int p3), .val (.int p4), .val (.int p5), .val (.int v2), .val (.int w4), .val (.int v5), .val (.int v6), .val (.int v7), .val (.int v9), .val (.double (own_Q tt 1 (-2))), .second, .val (.double (own_Q aa 1 (-2))), .second, .val (.double (own_Q jj 1 (-2))), .second, .val (.double (own_Q Ae 1 (-4))), .second, .val (.ref b14), .val (.double (own_Q (Ae * tt * (aa + 4)) (4 * Ae * tt + aa * ((4 - jj) * Ae + jj * dd * 16)) 0)), .second, .val (.long v27), .second, .val (.long v33), .second, .val (.long v40), .second, .val (.double (own_Q (Ae * tt * (aa + 4)) (4 * Ae * tt + aa * ((4 - jj) * Ae + jj * dd * 16)) 0)), .second] [(.int (0 : Int32))])
    refine own_by (fun t k => XS.ifNo X16.here hx rfl (hb hby at_190) rfl ((if0 _ _).trans (teq (by decide)).2) k) ?_
    show ORun p e below s _ _ _ T16 (mkF m 193 #[.val (.int p1), .val (.int p2), .val (.int p3), .val (.int p4), .val (.int p5), .val (.int v2), .val (.int w4), .val (.int v5), .val (.int v6), .val (.int v7), .val (.int v9), .val (.double (own_Q tt 1 (-2))), .second, .val (.double (own_Q aa 1 (-2))), .second, .val (.double (own_Q jj 1 (-2))), .second, .val (.double (own_Q Ae 1 (-4))), .second, .val (.ref b14), .val (.double (own_Q (Ae * tt * (aa + 4)) (4 * Ae * tt + aa * ((4 - jj) * Ae + jj * dd * 16)) 0)), .second, .val (.long v27), .second, .val (.long v33), .second, .val (.long v40), .second, .val (.double (own_Q (Ae * tt * (aa + 4)) (4 * Ae * tt + aa * ((4 - jj) * Ae + jj * dd * 16)) 0)), .second] [])
    refine own_by (fun t k => XS.dload X16.here hx rfl (hb hby at_193) rfl k) ?_
    show ORun p e below s _ _ _ T16 (mkF m 195 #[.val (.int p1), .val (.int p2), .val (.int p3), .val (.int p4), .val (.int p5), .val (.int v2), .val (.int w4), .val (.int v5), .val (.int v6), .val (.int v7), .val (.int v9), .val (.double (own_Q tt 1 (-2))), .second, .val (.double (own_Q aa 1 (-2))), .second, .val (.double (own_Q jj 1 (-2))), .second, .val (.double (own_Q Ae 1 (-4))), .second, .val (.ref b14), .val (.double (own_Q (Ae * tt * (aa + 4)) (4 * Ae * tt + aa * ((4 - jj) * Ae + jj * dd * 16)) 0)), .second, .val (.long v27), .second, .val (.long v33), .second, .val (.long v40), .second, .val (.double (own_Q (Ae * tt * (aa + 4)) (4 * Ae * tt + aa * ((4 - jj) * Ae + jj * dd * 16)) 0)), .second] [(.double (own_Q (Ae * tt * (aa + 4)) (4 * Ae * tt + aa * ((4 - jj) * Ae + jj * dd * 16)) 0))])
    refine own_by (fun t k => XS.dconst0 X16.here hx rfl (hb hby at_195) own_d0 k) ?_
    show ORun p e below s _ _ _ T16 (mkF m 196 #[.val (.int p1), .val (.int p2), .val (.int p3), .val (.int p4), .val (.int p5), .val (.int v2), .val (.int w4), .val (.int v5), .val (.int v6), .val (.int v7), .val (.int v9), .val (.double (own_Q tt 1 (-2))), .second, .val (.double (own_Q aa 1 (-2))), .second, .val (.double (own_Q jj 1 (-2))), .second, .val (.double (own_Q Ae 1 (-4))), .second, .val (.ref b14), .val (.double (own_Q (Ae * tt * (aa + 4)) (4 * Ae * tt + aa * ((4 - jj) * Ae + jj * dd * 16)) 0)), .second, .val (.long v27), .second, .val (.long v33), .second, .val (.long v40), .second, .val (.double (own_Q (Ae * tt * (aa + 4)) (4 * Ae * tt + aa * ((4 - jj) * Ae + jj * dd * 16)) 0)), .second] [(.double (own_Q 0 1 0)), (.double (own_Q (Ae * tt * (aa + 4)) (4 * Ae * tt + aa * ((4 - jj) * Ae + jj * dd * 16)) 0))])
    refine own_by (fun t k => XS.dcmpS X16.here hx rfl (hb hby at_196) rfl (own_fgt0 hW hNp (by omega) .l) k) ?_
    show ORun p e below s _ _ _ T16 (mkF m 197 #[.val (.int p1), .val (.int p2), .val (.int p3), .val (.int p4), .val (.int p5), .val (.int v2), .val (.int w4), .val (.int v5), .val (.int v6), .val (.int v7), .val (.int v9), .val (.double (own_Q tt 1 (-2))), .second, .val (.double (own_Q aa 1 (-2))), .second, .val (.double (own_Q jj 1 (-2))), .second, .val (.double (own_Q Ae 1 (-4))), .second, .val (.ref b14), .val (.double (own_Q (Ae * tt * (aa + 4)) (4 * Ae * tt + aa * ((4 - jj) * Ae + jj * dd * 16)) 0)), .second, .val (.long v27), .second, .val (.long v33), .second, .val (.long v40), .second, .val (.double (own_Q (Ae * tt * (aa + 4)) (4 * Ae * tt + aa * ((4 - jj) * Ae + jj * dd * 16)) 0)), .second] [(.int (1 : Int32))])
    refine own_by (fun t k => XS.ifNo X16.here hx rfl (hb hby at_197) rfl ((if0 _ _).trans (tlt (by decide)).2.2.2) k) ?_
    show ORun p e below s _ _ _ T16 (mkF m 200 #[.val (.int p1), .val (.int p2), .val (.int p3), .val (.int p4), .val (.int p5), .val (.int v2), .val (.int w4), .val (.int v5), .val (.int v6), .val (.int v7), .val (.int v9), .val (.double (own_Q tt 1 (-2))), .second, .val (.double (own_Q aa 1 (-2))), .second, .val (.double (own_Q jj 1 (-2))), .second, .val (.double (own_Q Ae 1 (-4))), .second, .val (.ref b14), .val (.double (own_Q (Ae * tt * (aa + 4)) (4 * Ae * tt + aa * ((4 - jj) * Ae + jj * dd * 16)) 0)), .second, .val (.long v27), .second, .val (.long v33), .second, .val (.long v40), .second, .val (.double (own_Q (Ae * tt * (aa + 4)) (4 * Ae * tt + aa * ((4 - jj) * Ae + jj * dd * 16)) 0)), .second] [])
    refine own_by (fun t k => XS.dload X16.here hx rfl (hb hby at_200) rfl k) ?_
    show ORun p e below s _ _ _ T16 (mkF m 202 #[.val (.int p1), .val (.int p2), .val (.int p3), .val (.int p4), .val (.int p5), .val (.int v2), .val (.int w4), .val (.int v5), .val (.int v6), .val (.int v7), .val (.int v9), .val (.double (own_Q tt 1 (-2))), .second, .val (.double (own_Q aa 1 (-2))), .second, .val (.double (own_Q jj 1 (-2))), .second, .val (.double (own_Q Ae 1 (-4))), .second, .val (.ref b14), .val (.double (own_Q (Ae * tt * (aa + 4)) (4 * Ae * tt + aa * ((4 - jj) * Ae + jj * dd * 16)) 0)), .second, .val (.long v27), .second, .val (.long v33), .second, .val (.long v40), .second, .val (.double (own_Q (Ae * tt * (aa + 4)) (4 * Ae * tt + aa * ((4 - jj) * Ae + jj * dd * 16)) 0)), .second] [(.double (own_Q (Ae * tt * (aa + 4)) (4 * Ae * tt + aa * ((4 - jj) * Ae + jj * dd * 16)) 0))])
    refine own_by (fun t k => XS.dload X16.here hx rfl (hb hby at_202) rfl k) ?_
    show ORun p e below s _ _ _ T16 (mkF m 204 #[.val (.int p1), .val (.int p2), .val (.int p3), .val (.int p4), .val (.int p5), .val (.int v2), .val (.int w4), .val (.int v5), .val (.int v6), .val (.int v7), .val (.int v9), .val (.double (own_Q tt 1 (-2))), .second, .val (.double (own_Q aa 1 (-2))), .second, .val (.double (own_Q jj 1 (-2))), .second, .val (.double (own_Q Ae 1 (-4))), .second, .val (.ref b14), .val (.double (own_Q (Ae * tt * (aa + 4)) (4 * Ae * tt + aa * ((4 - jj) * Ae + jj * dd * 16)) 0)), .second, .val (.long v27), .second, .val (.long v33), .second, .val (.long v40), .second, .val (.double (own_Q (Ae * tt * (aa + 4)) (4 * Ae * tt + aa * ((4 - jj) * Ae + jj * dd * 16)) 0)), .second] [(.double (own_Q aa 1 (-2))), (.double (own_Q (Ae * tt * (aa + 4)) (4 * Ae * tt + aa * ((4 - jj) * Ae + jj * dd * 16)) 0))])
    refine own_by (fun t k => XS.dconst1 X16.here hx rfl (hb hby at_204) own_d1 k) ?_
    show ORun p e below s _ _ _ T16 (mkF m 205 #[.val (.int p1), .val (.int p2), .val (.int p3), .val (.int p4), .val (.int p5), .val (.int v2), .val (.int w4), .val (.int v5), .val (.int v6), .val (.int v7), .val (.int v9), .val (.double (own_Q tt 1 (-2))), .second, .val (.double (own_Q aa 1 (-2))), .second, .val (.double (own_Q jj 1 (-2))), .second, .val (.double (own_Q Ae 1 (-4))), .second, .val (.ref b14), .val (.double (own_Q (Ae * tt * (aa + 4)) (4 * Ae * tt + aa * ((4 - jj) * Ae + jj * dd * 16)) 0)), .second, .val (.long v27), .second, .val (.long v33), .second, .val (.long v40), .second, .val (.double (own_Q (Ae * tt * (aa + 4)) (4 * Ae * tt + aa * ((4 - jj) * Ae + jj * dd * 16)) 0)), .second] [(.double (own_Q 1 1 0)), (.double (own_Q aa 1 (-2))), (.double (own_Q (Ae * tt * (aa + 4)) (4 * Ae * tt + aa * ((4 - jj) * Ae + jj * dd * 16)) 0))])
    have fq42 : FP.dadd (own_Q aa 1 (-2)) (own_Q 1 1 0) = (own_Q (aa + 4) 1 (-2)) := own_k1 ha
    refine own_by (fun t k => XS.daddS X16.here hx rfl (hb hby at_205) rfl (by rw [fq42]; exact own_Qno _ (by decide) _) fq42 k) ?_
    show ORun p e below s _ _ _ T16 (mkF m 206 #[.val (.int p1), .val (.int p2), .val (.int p3), .val (.int p4), .val (.int p5), .val (.int v2), .val (.int w4), .val (.int v5), .val (.int v6), .val (.int v7), .val (.int v9), .val (.double (own_Q tt 1 (-2))), .second, .val (.double (own_Q aa 1 (-2))), .second, .val (.double (own_Q jj 1 (-2))), .second, .val (.double (own_Q Ae 1 (-4))), .second, .val (.ref b14), .val (.double (own_Q (Ae * tt * (aa + 4)) (4 * Ae * tt + aa * ((4 - jj) * Ae + jj * dd * 16)) 0)), .second, .val (.long v27), .second, .val (.long v33), .second, .val (.long v40), .second, .val (.double (own_Q (Ae * tt * (aa + 4)) (4 * Ae * tt + aa * ((4 - jj) * Ae + jj * dd * 16)) 0)), .second] [(.double (own_Q (aa + 4) 1 (-2))), (.double (own_Q (Ae * tt * (aa + 4)) (4 * Ae * tt + aa * ((4 - jj) * Ae + jj * dd * 16)) 0))])
    obtain ⟨cv43, fq43, gq43⟩ := own_last ha hW .g
    refine own_by (fun t k => XS.dcmpS X16.here hx rfl (hb hby at_206) rfl fq43 k) ?_
    show ORun p e below s _ _ _ T16 (mkF m 207 #[.val (.int p1), .val (.int p2), .val (.int p3), .val (.int p4), .val (.int p5), .val (.int v2), .val (.int w4), .val (.int v5), .val (.int v6), .val (.int v7), .val (.int v9), .val (.double (own_Q tt 1 (-2))), .second, .val (.double (own_Q aa 1 (-2))), .second, .val (.double (own_Q jj 1 (-2))), .second, .val (.double (own_Q Ae 1 (-4))), .second, .val (.ref b14), .val (.double (own_Q (Ae * tt * (aa + 4)) (4 * Ae * tt + aa * ((4 - jj) * Ae + jj * dd * 16)) 0)), .second, .val (.long v27), .second, .val (.long v33), .second, .val (.long v40), .second, .val (.double (own_Q (Ae * tt * (aa + 4)) (4 * Ae * tt + aa * ((4 - jj) * Ae + jj * dd * 16)) 0)), .second] [(.int cv43)])
    by_cases hc44 : (0 : Int32) < cv43
    · have t44 := own_lt hc44 (a := 0) (b := cv43.toInt) (by decide) rfl
      exfalso
      omega
    · have t44 := own_nlt hc44 (a := 0) (b := cv43.toInt) (by decide) rfl
      refine own_by (fun t k => XS.ifNo X16.here hx rfl (hb hby at_207) rfl ((if0 _ _).trans (flt hc44).2.2.1) k) ?_
      show ORun p e below s _ _ _ T16 (mkF m 210 #[.val (.int p1), .val (.int p2), .val (.int p3), .val (.int p4), .val (.int p5), .val (.int v2), .val (.int w4), .val (.int v5), .val (.int v6), .val (.int v7), .val (.int v9), .val (.double (own_Q tt 1 (-2))), .second, .val (.double (own_Q aa 1 (-2))), .second, .val (.double (own_Q jj 1 (-2))), .second, .val (.double (own_Q Ae 1 (-4))), .second, .val (.ref b14), .val (.double (own_Q (Ae * tt * (aa + 4)) (4 * Ae * tt + aa * ((4 - jj) * Ae + jj * dd * 16)) 0)), .second, .val (.long v27), .second, .val (.long v33), .second, .val (.long v40), .second, .val (.double (own_Q (Ae * tt * (aa + 4)) (4 * Ae * tt + aa * ((4 - jj) * Ae + jj * dd * 16)) 0)), .second] [])
      refine own_by (fun t k => XS.iconst X16.here hx rfl (hb hby at_210) k) ?_
      show ORun p e below s _ _ _ T16 (mkF m 211 #[.val (.int p1), .val (.int p2), .val (.int p3), .val (.int p4), .val (.int p5), .val (.int v2), .val (.int w4), .val (.int v5), .val (.int v6), .val (.int v7), .val (.int v9), .val (.double (own_Q tt 1 (-2))), .second, .val (.double (own_Q aa 1 (-2))), .second, .val (.double (own_Q jj 1 (-2))), .second, .val (.double (own_Q Ae 1 (-4))), .second, .val (.ref b14), .val (.double (own_Q (Ae * tt * (aa + 4)) (4 * Ae * tt + aa * ((4 - jj) * Ae + jj * dd * 16)) 0)), .second, .val (.long v27), .second, .val (.long v33), .second, .val (.long v40), .second, .val (.double (own_Q (Ae * tt * (aa + 4)) (4 * Ae * tt + aa * ((4 - jj) * Ae + jj * dd * 16)) 0)), .second] [(.int (1 : Int32))])
      refine own_by (fun t k => XS.goto X16.here hx rfl (pc0 := 211) (pc' := 215) rfl (hb hby at_211) (by decide) (by decide) k) ?_
      show ORun p e below s _ _ _ T16 (mkF m 215 #[.val (.int p1), .val (.int p2), .val (.int p3), .val (.int p4), .val (.int p5), .val (.int v2), .val (.int w4), .val (.int v5), .val (.int v6), .val (.int v7), .val (.int v9), .val (.double (own_Q tt 1 (-2))), .second, .val (.double (own_Q aa 1 (-2))), .second, .val (.double (own_Q jj 1 (-2))), .second, .val (.double (own_Q Ae 1 (-4))), .second, .val (.ref b14), .val (.double (own_Q (Ae * tt * (aa + 4)) (4 * Ae * tt + aa * ((4 - jj) * Ae + jj * dd * 16)) 0)), .second, .val (.long v27), .second, .val (.long v33), .second, .val (.long v40), .second, .val (.double (own_Q (Ae * tt * (aa + 4)) (4 * Ae * tt + aa * ((4 - jj) * Ae + jj * dd * 16)) 0)), .second] [(.int (1 : Int32))])
      refine own_retN X16 hx (t := .boolean) hret (by simp) hlk (hb hby at_215) (by decide) (by decide) ?_
      exact ⟨rfl, N16⟩
  refine own_by (fun t k => XS.iload X0.here hx rfl (hb hby at_14) rfl k) ?_
  show ORun p e below s _ _ _ s₁ (mkF m 16 #[.val (.int p1), .val (.int p2), .val (.int p3), .val (.int p4), .val (.int p5), .val (.int v2), .val (.int v3), .unset, .unset, .unset, .unset, .unset, .unset, .unset, .unset, .unset, .unset, .unset, .unset, .unset, .unset, .unset, .unset, .unset, .unset, .unset, .unset, .unset, .unset, .unset] [(.int v3)])
  by_cases hc45 : v3 = (0 : Int32)
  · have t45 := own_eq hc45 (a := v3.toInt) (b := 0) rfl (by decide)
    refine own_by (fun t k => XS.ifNo X0.here hx rfl (hb hby at_16) rfl ((if0 _ _).trans (teq hc45).2) k) ?_
    show ORun p e below s _ _ _ s₁ (mkF m 19 #[.val (.int p1), .val (.int p2), .val (.int p3), .val (.int p4), .val (.int p5), .val (.int v2), .val (.int v3), .unset, .unset, .unset, .unset, .unset, .unset, .unset, .unset, .unset, .unset, .unset, .unset, .unset, .unset, .unset, .unset, .unset, .unset, .unset, .unset, .unset, .unset, .unset] [])
    refine own_by (fun t k => XS.iconst X0.here hx rfl (hb hby at_19) k) ?_
    show ORun p e below s _ _ _ s₁ (mkF m 20 #[.val (.int p1), .val (.int p2), .val (.int p3), .val (.int p4), .val (.int p5), .val (.int v2), .val (.int v3), .unset, .unset, .unset, .unset, .unset, .unset, .unset, .unset, .unset, .unset, .unset, .unset, .unset, .unset, .unset, .unset, .unset, .unset, .unset, .unset, .unset, .unset, .unset] [(.int (1 : Int32))])
    refine own_by (fun t k => XS.istore X0.here hx rfl (hb hby at_20) rfl (l' := #[.val (.int p1), .val (.int p2), .val (.int p3), .val (.int p4), .val (.int p5), .val (.int v2), .val (.int (1 : Int32)), .unset, .unset, .unset, .unset, .unset, .unset, .unset, .unset, .unset, .unset, .unset, .unset, .unset, .unset, .unset, .unset, .unset, .unset, .unset, .unset, .unset, .unset, .unset]) rfl k) ?_
    show ORun p e below s _ _ _ s₁ (mkF m 22 #[.val (.int p1), .val (.int p2), .val (.int p3), .val (.int p4), .val (.int p5), .val (.int v2), .val (.int (1 : Int32)), .unset, .unset, .unset, .unset, .unset, .unset, .unset, .unset, .unset, .unset, .unset, .unset, .unset, .unset, .unset, .unset, .unset, .unset, .unset, .unset, .unset, .unset, .unset] [])
    exact J4 (1 : Int32) (by decide)
  · have t45 := own_ne hc45 (a := v3.toInt) (b := 0) rfl (by decide)
    refine own_by (fun t k => XS.ifYes X0.here hx rfl (pc0 := 16) (pc' := 22) rfl (hb hby at_16) rfl ((if0 _ _).trans (feq hc45).2) (by decide) (by decide) k) ?_
    show ORun p e below s _ _ _ s₁ (mkF m 22 #[.val (.int p1), .val (.int p2), .val (.int p3), .val (.int p4), .val (.int p5), .val (.int v2), .val (.int v3), .unset, .unset, .unset, .unset, .unset, .unset, .unset, .unset, .unset, .unset, .unset, .unset, .unset, .unset, .unset, .unset, .unset, .unset, .unset, .unset, .unset, .unset, .unset] [])
    exact J4 v3 (by omega)
set_option maxRecDepth 65536 in
set_option maxHeartbeats 40000000 in
theorem comes_1 {Post : Tables → Env → Array Value → State → Outcome → State → Prop} (hpost : ∀ tb e args s v u, (limb_1_1.after args s (.returned v) u = true ∧ limb_1_2.after args s (.returned v) u = true ∧ True) → FrameEnd s (.returned v) u (Jvm.fieldLocs frame_1_writes args s ++ Jvm.arrayLocs frame_1_arrays args s ++ Jvm.staticLocs frame_1_statics s) 16 128 → Post tb e args s (.returned v) u) :
    ArmFor flags0 classFile x code maxLocals ret World_1 tables_1 room_1 Calls_1 rest_1 Pre_1 Post := by
  intro l hfl _ _ p e ha hc hk s m args below hf hA hF happ hP
  obtain ⟨hcalls, hrest, hpre⟩ := hP
  obtain ⟨-, -, -, hnamed, -, -, -, hat⟩ := (Spec.applies_iff hf).mp happ
  obtain ⟨hg, hn⟩ := and_e (Cond.before_iff.mp (show (Jvm.Cond.and given_1 narrow_1).before args s = true from hpre))
  obtain ⟨hcnt, g0⟩ := and_e hg
  obtain ⟨k0, g1⟩ := and_e g0
  obtain ⟨k1, g2⟩ := and_e g1
  obtain ⟨k2, g3⟩ := and_e g2
  obtain ⟨k3, g4⟩ := and_e g3
  have k4 := g4
  obtain ⟨w0, w1, w2, w3, w4, rfl⟩ : ∃ w0 w1 w2 w3 w4 : Value, args = #[w0, w1, w2, w3, w4] := by
    have hs : args.size = 5 := by simpa [Cond.value, given_1] using hcnt
    obtain ⟨L⟩ := args
    match L, hs with
    | [w0, w1, w2, w3, w4], _ => exact ⟨w0, w1, w2, w3, w4, rfl⟩
  have hw := fun d (hd : d ∈ tables_1) => atoms_spec (ws := Jvm.Cond.code x code maxLocals ret :: tables_1) hat d (List.mem_cons_of_mem _ hd)
  have hfit : Fit s := fun {y c} hc i hi => by
    obtain ⟨ha, rfl⟩ := Array.getElem?_eq_some_iff.mp hc
    have q := List.all_eq_true.mp ((Array.all_eq_true_iff_forall_mem.mp hF) _ (Array.getElem_mem ha)) i (List.mem_range.mpr hi)
    simpa [Array.getElem?_eq_getElem hi] using q
  obtain ⟨i0, e0⟩ := is_v k0
  obtain rfl : w0 = (.int i0) := Option.some.inj e0
  obtain ⟨i1, e1⟩ := is_v k1
  obtain rfl : w1 = (.int i1) := Option.some.inj e1
  obtain ⟨i2, e2⟩ := is_v k2
  obtain rfl : w2 = (.int i2) := Option.some.inj e2
  obtain ⟨i3, e3⟩ := is_v k3
  obtain rfl : w3 = (.int i3) := Option.some.inj e3
  obtain ⟨i4, e4⟩ := is_v k4
  obtain rfl : w4 = (.int i4) := Option.some.inj e4
  obtain ⟨x2, y2, ex2, ey2, k2, k2'⟩ := cmp_v (Or.inl hn)
  obtain rfl : y2 = .int 1 := (Option.some.inj ((Term.int_eval 1).symm.trans ey2)).symm
  obtain ⟨z2, rfl⟩ : ∃ z, x2 = .int z := k2'
  have q2 : z2 = 1 := gotT (Cond.eq_ints ex2 ey2) hn
  subst q2
  have Sd := Sta.start ex2 (Or.inr ⟨(hw _ (List.mem_of_getElem? (i := 6) rfl)), (hw _ (List.mem_of_getElem? (i := 29) rfl))⟩)
  obtain ⟨n, o, h1, h2, h3, _, L, rfl, ⟨rfl, N⟩, hq⟩ := rm0 l s _ hw tables_1 s.heap s.heap.size (Nat.le_refl _) i0 i1 i2 i3 i4 Sd p e ha hc hk s m _ below hf ((Spec.applies_iff_loose hf).mp happ).1 ⟨rfl, State.Warmed39.refl s, rfl⟩ trivial
  refine ⟨n, _, h1, h2, h3, hpost _ _ _ _ _ _ ⟨Cond.after_iff.mpr rfl, Cond.after_iff.mpr (eq_i res_at (Term.int_eval (1)) rfl), trivial⟩ ⟨hq.1, hq.2.1, (hq.2.2.sift fun y hy => Or.inr (N y hy)).mono (by decide) (by decide)⟩⟩
theorem main_1_1 : Claimed_1_1 := comes_1 fun _ _ _ _ _ _ h hF => ⟨h.1, hF⟩
theorem main_1_2 : Claimed_1_2 := comes_1 fun _ _ _ _ _ _ h hF => ⟨h.2.1, hF⟩
end Jvm.Pilot.@@N@@
namespace Jvm.Pilot.@@N@@
open Jvm Jvm.ClassFile Sem Op Lib Jvm.Free Jvm.Stand Jvm.Pilot.@@N@@.Jvm.D
/-! MADE BY PROGRAM (witnessworld.py) out of the Statement's table words and the real class files: 10 classes; the members and pool entries that the words name. The judged class is class 1, her method 1. -/
namespace start1
open Jvm.ClassFile
def u (s : String) : CpInfo := .utf8 (stringToUtf16 s)
/-- a pool by its gaps: so many unusable entries, then the entry; so many at the end -/
def gap : Nat → List CpInfo → List CpInfo
  | 0, r => r
  | n + 1, r => .unusable :: gap n r
def poolList (es : List (Nat × CpInfo)) (last : Nat) : List CpInfo := es.foldr (fun e r => gap e.1 (e.2 :: r)) (gap last [])
def pool (es : List (Nat × CpInfo)) (last : Nat) : Array CpInfo := ⟨poolList es last⟩
def fileOf (pool : Array CpInfo) (this : Nat) (attrs : Array Attribute := #[]) (ms : Array MethodInfo := #[]) (fl : Nat := 33) (sup : Nat := 0) (ifs : Array Nat := #[]) (fds : Array FieldInfo := #[]) : ClassFile where
  minorVersion := 0
  majorVersion := 65
  constantPool := pool
  accessFlags := fl
  thisClass := this
  superClass := sup
  interfaces := ifs
  fields := fds
  methods := ms
  attributes := attrs
def plain (name : String) (sup : Option ClassId) : Class where
  name := name
  kind := .ordinary
  loader := none
  accessFlags := 33
  super := sup
  interfaces := #[]
  cf := none
  fields := #[]
  methods := #[]
  instanceTypes := #[]
  staticTypes := #[]
  resolved := #[]
  callSites := []
  init := .initialized
  statics := none
  mirror := none

def pool0 : Array CpInfo := pool [(5, u "<init>"), (0, u "()V"), (1, .class_ 10), (1, u "java/lang/Object")] 113

def k0c0 : Code := { maxStack := 0, maxLocals := 1, code := object_method_1_code, exceptionTable := #[], attributes := #[] }
def k0m0 : Method := { name := "<init>", desc := "()V", sig := { parameters := [], returnType := none }, accessFlags := 1, code := some k0c0 }
/-- java/lang/Object -/
def k0 : Class := { plain "java/lang/Object" none with
  accessFlags := 33
  interfaces := #[]
  cf := some (fileOf pool0 8 #[] #[{ accessFlags := 1, nameIndex := 5, descriptorIndex := 6, attributes := #[] }] 33 0 #[] #[])
  fields := #[]
  methods := #[k0m0]
  instanceTypes := #[]
  staticTypes := #[]
  resolved := Array.replicate 124 none
  statics := none }

def pool1 : Array CpInfo := pool [(2, .class_ 4), (1, u "java/lang/Object"), (0, u "<init>"), (0, u "()V"), (0, .integer 1048575), (0, .integer 2147483647), (0, .double 4616189618054758400), (1, .double 4625196817309499392), (1, .class_ 14), (0, u "com/example/baris/baris/engine/scoring/Bm25"), (0, .methodref 13 16), (0, .nameAndType 5 17), (0, u "(DD)V"), (0, .methodref 13 19), (0, .nameAndType 20 21), (0, u "termFrequencyNorm"), (0, u "(DID)D"), (0, .long 4), (1, .long 16), (1, .class_ 27), (0, u "com/example/baris/baris/engine/scoring/Bm25TermFrequencyNormPinLaw"), (2, u "law"), (0, u "(IIIII)Z")] 3

def k1m0 : Method := { name := "<init>", desc := "()V", sig := { parameters := [], returnType := none }, accessFlags := 1, code := none }
def k1c1 : Code := { maxStack := 6, maxLocals := 30, code := code, exceptionTable := #[], attributes := #[] }
def k1m1 : Method := { name := "law", desc := "(IIIII)Z", sig := { parameters := [.int, .int, .int, .int, .int], returnType := some .boolean }, accessFlags := 9, code := some k1c1 }
/-- com/example/baris/baris/engine/scoring/Bm25TermFrequencyNormPinLaw -/
def k1 : Class := { plain "com/example/baris/baris/engine/scoring/Bm25TermFrequencyNormPinLaw" (some 0) with
  accessFlags := 49
  interfaces := #[]
  cf := some (fileOf pool1 26 #[] #[{ accessFlags := 1, nameIndex := 5, descriptorIndex := 6, attributes := #[] }, { accessFlags := 9, nameIndex := 30, descriptorIndex := 31, attributes := #[] }] 49 2 #[] #[])
  fields := #[]
  methods := #[k1m0, k1m1]
  instanceTypes := #[]
  staticTypes := #[]
  resolved := Array.replicate 35 none
  statics := none }

def pool2 : Array CpInfo := pool [(1, .methodref 2 3), (0, .class_ 4), (0, .nameAndType 5 6), (0, u "java/lang/Object"), (0, u "<init>"), (0, u "()V"), (0, .class_ 8), (0, u "java/lang/Record")] 13

def k2c0 : Code := { maxStack := 1, maxLocals := 1, code := jdk_30_method_1_code, exceptionTable := #[], attributes := #[] }
def k2m0 : Method := { name := "<init>", desc := "()V", sig := { parameters := [], returnType := none }, accessFlags := 4, code := some k2c0 }
/-- java/lang/Record -/
def k2 : Class := { plain "java/lang/Record" (some 0) with
  accessFlags := 1057
  interfaces := #[]
  cf := some (fileOf pool2 7 #[] #[{ accessFlags := 4, nameIndex := 5, descriptorIndex := 6, attributes := #[] }] 1057 2 #[] #[])
  fields := #[]
  methods := #[k2m0]
  instanceTypes := #[]
  staticTypes := #[]
  resolved := Array.replicate 22 none
  statics := none }

def pool3 : Array CpInfo := pool [(1, .methodref 2 3), (0, .class_ 4), (0, .nameAndType 5 6), (0, u "java/lang/Record"), (0, u "<init>"), (0, u "()V"), (2, .double 9218868437227405312), (11, .fieldref 22 23), (0, .class_ 24), (0, .nameAndType 25 26), (0, u "com/example/baris/baris/engine/scoring/Bm25"), (0, u "k1"), (0, u "D"), (0, .fieldref 22 28), (0, .nameAndType 29 26), (0, u "b"), (6, u "(DD)V"), (0, .fieldref 22 38), (0, .nameAndType 39 40), (0, u "$assertionsDisabled"), (0, u "Z"), (37, u "DEFAULT_K1"), (1, u "DEFAULT_B"), (6, u "termFrequencyNorm"), (0, u "(DID)D")] 40

def k3c0 : Code := { maxStack := 4, maxLocals := 5, code := prog_50_method_1_code, exceptionTable := #[], attributes := #[] }
def k3m0 : Method := { name := "<init>", desc := "(DD)V", sig := { parameters := [.double, .double], returnType := none }, accessFlags := 1, code := some k3c0 }
def k3m1 : Method := { name := "<init>", desc := "()V", sig := { parameters := [], returnType := none }, accessFlags := 1, code := none }
def k3c2 : Code := { maxStack := 12, maxLocals := 8, code := prog_50_method_4_code, exceptionTable := #[], attributes := #[] }
def k3m2 : Method := { name := "termFrequencyNorm", desc := "(DID)D", sig := { parameters := [.double, .int, .double], returnType := some .double }, accessFlags := 1, code := some k3c2 }
/-- com/example/baris/baris/engine/scoring/Bm25 -/
def k3 : Class := { plain "com/example/baris/baris/engine/scoring/Bm25" (some 2) with
  accessFlags := 49
  interfaces := #[]
  cf := some (fileOf pool3 22 #[] #[{ accessFlags := 1, nameIndex := 5, descriptorIndex := 36, attributes := #[] }, { accessFlags := 1, nameIndex := 5, descriptorIndex := 6, attributes := #[] }, { accessFlags := 1, nameIndex := 87, descriptorIndex := 88, attributes := #[] }] 49 2 #[] #[{ accessFlags := 18, nameIndex := 25, descriptorIndex := 26, attributes := #[] }, { accessFlags := 18, nameIndex := 29, descriptorIndex := 26, attributes := #[] }, { accessFlags := 25, nameIndex := 78, descriptorIndex := 26, attributes := #[] }, { accessFlags := 25, nameIndex := 80, descriptorIndex := 26, attributes := #[] }, { accessFlags := 4120, nameIndex := 39, descriptorIndex := 40, attributes := #[] }])
  fields := #[{ name := "k1", type := .double, accessFlags := 18, slot := 0, constantValue := 0 }, { name := "b", type := .double, accessFlags := 18, slot := 1, constantValue := 0 }, { name := "DEFAULT_K1", type := .double, accessFlags := 25, slot := 0, constantValue := 0 }, { name := "DEFAULT_B", type := .double, accessFlags := 25, slot := 1, constantValue := 0 }, { name := "$assertionsDisabled", type := .boolean, accessFlags := 4120, slot := 2, constantValue := 0 }]
  methods := #[k3m0, k3m1, k3m2]
  instanceTypes := #[.double, .double]
  staticTypes := #[.double, .double, .boolean]
  resolved := Array.replicate 129 none
  statics := some 0 }

def pool4 : Array CpInfo := pool [(1, u "java/lang/Cloneable"), (0, .class_ 1), (0, u "java/lang/Object"), (0, .class_ 3)] 3

/-- java/lang/Cloneable -/
def k4 : Class := { plain "java/lang/Cloneable" (some 0) with
  accessFlags := 1537
  interfaces := #[]
  cf := some (fileOf pool4 2 #[] #[] 1537 4 #[] #[])
  fields := #[]
  methods := #[]
  instanceTypes := #[]
  staticTypes := #[]
  resolved := Array.replicate 8 none
  statics := none }

def pool5 : Array CpInfo := pool [(1, u "java/io/Serializable"), (0, .class_ 1), (0, u "java/lang/Object"), (0, .class_ 3)] 3

/-- java/io/Serializable -/
def k5 : Class := { plain "java/io/Serializable" (some 0) with
  accessFlags := 1537
  interfaces := #[]
  cf := some (fileOf pool5 2 #[] #[] 1537 4 #[] #[])
  fields := #[]
  methods := #[]
  instanceTypes := #[]
  staticTypes := #[]
  resolved := Array.replicate 8 none
  statics := none }

/-- the primitive byte -/
def k6 : Class := { plain "byte" none with kind := .primitive 'B', accessFlags := 0x411 }
/-- [B -/
def k7 : Class := { plain "[B" (some 0) with kind := .array 6 .byte, interfaces := #[4, 5], accessFlags := 1041 }

/-- the primitive int -/
def k8 : Class := { plain "int" none with kind := .primitive 'I', accessFlags := 0x411 }
/-- [I -/
def k9 : Class := { plain "[I" (some 0) with kind := .array 8 .int, interfaces := #[4, 5], accessFlags := 1041 }

def heap : Heap := #[{ cls := 3, slots := #[.double 0, .double 0, .int 1], vm := .statics 3 }]
def classes : Array Class := #[k0, k1, k2, k3, k4, k5, k6, k7, k8, k9]
def interned : List (Array UInt16 × Addr) := []
def slotsUsed : Nat := 3
def theMethod : MethodId := ⟨1, 1⟩
def args0 : Array Value := #[.int 7, .int 100, .int 3, .int 5, .int 2]
def aboutOver (below : List Frame) : State where
  vm := { classes := classes, interned := interned.toArray }
  heap := heap
  slotsUsed := slotsUsed
  threads := #[{ frames := .invoking theMethod args0 :: below }]
def below0 : List Frame := [.native { method := ⟨0, 0⟩, args := #[] }]
def about1 : State := aboutOver below0
def p0 : Program := .bare "" "" ""
def e0 : Env := launch0.env 0 0 0
theorem w_frames : about1.frames = Frame.invoking theMethod args0 :: below0 := rfl
set_option maxRecDepth 65536 in
theorem w_args : argsFit about1.vm theMethod args0 = true := by decide +kernel
set_option maxRecDepth 65536 in
theorem w_heap : heapFits about1 = true := by decide +kernel
set_option maxRecDepth 65536 in
theorem w_runnable : about1.curStatus? = some .runnable := by decide +kernel
set_option maxRecDepth 65536 in
theorem w_alone : about1.alone = true := by decide +kernel
set_option maxRecDepth 65536 in
theorem w_named : about1.methodNamed? x = some theMethod := by decide +kernel
set_option maxRecDepth 65536 in
theorem w_hears : about1.hears theMethod below0 = true := by decide +kernel
set_option maxRecDepth 65536 in
theorem w_ripe : about1.ripe theMethod args0 below0 = true := by decide +kernel
theorem w_running : about1.status = .running := rfl
set_option maxRecDepth 65536 in
theorem w_room : about1.hasRoom e0.platform room_1 = true :=
  launch0.hasRoom_least _ room_1 (by decide +kernel) (by decide +kernel) (by decide +kernel) (by decide +kernel) (by decide +kernel) (by decide +kernel)
theorem allAtoms_all (ts : List Jvm.Cond) (a : Array Jvm.Value) (st : Jvm.State) : (allAtoms ts).before a st = ts.all (fun c => c.before a st) := by
  induction ts with
  | nil => rfl
  | cons c t ih =>
    show (Jvm.Cond.and c (allAtoms t)).before a st = _
    rw [Jvm.Cond.before_and, ih, List.all_cons]
def words1 : List Jvm.Cond := Jvm.Cond.code x code maxLocals ret :: tables_1
/-- a 'code' word, met by the world's own term for the bytes: nothing is compared byte by byte -/
theorem code_word {y : MethodName} {bytes : ByteArray} {mx : Nat} {rt : Option FieldType} {a : Array Value} {s : State} {m : MethodId} {meth : Method} {c : Code} (h1 : s.methodNamed? y = some m) (h2 : s.vm.method? m = some meth) (h3 : meth.code = some c) (h4 : c.code = bytes)
    (h5 : (c.maxLocals == mx && c.exceptionTable.isEmpty && decide (c.maxStack ≤ mostOperands) && decide (meth.sig.returnType = rt) && !meth.locks && decide (parseMethodDescriptor y.desc = some meth.sig)) = true) : (Jvm.Cond.code y bytes mx rt).before a s = true := by
  simp only [Bool.and_eq_true, beq_iff_eq, Bool.not_eq_true', decide_eq_true_eq] at h5
  obtain ⟨⟨⟨⟨⟨g1, g2⟩, g3⟩, g4⟩, g5⟩, g6⟩ := h5
  simp [Cond.before, Cond.holds, Cond.value, h1, h2, h3, h4, g1, g2, g3, g4, g5, g6]
def isCode : Jvm.Cond → Bool
  | .code _ _ _ _ => true
  | _ => false
theorem all_split {L : List Jvm.Cond} {P : Jvm.Cond → Bool} (h1 : L.all (fun c => isCode c || P c) = true) (h2 : ∀ c ∈ L.filter isCode, P c = true) : L.all P = true := by
  refine List.all_eq_true.mpr fun c hc => ?_
  have h := List.all_eq_true.mp h1 c hc
  rcases Bool.eq_false_or_eq_true (isCode c) with hi | hi
  · exact h2 c (List.mem_filter.mpr ⟨hc, hi⟩)
  · simpa [hi] using h
set_option maxRecDepth 65536 in
theorem w_c0 : (Jvm.Cond.code x code maxLocals ret).before args0 about1 = true := code_word (m := ⟨1, 1⟩) (meth := k1m1) (c := k1c1) (by decide +kernel) rfl rfl rfl (by decide +kernel)
set_option maxRecDepth 65536 in
theorem w_c1 : (Jvm.Cond.code ({ cls := "com/example/baris/baris/engine/scoring/Bm25", name := "<init>", desc := "(DD)V" } : Jvm.MethodName) prog_50_method_1_code (5 : Nat) (Option.none : Option Jvm.ClassFile.FieldType)).before args0 about1 = true := code_word (m := ⟨3, 0⟩) (meth := k3m0) (c := k3c0) (by decide +kernel) rfl rfl rfl (by decide +kernel)
set_option maxRecDepth 65536 in
theorem w_c2 : (Jvm.Cond.code ({ cls := "java/lang/Record", name := "<init>", desc := "()V" } : Jvm.MethodName) jdk_30_method_1_code (1 : Nat) (Option.none : Option Jvm.ClassFile.FieldType)).before args0 about1 = true := code_word (m := ⟨2, 0⟩) (meth := k2m0) (c := k2c0) (by decide +kernel) rfl rfl rfl (by decide +kernel)
set_option maxRecDepth 65536 in
theorem w_c3 : (Jvm.Cond.code ({ cls := "java/lang/Object", name := "<init>", desc := "()V" } : Jvm.MethodName) object_method_1_code (1 : Nat) (Option.none : Option Jvm.ClassFile.FieldType)).before args0 about1 = true := code_word (m := ⟨0, 0⟩) (meth := k0m0) (c := k0c0) (by decide +kernel) rfl rfl rfl (by decide +kernel)
set_option maxRecDepth 65536 in
theorem w_c4 : (Jvm.Cond.code ({ cls := "com/example/baris/baris/engine/scoring/Bm25", name := "termFrequencyNorm", desc := "(DID)D" } : Jvm.MethodName) prog_50_method_4_code (8 : Nat) (Option.some Jvm.ClassFile.FieldType.double)).before args0 about1 = true := code_word (m := ⟨3, 2⟩) (meth := k3m2) (c := k3c2) (by decide +kernel) rfl rfl rfl (by decide +kernel)
def codes1 : List Jvm.Cond := [Jvm.Cond.code x code maxLocals ret, Jvm.Cond.code ({ cls := "com/example/baris/baris/engine/scoring/Bm25", name := "<init>", desc := "(DD)V" } : Jvm.MethodName) prog_50_method_1_code (5 : Nat) (Option.none : Option Jvm.ClassFile.FieldType), Jvm.Cond.code ({ cls := "java/lang/Record", name := "<init>", desc := "()V" } : Jvm.MethodName) jdk_30_method_1_code (1 : Nat) (Option.none : Option Jvm.ClassFile.FieldType), Jvm.Cond.code ({ cls := "java/lang/Object", name := "<init>", desc := "()V" } : Jvm.MethodName) object_method_1_code (1 : Nat) (Option.none : Option Jvm.ClassFile.FieldType), Jvm.Cond.code ({ cls := "com/example/baris/baris/engine/scoring/Bm25", name := "termFrequencyNorm", desc := "(DID)D" } : Jvm.MethodName) prog_50_method_4_code (8 : Nat) (Option.some Jvm.ClassFile.FieldType.double)]
set_option maxRecDepth 65536 in
theorem codes_eq : words1.filter isCode = codes1 := rfl
theorem w_codes : ∀ c ∈ words1.filter isCode, c.before args0 about1 = true := by
  rw [codes_eq]
  intro c hc
  simp only [codes1, List.mem_cons, List.not_mem_nil, or_false] at hc
  rcases hc with rfl | rfl | rfl | rfl | rfl
  · exact w_c0
  · exact w_c1
  · exact w_c2
  · exact w_c3
  · exact w_c4
set_option maxRecDepth 65536 in
theorem w_t1 : (words1.take 24).all (fun c => isCode c || c.before args0 about1) = true := by decide +kernel
set_option maxRecDepth 65536 in
theorem w_t2 : (words1.drop 24).all (fun c => isCode c || c.before args0 about1) = true := by decide +kernel
theorem w_tables : (allAtoms (Jvm.Cond.code x code maxLocals ret :: tables_1)).before args0 about1 = true := by
  rw [allAtoms_all]
  show words1.all (fun c => c.before args0 about1) = true
  refine all_split ?_ w_codes
  rw [← List.take_append_drop 24 words1, List.all_append, w_t1, w_t2]
  rfl
set_option maxRecDepth 65536 in
theorem w_case : (Jvm.Cond.and given_1 narrow_1).before args0 about1 = true := by decide +kernel
theorem w_applies : (headSpec (Jvm.Cond.code x code maxLocals ret :: tables_1) room_1).applies x e0.platform about1 = true :=
  (Spec.applies_iff w_frames).mpr ⟨w_running, w_runnable, w_alone, w_named, w_hears, w_ripe, w_room, w_tables⟩
theorem atStart : AtStart classFile x code maxLocals ret World_1 tables_1 room_1 Calls_1 rest_1 Pre_1 launch0 p0 e0 about1 theMethod args0 below0 :=
  ⟨lists_1, trivial, launch0.admits_env _ _ _, launch0.least_env, fairChoices_fair.cas, fairChoices_fair.clock, w_frames, w_args, w_heap, w_applies, trivial, trivial, w_case⟩
end start1
theorem witness_1 : WitnessClaimed_1 := ⟨start1.p0, start1.e0, start1.about1, start1.theMethod, start1.args0, start1.below0, start1.atStart⟩
end Jvm.Pilot.@@N@@
