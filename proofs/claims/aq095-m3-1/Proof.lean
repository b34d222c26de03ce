import JvmDerived
import JvmDerived.Pilot.@@N@@Statement
import JvmDerived.Pilot.@@N@@Code
set_option linter.unusedVariables false
set_option linter.unusedSimpArgs false
namespace Jvm.RoadKit
open Sem ClassFile Op Lib Jvm.Stand Jvm.Free Jvm.LawKit
section New
variable {p : Program} {l : Launch} {e : Env} {R : Room} {s : State} {m : MethodId} {args : Array Value} {below : List Frame} {meth : Method} {c : Code} {T : State} {locs : List Loc} {cells slots : Nat}
theorem retI (X : Stand p l e R s m args below meth c T locs cells slots) (hx : p.tables.exec = Jvm.exec) {pc : Nat} {Ls : Array Slot} {z : Int32} {rest : List Value} (hret : meth.sig.returnType = some .int) (hd : decode c.code pc = .ok (.ireturn, 1)) {fs : List Frame}
    (hl : ∀ (f : JFrame) (acts : List Action), f.method = m → f.locked = none → f.entered = [] → (doReturn e (T.setTop f) acts (some (.int z))).1 = T.setFrames fs) : Steps p.tables e below (T.setTop (mkF m pc Ls (.int z :: rest))) (T.setFrames fs) :=
  retOut X hx (t := .int) hret rfl (Or.inl ⟨rfl, Or.inl rfl, _, rfl⟩) hd hl
end New
end Jvm.RoadKit
namespace Jvm.Pilot.@@N@@
open Jvm Jvm.ClassFile Sem Op Lib Jvm.Free Jvm.Stand Jvm.LawKit Jvm.RoadKit Bundle Jvm.Pilot.@@N@@.Jvm.D
/-! own layer 0: a goal that is walked forward -/
def own_W (p : Program) (e : Env) (below : List Frame) (R : State → Outcome → Prop) (A : State) : Prop := ∃ s₂ o, Steps p.tables e below A s₂ ∧ R s₂ o
theorem own_go {p : Program} {e : Env} {below : List Frame} {R : State → Outcome → Prop} {A A' : State} (h : ∀ t, Steps p.tables e below A' t → Steps p.tables e below A t) (k : own_W p e below R A') : own_W p e below R A := by
  obtain ⟨s₂, o, st, r⟩ := k
  exact ⟨s₂, o, h _ st, r⟩
theorem own_any {Z : State} {h : Heap} {a : Addr} {C O O' n n' d d' : String} {w : Value} {a0 : Array Value} {k : Nat} (F : Fld Z h a O n d w) (E : Exa Z h a C) (wi : (Cond.instantiable C k).before a0 Z = true) (L : Laid Z a0 C O' n' d') : ∃ w', Fld Z h a O' n' d' w' := by
  obtain ⟨cell, cf, kf, i, f, h1, h2, h3, h4, h5, h6, h7⟩ := F
  obtain ⟨cell', k', e1, e2, e3, e4, e5⟩ := E
  cases h1.symm.trans e1
  obtain ⟨c, k2, cf', kf', i', f', a1, a2, a3, a4, a5, a6, -⟩ := L.spec
  cases e2.symm.trans a1
  cases e3.symm.trans a2
  obtain ⟨c3, k3, i1, i2, i3, -⟩ := Cond.instantiable_spec wi
  cases e2.symm.trans i1
  cases e3.symm.trans i2
  have hs := e5 i3
  have hlt : f'.slot < cell.slots.size := by rw [hs]; exact (Array.getElem?_eq_some_iff.mp a6).1
  exact ⟨_, cell, cf', kf', i', f', h1, a3, a4, h4, h5, a5, Array.getElem?_eq_getElem hlt⟩
theorem own_open {p : Program} {e : Env} {below : List Frame} {Q : State → Outcome → Prop} {A : State} (h : ∀ R : State → Outcome → Prop, (∀ s₂ o, Q s₂ o → R s₂ o) → own_W p e below R A) : ∃ s₂ o, Steps p.tables e below A s₂ ∧ Q s₂ o := h Q fun _ _ q => q
/-! own layer 1: doubles as whole numbers of 2^k units (value n * 2^(k - 1074)), over the library's zval -/
section OwnFP
open Jvm.FP Jvm.FP.Core Jvm.Free.Fl
/-- x is finite and worth v units of 2^-1074 -/
def own_Is (x : UInt64) (v : Int) : Prop := DFin x ∧ zval b64 (val64 x) = v
/-- some double is worth v -/
def own_Rep (v : Int) : Prop := ∃ d : Datum, Jvm.FP.Core.fits b64 d ∧ (∃ s c q, d = .fin s c q) ∧ zval b64 d = v
/-- x is finite and worth n units of 2^(k - 1074) -/
def own_At (k : Nat) (x : UInt64) (n : Int) : Prop := own_Is x (n * 2 ^ k)
theorem own_Is.rep {x : UInt64} {v : Int} (h : own_Is x v) : own_Rep v := ⟨val64 x, val64_fits x, h.1, h.2⟩
theorem own_Is.nn {x : UInt64} {v : Int} (h : own_Is x v) : NoNaN64 x := noNaN64_no.mpr h.1.notNaN
theorem own_At.nn {k : Nat} {x : UInt64} {n : Int} (h : own_At k x n) : NoNaN64 x := own_Is.nn h
theorem own_At.cast {k : Nat} {x : UInt64} {n n' : Int} (h : own_At k x n) (e : n = n') : own_At k x n' := e ▸ h
theorem own_zval_fin (s : Bool) (c : Nat) (q : Int) : zval b64 (.fin s c q) = signed s (inUnits c q b64.qmin) := rfl
theorem own_pos_pow (k : Nat) : (0 : Int) < 2 ^ k := Int.pow_pos (by decide)
theorem own_signed_abs (n : Int) : signed (decide (n < 0)) n.natAbs = n := by
  by_cases h : n < 0
  · simp only [h, decide_true, signed, if_true]; omega
  · simp only [h, decide_false, signed]; simp; omega
theorem own_rep_mk (n : Int) (k : Nat) (hn : n.natAbs < 2 ^ 53) (hk : k ≤ 2045) : own_Rep (n * 2 ^ k) := by
  have hq : b64.qmin = -1074 := qmin_b64
  have hm : b64.qmax = 971 := by decide
  obtain ⟨c', q', h1, h2⟩ := round_exact good_b64 (decide (n < 0)) (c := n.natAbs) (q := (k : Int) + b64.qmin) hn (by omega) (by omega)
  refine ⟨.fin (decide (n < 0)) c' q', ?_, ⟨_, _, _, rfl⟩, ?_⟩
  · rw [← h1]; exact round_fits good_b64 _
  · rw [own_zval_fin, h2]
    unfold inUnits
    rw [show ((k : Int) + b64.qmin - b64.qmin).toNat = k by omega, signed_mul, own_signed_abs]
    simp
theorem own_rep_top {v : Int} (h : own_Rep v) : -((b64.tails * 2 ^ (b64.exps - 2) : Nat) : Int) < v ∧ v < ((b64.tails * 2 ^ (b64.exps - 2) : Nat) : Int) := by
  obtain ⟨d, hf, ⟨s, c, q, rfl⟩, rfl⟩ := h
  have hz := zmag_lt_top good_b64 hf
  rw [own_zval_fin]
  generalize b64.tails * 2 ^ (b64.exps - 2) = top at hz ⊢
  generalize inUnits c q b64.qmin = z at hz ⊢
  cases s <;> simp only [signed] <;> simp <;> omega
theorem own_fin_of {x : UInt64} {lo hi : Int} (hx : val64 x ≠ .nan) (rl : own_Rep lo) (rh : own_Rep hi) (h1 : lo ≤ zval b64 (val64 x)) (h2 : zval b64 (val64 x) ≤ hi) : DFin x := by
  have t1 := own_rep_top rl
  have t2 := own_rep_top rh
  unfold DFin
  cases h : val64 x with
  | nan => exact absurd h hx
  | fin s c q => exact ⟨s, c, q, rfl⟩
  | inf s =>
    rw [h] at h1 h2
    have e : zval b64 (.inf s) = signed s (b64.tails * 2 ^ (b64.exps - 2)) := rfl
    rw [e] at h1 h2
    generalize b64.tails * 2 ^ (b64.exps - 2) = top at *
    exfalso
    cases s <;> simp only [signed] at h1 h2 <;> simp at h1 h2 <;> omega
theorem own_add {a b : UInt64} {v w lo hi : Int} (ha : own_Is a v) (hb : own_Is b w) (rl : own_Rep lo) (rh : own_Rep hi) (h1 : lo ≤ v + w) (h2 : v + w ≤ hi) :
    ∃ u, own_Is (FP.dadd a b) u ∧ lo ≤ u ∧ u ≤ hi := by
  have hn : val64 (Core.dadd a b) ≠ .nan := (notNaN_iff _).mp (dadd_out ha.1.notNaN hb.1)
  obtain ⟨dl, fl, ⟨sl, cl, ql, el⟩, zl⟩ := rl
  obtain ⟨dh, fh, ⟨sh, ch, qh, eh⟩, zh⟩ := rh
  have g1 := sum_ge good_b64 ha.1 hb.1 (val64_fits a) (val64_fits b) fl (by rw [el]; nofun) (by rw [ha.2, hb.2, zl]; exact h1)
  have g2 := sum_le good_b64 ha.1 hb.1 (val64_fits a) (val64_fits b) fh (by rw [eh]; nofun) (by rw [ha.2, hb.2, zh]; exact h2)
  rw [← val64_dadd, zl] at g1
  rw [← val64_dadd, zh] at g2
  exact ⟨_, ⟨own_fin_of hn ⟨dl, fl, ⟨sl, cl, ql, el⟩, zl⟩ ⟨dh, fh, ⟨sh, ch, qh, eh⟩, zh⟩ g1 g2, rfl⟩, g1, g2⟩
theorem own_cneg {b : UInt64} {w : Int} (hb : own_Is b w) : own_Is (Core.dneg b) (-w) := by
  obtain ⟨⟨s, c, q, e⟩, h⟩ := hb
  refine ⟨⟨!s, c, q, ?_⟩, ?_⟩
  · rw [Jvm.FP.Core.val64_dneg, e]; rfl
  · rw [Jvm.FP.Core.val64_dneg, zval_negate, h]
theorem own_sub {a b : UInt64} {v w lo hi : Int} (ha : own_Is a v) (hb : own_Is b w) (rl : own_Rep lo) (rh : own_Rep hi) (h1 : lo ≤ v - w) (h2 : v - w ≤ hi) :
    ∃ u, own_Is (FP.dsub a b) u ∧ lo ≤ u ∧ u ≤ hi := by
  have e : FP.dsub a b = FP.dadd a (Core.dneg b) := dsub_eq a b
  rw [e]
  exact own_add ha (own_cneg hb) rl rh (by omega) (by omega)
theorem own_mul {a b : UInt64} {v w lo hi : Int} (ha : own_Is a v) (hb : own_Is b w) (rl : own_Rep lo) (rh : own_Rep hi) (h1 : lo * 2 ^ 1074 ≤ v * w) (h2 : v * w ≤ hi * 2 ^ 1074) :
    ∃ u, own_Is (FP.dmul a b) u ∧ lo ≤ u ∧ u ≤ hi := by
  have hn : val64 (Core.dmul a b) ≠ .nan := (notNaN_iff _).mp (dmul_out ha.1 hb.1)
  obtain ⟨⟨s, c, q, ea⟩, za⟩ := ha
  obtain ⟨⟨t, d, r, eb⟩, zb⟩ := hb
  have fa := val64_fits a
  have fb := val64_fits b
  rw [ea] at fa za
  rw [eb] at fb zb
  obtain ⟨p1, p2, p3⟩ := product_units fa fb
  have ev : signed (s != t) (inUnits (c * d) (q + r) (2 * b64.qmin)) = v * w := by rw [p3, signed_xor, ← za, ← zb]; rfl
  have eq : (b64.qmin - 2 * b64.qmin).toNat = 1074 := by rw [qmin_b64]; rfl
  have hle : 2 * b64.qmin ≤ b64.qmin := by rw [qmin_b64]; decide
  have em : val64 (Core.dmul a b) = round b64 (.fin (s != t) (c * d) (q + r)) := by rw [val64_dmul, ea, eb, p1]
  obtain ⟨dl, fl, ⟨sl, cl, ql, el⟩, zl⟩ := rl
  obtain ⟨dh, fh, ⟨sh, ch, qh, eh⟩, zh⟩ := rh
  have g1 := zval_round_ge good_b64 (s := (s != t)) (c := c * d) (q := q + r) (e0 := 2 * b64.qmin) (V := dl) fl (by rw [el]; nofun) hle p2 (by rw [ev, eq, zl]; simpa using h1)
  have g2 := zval_round_le good_b64 (s := (s != t)) (c := c * d) (q := q + r) (e0 := 2 * b64.qmin) (V := dh) fh (by rw [eh]; nofun) hle p2 (by rw [ev, eq, zh]; simpa using h2)
  rw [← em, zl] at g1
  rw [← em, zh] at g2
  exact ⟨_, ⟨own_fin_of hn ⟨dl, fl, ⟨sl, cl, ql, el⟩, zl⟩ ⟨dh, fh, ⟨sh, ch, qh, eh⟩, zh⟩ g1 g2, rfl⟩, g1, g2⟩
theorem own_signed_nonneg {s : Bool} {z : Nat} {v : Int} (h : signed s z = v) (hv : 0 ≤ v) : (z : Int) = v := by
  cases s <;> simp only [signed] at h <;> simp at h <;> omega
theorem own_div_up (K : Nat) {c d q1 r1 z : Nat} {t f : Nat} (h : c * 2 ^ q1 * 2 ^ K ≤ z * (d * 2 ^ r1)) (e : t + r1 = q1 + K + f) : c * 2 ^ t ≤ z * 2 ^ f * d := by
  have hp : 0 < 2 ^ r1 := Nat.two_pow_pos r1
  refine Nat.le_of_mul_le_mul_right (c := 2 ^ r1) ?_ hp
  calc c * 2 ^ t * 2 ^ r1 = c * 2 ^ (t + r1) := by rw [Nat.pow_add]; ac_rfl
    _ = (c * 2 ^ q1 * 2 ^ K) * 2 ^ f := by rw [e, Nat.pow_add, Nat.pow_add]; ac_rfl
    _ ≤ (z * (d * 2 ^ r1)) * 2 ^ f := Nat.mul_le_mul_right _ h
    _ = z * 2 ^ f * d * 2 ^ r1 := by ac_rfl
theorem own_div_dn (K : Nat) {c d q1 r1 z : Nat} {t f : Nat} (h : z * (d * 2 ^ r1) ≤ c * 2 ^ q1 * 2 ^ K) (e : t + r1 = q1 + K + f) : z * 2 ^ f * d ≤ c * 2 ^ t := by
  have hp : 0 < 2 ^ r1 := Nat.two_pow_pos r1
  refine Nat.le_of_mul_le_mul_right (c := 2 ^ r1) ?_ hp
  calc z * 2 ^ f * d * 2 ^ r1 = (z * (d * 2 ^ r1)) * 2 ^ f := by ac_rfl
    _ ≤ (c * 2 ^ q1 * 2 ^ K) * 2 ^ f := Nat.mul_le_mul_right _ h
    _ = c * 2 ^ (t + r1) := by rw [e, Nat.pow_add, Nat.pow_add]; ac_rfl
    _ = c * 2 ^ t * 2 ^ r1 := by rw [Nat.pow_add]; ac_rfl
theorem own_ac2 (c A w B : Int) : c * A * (w * B) = (c * w) * (A * B) := by ac_rfl
/-- the quotient of two numbers at or above nought -/
theorem own_div0 {a b : UInt64} {v w lo hi : Int} (ha : own_Is a v) (hb : own_Is b w) (hv : 0 ≤ v) (hw : 0 < w) (rl : own_Rep lo) (rh : own_Rep hi) (h0 : 0 ≤ lo) (h1 : lo * w ≤ v * 2 ^ 1074) (h2 : v * 2 ^ 1074 ≤ hi * w) :
    ∃ u, own_Is (FP.ddiv a b) u ∧ lo ≤ u ∧ u ≤ hi := by
  have hq : b64.qmin = -1074 := qmin_b64
  obtain ⟨⟨s, c, q, ea⟩, za⟩ := ha
  obtain ⟨⟨t, d, r, eb⟩, zb⟩ := hb
  have fa := val64_fits a
  have fb := val64_fits b
  rw [ea] at fa za
  rw [eb] at fb zb
  rw [own_zval_fin] at za zb
  have ma := own_signed_nonneg za hv
  have mb := own_signed_nonneg zb (by omega)
  have hd : d ≠ 0 := by
    rintro rfl
    simp [inUnits] at mb; omega
  have hs : c = 0 ∨ (s != t) = false := by
    have ht : t = false := by
      cases t with
      | false => rfl
      | true => simp only [signed] at zb; simp at zb; omega
    cases hs : s with
    | false => right; rw [ht]; rfl
    | true =>
      left
      rw [hs] at za
      simp only [signed] at za; simp at za
      have : inUnits c q b64.qmin = 0 := by omega
      unfold inUnits at this
      have hp := Nat.two_pow_pos (q - b64.qmin).toNat
      rcases Nat.mul_eq_zero.mp this with h | h
      · exact h
      · omega
  have ev : val64 (Core.ddiv a b) = roundRatio b64 (s != t) c d (q - r) := by rw [val64_ddiv, ea, eb]; simp only [quotient, if_neg hd]
  have hn : val64 (Core.ddiv a b) ≠ .nan := by rw [ev]; exact roundRatio_ne_nan _ _ _ _ _
  obtain ⟨dl, fl, ⟨sl, cl, ql, el⟩, zl⟩ := rl
  obtain ⟨dh, fh, ⟨sh, ch, qh, eh⟩, zh⟩ := rh
  have hhi : 0 ≤ hi := by
    have : 0 ≤ hi * w := Int.le_trans (Int.mul_nonneg hv (Int.le_of_lt (own_pos_pow _))) h2
    exact Int.nonneg_of_mul_nonneg_left this hw
  have ml : (zmag b64 dl : Int) = lo := own_signed_nonneg zl h0
  have mh : (zmag b64 dh : Int) = hi := own_signed_nonneg zh hhi
  have e0 : ∃ e0 : Int, e0 ≤ b64.qmin ∧ e0 ≤ q - r := ⟨min b64.qmin (q - r), Int.min_le_left _ _, Int.min_le_right _ _⟩
  obtain ⟨e0, k1, k2⟩ := e0
  have fq := fa.2.1
  have fr := fb.2.1
  have ee : ((q - r) - e0).toNat + (r - b64.qmin).toNat = (q - b64.qmin).toNat + 1074 + (b64.qmin - e0).toNat := by omega
  have g1 : zmag b64 dl ≤ zmag b64 (roundRatio b64 (s != t) c d (q - r)) := by
    refine zmag_roundRatio_ge good_b64 (e0 := e0) (Nat.pos_of_ne_zero hd) fl k1 k2 ?_
    refine own_div_dn 1074 (q1 := (q - b64.qmin).toNat) (r1 := (r - b64.qmin).toNat) ?_ ee
    have h := h1
    rw [← ml, ← ma, ← mb] at h
    unfold inUnits at h
    exact_mod_cast h
  have g2 : zmag b64 (roundRatio b64 (s != t) c d (q - r)) ≤ zmag b64 dh := by
    refine zmag_roundRatio_le good_b64 (e0 := e0) (Nat.pos_of_ne_zero hd) fh (by rw [eh]; nofun) k1 k2 ?_
    refine own_div_up 1074 (q1 := (q - b64.qmin).toNat) (r1 := (r - b64.qmin).toNat) ?_ ee
    have h := h2
    rw [← mh, ← ma, ← mb] at h
    unfold inUnits at h
    exact_mod_cast h
  have gz : zval b64 (val64 (Core.ddiv a b)) = (zmag b64 (roundRatio b64 (s != t) c d (q - r)) : Int) := by
    rw [ev]
    unfold zval
    rw [sgn_roundRatio]
    rcases hs with rfl | hs
    · have : zmag b64 (roundRatio b64 (s != t) 0 d (q - r)) = 0 := by simp [roundRatio, zmag, inUnits]
      rw [this]; simp [signed]
    · rw [hs]; simp [signed]
  have f1 : lo ≤ zval b64 (val64 (Core.ddiv a b)) := by rw [gz, ← ml]; exact_mod_cast g1
  have f2 : zval b64 (val64 (Core.ddiv a b)) ≤ hi := by rw [gz, ← mh]; exact_mod_cast g2
  exact ⟨_, ⟨own_fin_of hn ⟨dl, fl, ⟨sl, cl, ql, el⟩, zl⟩ ⟨dh, fh, ⟨sh, ch, qh, eh⟩, zh⟩ f1 f2, rfl⟩, f1, f2⟩
/-- the quotient by a number above nought, where it comes out whole: v * 2^1074 = u * w -/
theorem own_div {a b : UInt64} {v w u : Int} (ha : own_Is a v) (hb : own_Is b w) (hw : 0 < w) (ru : own_Rep u) (h : u * w = v * 2 ^ 1074) : own_Is (FP.ddiv a b) u := by
  by_cases hv : 0 ≤ v
  · have hu : 0 ≤ u := by
      have : 0 ≤ u * w := by rw [h]; exact Int.mul_nonneg hv (Int.le_of_lt (own_pos_pow _))
      exact Int.nonneg_of_mul_nonneg_left this hw
    obtain ⟨z, hz, z1, z2⟩ := own_div0 ha hb hv hw ru ru hu (Int.le_of_eq h) (Int.le_of_eq h.symm)
    exact (Int.le_antisymm z2 z1) ▸ hz
  · have hneg : own_Rep (-u) := by
      obtain ⟨d, h1, ⟨s, c, q, rfl⟩, h3⟩ := ru
      exact ⟨.fin (!s) c q, h1, ⟨_, _, _, rfl⟩, by rw [← h3]; exact zval_negate b64 (.fin s c q)⟩
    have hp := own_pos_pow 1074
    have hu : 0 ≤ -u := by
      have : u * w < 0 := by rw [h]; exact Int.mul_neg_of_neg_of_pos (by omega) hp
      by_cases q : 0 ≤ -u
      · exact q
      · exact absurd (Int.mul_nonneg (show 0 ≤ u by omega) (Int.le_of_lt hw)) (by omega)
    have h' : -u * w = -v * 2 ^ 1074 := by rw [Int.neg_mul, Int.neg_mul, h]
    obtain ⟨z, hz, z1, z2⟩ := own_div0 (own_cneg ha) hb (by omega) hw hneg hneg hu (Int.le_of_eq h') (Int.le_of_eq h'.symm)
    have e : Core.ddiv (Core.dneg a) b = Core.dneg (Core.ddiv a b) := ddiv_dneg a b
    have nn : val64 (Core.ddiv a b) ≠ .nan := by
      have q := hz.1.ne_nan
      intro k
      apply q
      show val64 (Core.ddiv (Core.dneg a) b) = .nan
      rw [e, Jvm.FP.Core.val64_dneg, k]; rfl
    have hz2 : own_Is (Core.dneg (Core.ddiv (Core.dneg a) b)) (-z) := own_cneg hz
    rw [e, dneg_dneg nn] at hz2
    have : -z = u := by omega
    exact this ▸ hz2
theorem own_i2d (n : Int32) : own_At 1074 (FP.i2d n) n.toInt := by
  refine ⟨Core.i2d_fin n, ?_⟩
  rw [show FP.i2d n = Core.i2d n from rfl, DInt_zval (i2d_int n)]
  unfold one64; norm_cast
theorem own_l2d (n : Int64) (h : n.toInt.natAbs ≤ 2 ^ 53) : own_At 1074 (FP.l2d n) n.toInt := by
  refine ⟨Core.l2d_fin n, ?_⟩
  rw [show FP.l2d n = Core.l2d n from rfl, DInt_zval (l2d_int h)]
  unfold one64; norm_cast
theorem own_cmp {a b : UInt64} {v w : Int} (ha : own_Is a v) (hb : own_Is b w) : FP.dcmp a b = some (compare v w) := by
  rw [show FP.dcmp a b = Core.dcmp a b from rfl, dcmp_zval ha.1.ne_nan hb.1.ne_nan, ha.2, hb.2]
theorem own_cmpV {a b : UInt64} {v w : Int} (ha : own_Is a v) (hb : own_Is b w) (o : CmpOp) : cmpValue (FP.dcmp a b) o = if v < w then -1 else if v = w then 0 else 1 := by
  rw [own_cmp ha hb, compare_ite]
  by_cases h1 : v < w
  · simp only [h1, if_true]; rfl
  · by_cases h2 : v = w
    · simp only [h1, h2, if_true, if_false, Int.lt_irrefl]; rfl
    · simp only [h1, h2, if_false]; rfl
theorem own_cmpAt {k : Nat} {a b : UInt64} {v w : Int} (ha : own_At k a v) (hb : own_At k b w) (o : CmpOp) : cmpValue (FP.dcmp a b) o = if v < w then -1 else if v = w then 0 else 1 := by
  rw [own_cmpV ha hb o]
  have hp := own_pos_pow k
  have e1 : (v * 2 ^ k < w * 2 ^ k) ↔ v < w := ⟨fun h => Int.lt_of_mul_lt_mul_right h (Int.le_of_lt hp), fun h => Int.mul_lt_mul_of_pos_right h hp⟩
  have e2 : (v * 2 ^ k = w * 2 ^ k) ↔ v = w := ⟨fun h => Int.eq_of_mul_eq_mul_right (Int.ne_of_gt hp) h, fun h => by rw [h]⟩
  simp only [e1, e2]
theorem own_addAt {k : Nat} {a b : UInt64} {v w : Int} (ha : own_At k a v) (hb : own_At k b w) (hk : k ≤ 2045) (h : (v + w).natAbs < 2 ^ 53) : own_At k (FP.dadd a b) (v + w) := by
  have r := own_rep_mk (v + w) k h hk
  have e : (v + w) * 2 ^ k = v * 2 ^ k + w * 2 ^ k := Int.add_mul _ _ _
  obtain ⟨u, hu, u1, u2⟩ := own_add ha hb r r (Int.le_of_eq e) (Int.le_of_eq e.symm)
  have eu := Int.le_antisymm u2 u1
  rw [eu] at hu
  exact hu
theorem own_subAt {k : Nat} {a b : UInt64} {v w : Int} (ha : own_At k a v) (hb : own_At k b w) (hk : k ≤ 2045) (h : (v - w).natAbs < 2 ^ 53) : own_At k (FP.dsub a b) (v - w) := by
  have r := own_rep_mk (v - w) k h hk
  have e : (v - w) * 2 ^ k = v * 2 ^ k - w * 2 ^ k := Int.sub_mul _ _ _
  obtain ⟨u, hu, u1, u2⟩ := own_sub ha hb r r (Int.le_of_eq e) (Int.le_of_eq e.symm)
  have eu := Int.le_antisymm u2 u1
  rw [eu] at hu
  exact hu
theorem own_mulAt {k j i : Nat} {a b : UInt64} {v w : Int} (ha : own_At k a v) (hb : own_At j b w) (hi : i ≤ 2045) (hk : k + j = i + 1074) (h : (v * w).natAbs < 2 ^ 53) : own_At i (FP.dmul a b) (v * w) := by
  have r := own_rep_mk (v * w) i h hi
  have e : (v * w) * 2 ^ i * 2 ^ 1074 = (v * 2 ^ k) * (w * 2 ^ j) := by
    rw [own_ac2, Int.mul_assoc (v * w), ← Int.pow_add, ← Int.pow_add, hk]
  obtain ⟨u, hu, u1, u2⟩ := own_mul ha hb r r (Int.le_of_eq e) (Int.le_of_eq e.symm)
  have eu := Int.le_antisymm u2 u1
  rw [eu] at hu
  exact hu
theorem own_divAt {k j i : Nat} {a b : UInt64} {v w c : Int} (ha : own_At k a v) (hb : own_At j b w) (hw : 0 < w) (hi : i ≤ 2045) (hk : k + 1074 = i + j) (h : c.natAbs < 2 ^ 53) (hc : c * w = v) : own_At i (FP.ddiv a b) c := by
  refine own_div ha hb (Int.mul_pos hw (own_pos_pow _)) (own_rep_mk c i h hi) ?_
  rw [own_ac2, hc, Int.mul_assoc v, ← Int.pow_add, ← Int.pow_add, hk]
theorem own_up {k j i : Nat} {a : UInt64} {v : Int} (ha : own_At k a v) (hk : k = i + j) : own_At i a (v * 2 ^ j) := by
  unfold own_At at *
  rw [Int.mul_assoc, ← Int.pow_add, Nat.add_comm j i, ← hk]; exact ha
theorem own_down {k j i : Nat} {a : UInt64} {v : Int} (ha : own_At i a (v * 2 ^ j)) (hk : k = i + j) : own_At k a v := by
  unfold own_At at *
  rw [Int.mul_assoc, ← Int.pow_add, Nat.add_comm j i, ← hk] at ha; exact ha
theorem own_zero {k : Nat} : own_At k 0 0 := ⟨⟨false, 0, _, val64_zero⟩, by rw [zval64_zero]; simp⟩
theorem own_c_gt {a b : UInt64} {v w : Int} (ha : own_Is a v) (hb : own_Is b w) (o : CmpOp) : (0 : Int32) < cmpValue (FP.dcmp a b) o ↔ w < v := by
  rw [own_cmpV ha hb o]
  split
  · exact ⟨fun h => absurd h (by decide), fun h => by omega⟩
  · split
    · exact ⟨fun h => absurd h (by decide), fun h => by omega⟩
    · exact ⟨fun h => by omega, fun h => by decide⟩
theorem own_c_lt {a b : UInt64} {v w : Int} (ha : own_Is a v) (hb : own_Is b w) (o : CmpOp) : cmpValue (FP.dcmp a b) o < (0 : Int32) ↔ v < w := by
  rw [own_cmpV ha hb o]
  split
  · exact ⟨fun h => by omega, fun h => by decide⟩
  · split
    · exact ⟨fun h => absurd h (by decide), fun h => by omega⟩
    · exact ⟨fun h => absurd h (by decide), fun h => by omega⟩
theorem own_c_eq {a b : UInt64} {v w : Int} (ha : own_Is a v) (hb : own_Is b w) (o : CmpOp) : cmpValue (FP.dcmp a b) o = (0 : Int32) ↔ v = w := by
  rw [own_cmpV ha hb o]
  split
  · exact ⟨fun h => absurd h (by decide), fun h => by omega⟩
  · split
    · exact ⟨fun h => by omega, fun h => by decide⟩
    · exact ⟨fun h => absurd h (by decide), fun h => by omega⟩
theorem own_mul_lt {k : Nat} {v w : Int} : (v * 2 ^ k < w * 2 ^ k) ↔ v < w :=
  ⟨fun h => Int.lt_of_mul_lt_mul_right h (Int.le_of_lt (own_pos_pow k)), fun h => Int.mul_lt_mul_of_pos_right h (own_pos_pow k)⟩
theorem own_mul_eq {k : Nat} {v w : Int} : (v * 2 ^ k = w * 2 ^ k) ↔ v = w :=
  ⟨fun h => Int.eq_of_mul_eq_mul_right (Int.ne_of_gt (own_pos_pow k)) h, fun h => by rw [h]⟩
theorem own_ca_gt {k : Nat} {a b : UInt64} {v w : Int} (ha : own_At k a v) (hb : own_At k b w) (o : CmpOp) : (0 : Int32) < cmpValue (FP.dcmp a b) o ↔ w < v := (own_c_gt ha hb o).trans own_mul_lt
theorem own_ca_lt {k : Nat} {a b : UInt64} {v w : Int} (ha : own_At k a v) (hb : own_At k b w) (o : CmpOp) : cmpValue (FP.dcmp a b) o < (0 : Int32) ↔ v < w := (own_c_lt ha hb o).trans own_mul_lt
theorem own_ca_eq {k : Nat} {a b : UInt64} {v w : Int} (ha : own_At k a v) (hb : own_At k b w) (o : CmpOp) : cmpValue (FP.dcmp a b) o = (0 : Int32) ↔ v = w := (own_c_eq ha hb o).trans own_mul_eq
theorem own_neg {k : Nat} {x : UInt64} {n : Int} (h : own_At k x n) : own_At k (FP.dneg x) (-n) := by
  obtain ⟨⟨s, c, q, e⟩, hz⟩ := h
  have hv : val64 (FP.dneg x) = negate (val64 x) := Jvm.FP.val64_dneg x
  refine ⟨⟨!s, c, q, by rw [hv, e]; rfl⟩, ?_⟩
  rw [hv, zval_negate, hz, Int.neg_mul]
end OwnFP
/-! own layer 2: int and long comparisons -/
section OwnInt
theorem own_l_gt (x y : Int64) : (0 : Int32) < lcmpW x y ↔ y < x := by
  show (0 : Int32) < (if x > y then (1 : Int32) else if x = y then 0 else -1) ↔ y < x
  by_cases h1 : x > y
  · rw [if_pos h1]; exact ⟨fun _ => h1, fun _ => by decide⟩
  · rw [if_neg h1]
    by_cases h2 : x = y
    · rw [if_pos h2]; exact ⟨fun h => absurd h (by decide), fun h => absurd h h1⟩
    · rw [if_neg h2]; exact ⟨fun h => absurd h (by decide), fun h => absurd h h1⟩
theorem own_l_eq (x y : Int64) : lcmpW x y = (0 : Int32) ↔ x = y := by
  show (if x > y then (1 : Int32) else if x = y then 0 else -1) = 0 ↔ x = y
  by_cases h1 : x > y
  · have h3 := Int64.lt_iff_toInt_lt.mp h1
    rw [if_pos h1]; exact ⟨fun h => absurd h (by decide), fun h => by rw [h] at h3; omega⟩
  · rw [if_neg h1]
    by_cases h2 : x = y
    · rw [if_pos h2]; exact ⟨fun _ => h2, fun _ => rfl⟩
    · rw [if_neg h2]; exact ⟨fun h => absurd h (by decide), fun h => absurd h h2⟩
theorem own_l_lt (x y : Int64) : lcmpW x y < (0 : Int32) ↔ x < y := by
  show (if x > y then (1 : Int32) else if x = y then 0 else -1) < 0 ↔ x < y
  by_cases h1 : x > y
  · have h3 := Int64.lt_iff_toInt_lt.mp h1
    rw [if_pos h1]; exact ⟨fun h => absurd h (by decide), fun h => by have := Int64.lt_iff_toInt_lt.mp h; omega⟩
  · rw [if_neg h1]
    by_cases h2 : x = y
    · rw [if_pos h2]; exact ⟨fun h => absurd h (by decide), fun h => by rw [h2] at h; have := Int64.lt_iff_toInt_lt.mp h; omega⟩
    · rw [if_neg h2]
      have q1 : ¬ y.toInt < x.toInt := fun h => h1 (Int64.lt_iff_toInt_lt.mpr h)
      have q2 : x.toInt ≠ y.toInt := fun h => h2 (Int64.toInt_inj.mp h)
      exact ⟨fun _ => Int64.lt_iff_toInt_lt.mpr (by omega), fun _ => by decide⟩
theorem own_i2l (a : Int32) : a.toInt64.toInt = a.toInt := by simp
theorem own_i32_lo (a : Int32) : -2147483648 ≤ a.toInt := a.le_toInt
theorem own_i32_hi (a : Int32) : a.toInt < 2147483648 := by have := a.toInt_lt; omega
theorem own_mask (x m : Int32) (k : Nat) (hm : m.toBitVec.toNat = 2 ^ k - 1) (hk : k ≤ 31) : (x &&& m).toInt = ((x.toBitVec.toNat % 2 ^ k : Nat) : Int) := by
  have e : (x &&& m).toBitVec.toNat = x.toBitVec.toNat % 2 ^ k := by
    rw [Int32.toBitVec_and, BitVec.toNat_and, hm]; exact Nat.and_two_pow_sub_one_eq_mod _ k
  have hlt : x.toBitVec.toNat % 2 ^ k < 2 ^ 31 := Nat.lt_of_lt_of_le (Nat.mod_lt _ (Nat.two_pow_pos k)) (Nat.pow_le_pow_right (by decide) hk)
  show (x &&& m).toBitVec.toInt = _
  rw [BitVec.toInt_eq_toNat_of_lt (by rw [e]; omega), e]
theorem own_mask_bd (x m : Int32) (k : Nat) (hm : m.toBitVec.toNat = 2 ^ k - 1) (hk : k ≤ 31) : 0 ≤ (x &&& m).toInt ∧ (x &&& m).toInt < ((2 ^ k : Nat) : Int) := by
  rw [own_mask x m k hm hk]
  have := Nat.mod_lt x.toBitVec.toNat (Nat.two_pow_pos k)
  omega
end OwnInt

theorem own_c1024 : own_At 1084 4652218415073722368 1 := ⟨⟨false, 4503599627370496, -42, by decide +kernel⟩, by decide +kernel⟩
theorem own_x1024 (n : Int32) : own_At 1064 (FP.ddiv (FP.i2d n) 4652218415073722368) n.toInt := by
  have h1 := own_i32_lo n
  have h2 := own_i32_hi n
  exact own_divAt (own_i2d n) own_c1024 (by decide) (by decide) (by decide) (by omega) (by omega)
def own_adm (ord : Int32) (z : Int) : Int32 := if ord = 0 then 1 else if ord = 1 then (if z < 0 then 0 else 1) else (if 0 < z then 1 else 0)
theorem own_neg64 (n : Int32) : (-n.toInt64).toInt = -n.toInt := by
  have h1 := own_i32_lo n
  have h2 := own_i32_hi n
  rw [Jvm.FP.Core.int64_neg (by rw [own_i2l]; omega), own_i2l]
theorem own_mod3 (x : Int32) : (x &&& 2147483647) % 3 = 0 ∨ (x &&& 2147483647) % 3 = 1 ∨ (x &&& 2147483647) % 3 = 2 := by
  have h := own_mask_bd x 2147483647 31 (by decide) (by decide)
  have em : ((x &&& 2147483647) % (3 : Int32)).toInt = (x &&& 2147483647).toInt.tmod 3 := by rw [Int32.toInt_mod]; rfl
  have m2 : (x &&& 2147483647).toInt.tmod 3 < 3 := Int.tmod_lt_of_pos _ (by decide)
  have m1 : 0 ≤ (x &&& 2147483647).toInt.tmod 3 := Int.tmod_nonneg _ h.1
  have : (x &&& 2147483647).toInt.tmod 3 = 0 ∨ (x &&& 2147483647).toInt.tmod 3 = 1 ∨ (x &&& 2147483647).toInt.tmod 3 = 2 := by omega
  rcases this with q | q | q
  · exact Or.inl (Int32.toInt_inj.mp (by rw [em, q]; rfl))
  · exact Or.inr (Or.inl (Int32.toInt_inj.mp (by rw [em, q]; rfl)))
  · exact Or.inr (Or.inr (Int32.toInt_inj.mp (by rw [em, q]; rfl)))
theorem own_d1_0 : decode prog_23_method_4_code 0 = .ok (.aload_n 0, 1) := by decide +kernel
theorem own_d1_1 : decode prog_23_method_4_code 1 = .ok (.invokevirtual 36, 3) := by decide +kernel
theorem own_d1_4 : decode prog_23_method_4_code 4 = .ok (.tableswitch 28 0 2 #[38, 42, 56], 28) := by decide +kernel
theorem own_d1_42 : decode prog_23_method_4_code 42 = .ok (.iconst 1, 1) := by decide +kernel
theorem own_d1_43 : decode prog_23_method_4_code 43 = .ok (.goto 28, 3) := by decide +kernel
theorem own_d1_46 : decode prog_23_method_4_code 46 = .ok (.dload_n 1, 1) := by decide +kernel
theorem own_d1_47 : decode prog_23_method_4_code 47 = .ok (.dconst 0, 1) := by decide +kernel
theorem own_d1_48 : decode prog_23_method_4_code 48 = .ok (.dcmp .l, 1) := by decide +kernel
theorem own_d1_49 : decode prog_23_method_4_code 49 = .ok (.ifCond .lt 7, 3) := by decide +kernel
theorem own_d1_52 : decode prog_23_method_4_code 52 = .ok (.iconst 1, 1) := by decide +kernel
theorem own_d1_53 : decode prog_23_method_4_code 53 = .ok (.goto 18, 3) := by decide +kernel
theorem own_d1_56 : decode prog_23_method_4_code 56 = .ok (.iconst 0, 1) := by decide +kernel
theorem own_d1_57 : decode prog_23_method_4_code 57 = .ok (.goto 14, 3) := by decide +kernel
theorem own_d1_60 : decode prog_23_method_4_code 60 = .ok (.dload_n 1, 1) := by decide +kernel
theorem own_d1_61 : decode prog_23_method_4_code 61 = .ok (.dconst 0, 1) := by decide +kernel
theorem own_d1_62 : decode prog_23_method_4_code 62 = .ok (.dcmp .l, 1) := by decide +kernel
theorem own_d1_63 : decode prog_23_method_4_code 63 = .ok (.ifCond .le 7, 3) := by decide +kernel
theorem own_d1_66 : decode prog_23_method_4_code 66 = .ok (.iconst 1, 1) := by decide +kernel
theorem own_d1_67 : decode prog_23_method_4_code 67 = .ok (.goto 4, 3) := by decide +kernel
theorem own_d1_70 : decode prog_23_method_4_code 70 = .ok (.iconst 0, 1) := by decide +kernel
theorem own_d1_71 : decode prog_23_method_4_code 71 = .ok (.ireturn, 1) := by decide +kernel
theorem own_d2_0 : decode jdk_37_method_2_code 0 = .ok (.aload_n 0, 1) := by decide +kernel
theorem own_d2_1 : decode jdk_37_method_2_code 1 = .ok (.getfield 7, 3) := by decide +kernel
theorem own_d2_4 : decode jdk_37_method_2_code 4 = .ok (.ireturn, 1) := by decide +kernel
theorem own_pd0 : parseMethodDescriptor "()I" = some ⟨[], some .int⟩ := by decide +kernel
theorem own_pd1 : parseMethodDescriptor "(D)Z" = some ⟨[.double], some .boolean⟩ := by decide +kernel
theorem own_pn0 : plainName "com/example/clearinghouse/clearinghouse/io/SignAdmitsPinLaw" = true := by first | (simp [plainName, overriddenIn]; done) | decide +kernel
theorem own_pn1 : plainName "com/example/clearinghouse/clearinghouse/io/NamedRows$Sign" = true := by first | (simp [plainName, overriddenIn]; done) | decide +kernel
theorem own_pn2 : plainName "java/lang/Enum" = true := by first | (simp [plainName, overriddenIn]; done) | decide +kernel
theorem own_ef_own_ord (m : MethodId) (a1 : Addr) : entryFrame m #[(.ref a1)] 1 = mkF m 0 #[.val (.ref a1)] [] := by first | (simp [entryFrame, mkF, argsToLocals, Value.category]; done) | rfl
def own_Q_own_ord (Z : State) (a1 : Addr) (ord : Int32) (h0 : Heap) (n0 : Nat) (v : Option Value) (h : Heap) (L : List Loc) : Prop := v = some (.int ord) ∧ Fr n0 L ∧ h = h0
set_option maxRecDepth 65536 in
set_option maxHeartbeats 40000000 in
theorem own_ord (l : Launch) (Z : State) (a0 : Array Value) (hw : ∀ d ∈ tables_1, d.before a0 Z = true) (ws : List Jvm.Cond) (a1 : Addr) (ord : Int32) (h0 : Heap) (n0 : Nat) (Z0 : n0 ≤ h0.size) (F1 : Fld Z h0 a1 "java/lang/Enum" "ordinal" "I" (.int ord)) :
    MetFree l (⟨"java/lang/Enum", "ordinal", "()I"⟩ : MethodName) (head1 (Jvm.Cond.code (⟨"java/lang/Enum", "ordinal", "()I"⟩ : MethodName) jdk_37_method_2_code 1 (some .int) :: ws) ({ frames := 0, cells := 0, slots := 0, locals := 0 } : Room)) (fun a U => a = #[(.ref a1)] ∧ Z.Warmed39 U.vm ∧ U.heap = h0) (fun _ _ _ _ _ => True) (fun _ U o U' => ∃ v L, o = .returned v ∧ own_Q_own_ord Z a1 ord h0 n0 v U'.heap L ∧ FrameEnd U o U' L ({ frames := 0, cells := 0, slots := 0, locals := 0 } : Room).cells ({ frames := 0, cells := 0, slots := 0, locals := 0 } : Room).slots) := by
  refine MetFree.of_bodySF (plainFor_of_name own_pn2) hisR ?_
  intro p e s m args below meth c s₁ Bd hml0 hP hK
  obtain ⟨rfl, hZ, hh⟩ := hP
  have hx := Bd.exec
  have hby := Bd.bytes
  have hml : c.maxLocals = 1 := hml0
  have hown : s.vm.findClass "java/lang/Enum" = some m.cls := findClass_of_methodNamed Bd.named
  have hnm := (name_of_methodNamed Bd.named Bd.method).1
  have X0 : Stand p l e ({ frames := 0, cells := 0, slots := 0, locals := 0 } : Room) s m #[(.ref a1)] below meth c s₁ [] 0 0 := Stand.of_body Bd
  have e0 : s₁.heap = h0 := by rw [← hh, Bd.state]; rfl
  have N0 := Fr.nil n0
  refine own_open ?_
  intro R hR
  rw [own_ef_own_ord m a1]
  show own_W p e below R (s₁.setTop (mkF m 0 #[.val (.ref a1)] []))
  refine own_go (A' := (s₁.setTop (mkF m 1 #[.val (.ref a1)] [(.ref a1)]))) (fun _ k => XS.aloadN X0.here hx rfl (hb hby own_d2_0) rfl rfl k) ?_
  obtain ⟨T1, X1, e1, st1⟩ := getF X0 hx hZ hown (host := "") (Or.inl (hw _ (List.mem_of_getElem? (i := 17) rfl))) Via.refl e0 F1 (g := (mkF m 1 #[.val (.ref a1)] [(.ref a1)])) rfl rfl (hb hby own_d2_1)
  refine own_go (A' := (T1.setTop (mkF m 4 #[.val (.ref a1)] [(.int ord)]))) (fun _ k => st1 _ k) ?_
  obtain ⟨fs, hr, hrun, hended, hW, hsame⟩ := X1.leave (v := some (.int ord)) (fun h => by rw [Bd.returns] at h; cases h)
  refine ⟨_, _, retI X1 hx Bd.returns (hb hby own_d2_4) hr, hR _ _ ⟨hrun, hended, _, _, rfl, ?_, ⟨_, rfl⟩, hW, hsame.mono (by decide) (by decide)⟩⟩
  show own_Q_own_ord Z a1 ord h0 n0 _ T1.heap _
  rw [e1]
  exact ⟨rfl, N0, rfl⟩
theorem own_ef_own_adms (m : MethodId) (a1 : Addr) (d1 : UInt64) : entryFrame m #[(.ref a1), (.double d1)] 3 = mkF m 0 #[.val (.ref a1), .val (.double d1), .second] [] := by first | (simp [entryFrame, mkF, argsToLocals, Value.category]; done) | rfl
def own_Q_own_adms (Z : State) (a1 : Addr) (d1 : UInt64) (ord : Int32) (z : Int) (k : Nat) (h0 : Heap) (n0 : Nat) (v : Option Value) (h : Heap) (L : List Loc) : Prop := v = some (.int (own_adm ord z)) ∧ Fr n0 L ∧ h = h0
set_option maxRecDepth 65536 in
set_option maxHeartbeats 40000000 in
theorem own_adms (l : Launch) (Z : State) (a0 : Array Value) (hw : ∀ d ∈ tables_1, d.before a0 Z = true) (ws : List Jvm.Cond) (a1 : Addr) (d1 : UInt64) (ord : Int32) (z : Int) (k : Nat) (h0 : Heap) (n0 : Nat) (Z0 : n0 ≤ h0.size) (ho : ord = 0 ∨ ord = 1 ∨ ord = 2) (H1 : own_At k d1 z) (E1 : Exa Z h0 a1 "com/example/clearinghouse/clearinghouse/io/NamedRows$Sign") (F1 : Fld Z h0 a1 "java/lang/Enum" "ordinal" "I" (.int ord)) :
    MetFree l (⟨"com/example/clearinghouse/clearinghouse/io/NamedRows$Sign", "admits", "(D)Z"⟩ : MethodName) (head1 (Jvm.Cond.code (⟨"com/example/clearinghouse/clearinghouse/io/NamedRows$Sign", "admits", "(D)Z"⟩ : MethodName) prog_23_method_4_code 3 (some .boolean) :: ws) ({ frames := 1, cells := 0, slots := 0, locals := 12 } : Room)) (fun a U => a = #[(.ref a1), (.double d1)] ∧ Z.Warmed39 U.vm ∧ U.heap = h0) (fun _ _ _ _ _ => True) (fun _ U o U' => ∃ v L, o = .returned v ∧ own_Q_own_adms Z a1 d1 ord z k h0 n0 v U'.heap L ∧ FrameEnd U o U' L ({ frames := 1, cells := 0, slots := 0, locals := 12 } : Room).cells ({ frames := 1, cells := 0, slots := 0, locals := 12 } : Room).slots) := by
  refine MetFree.of_bodySF (plainFor_of_name own_pn1) hisR ?_
  intro p e s m args below meth c s₁ Bd hml0 hP hK
  obtain ⟨rfl, hZ, hh⟩ := hP
  have hx := Bd.exec
  have hby := Bd.bytes
  have hml : c.maxLocals = 3 := hml0
  have hown : s.vm.findClass "com/example/clearinghouse/clearinghouse/io/NamedRows$Sign" = some m.cls := findClass_of_methodNamed Bd.named
  have hnm := (name_of_methodNamed Bd.named Bd.method).1
  have X0 : Stand p l e ({ frames := 1, cells := 0, slots := 0, locals := 12 } : Room) s m #[(.ref a1), (.double d1)] below meth c s₁ [] 0 0 := Stand.of_body Bd
  have e0 : s₁.heap = h0 := by rw [← hh, Bd.state]; rfl
  have N0 := Fr.nil n0
  refine own_open ?_
  intro R hR
  rw [own_ef_own_adms m a1 d1]
  show own_W p e below R (s₁.setTop (mkF m 0 #[.val (.ref a1), .val (.double d1), .second] []))
  refine own_go (A' := (s₁.setTop (mkF m 1 #[.val (.ref a1), .val (.double d1), .second] [(.ref a1)]))) (fun _ k => XS.aloadN X0.here hx rfl (hb hby own_d1_0) rfl rfl k) ?_
  obtain ⟨cq1, kq1, q1a, q1b, q1c⟩ := isOf hZ e0 E1
  obtain ⟨_, _, ⟨T1, L1, k1, n1⟩, -, X1, ⟨Lc1, hQ1, l1, y1, z1⟩, st1⟩ := X0.virtualBackUp hx (owner := "java/lang/Enum") (x := (⟨"com/example/clearinghouse/clearinghouse/io/NamedRows$Sign", "ordinal", "()I"⟩ : MethodName)) (y := (⟨"java/lang/Enum", "ordinal", "()I"⟩ : MethodName)) hown (mvT hZ (hw _ (List.mem_of_getElem? (i := 10) rfl))) (mvT hZ (hw _ (List.mem_of_getElem? (i := 11) rfl))) (mvT hZ (hw _ (List.mem_of_getElem? (i := 12) rfl))) (by decide) (mvT hZ (hw _ (List.mem_of_getElem? (i := 14) rfl))) (mvT hZ (hw _ (List.mem_of_getElem? (i := 13) rfl))) (backOf (W := 0) (own_ord l Z a0 hw [] a1 _ h0 n0 Z0 F1) hZ (hw _ (List.mem_of_getElem? (i := 16) rfl)) (hw _ (List.mem_of_getElem? (i := 15) rfl)) (by decide) (by decide)) q1a q1c (g := (mkF m 1 #[.val (.ref a1), .val (.double d1), .second] [(.ref a1)])) rfl (by rw [hml]; rfl) (Steps.refl _) (argsL := []) (rest := []) (lenOf own_pd0 rfl) rfl (by show 2 * 0 + _ ≤ _; exact Nat.le_of_eq rfl) (hb hby own_d1_1) (fun _ _ => ⟨rfl, e0, (by decide : 0 + 0 ≤ _), (by decide : 0 + 0 ≤ _)⟩)
  dsimp only [Pt.U, Pt.locs, Pt.cells, Pt.slots] at X1 l1 y1 z1 st1 hQ1
  subst l1 y1 z1
  obtain ⟨rfl, N1q, hh1⟩ := hQ1
  have N1 := Fr.app N0 N1q
  refine own_go (A' := (T1.setTop (mkF m 4 #[.val (.ref a1), .val (.double d1), .second] [(.int ord)]))) (fun _ k => st1.trans k) ?_
  rcases ho with rfl | rfl | rfl
  · refine own_go (A' := (T1.setTop (mkF m 42 #[.val (.ref a1), .val (.double d1), .second] []))) (fun _ k => XS.tswIn X1.here hx rfl (pc0 := 4) (pc' := 42) rfl (hb hby own_d1_4) rfl (by decide) (o := 38) (by decide) (by decide) (by decide) k) ?_
    refine own_go (A' := (T1.setTop (mkF m 43 #[.val (.ref a1), .val (.double d1), .second] [(.int (1 : Int32))]))) (fun _ k => XS.iconst X1.here hx rfl (hb hby own_d1_42) k) ?_
    refine own_go (A' := (T1.setTop (mkF m 71 #[.val (.ref a1), .val (.double d1), .second] [(.int (1 : Int32))]))) (fun _ k => XS.goto X1.here hx rfl (pc0 := 43) (pc' := 71) rfl (hb hby own_d1_43) (by decide) (by decide) k) ?_
    obtain ⟨fs, hr, hrun, hended, hW, hsame⟩ := X1.leave (v := some (.int (1 : Int32))) (fun h => by rw [Bd.returns] at h; cases h)
    refine ⟨_, _, retN X1 hx (t := .boolean) Bd.returns (by simp) (hb hby own_d1_71) hr, hR _ _ ⟨hrun, hended, _, _, rfl, ?_, ⟨_, rfl⟩, hW, hsame.mono (by decide) (by decide)⟩⟩
    show own_Q_own_adms Z a1 d1 0 z k h0 n0 _ T1.heap _
    rw [hh1]
    exact ⟨rfl, N1, rfl⟩
  · refine own_go (A' := (T1.setTop (mkF m 46 #[.val (.ref a1), .val (.double d1), .second] []))) (fun _ k => XS.tswIn X1.here hx rfl (pc0 := 4) (pc' := 46) rfl (hb hby own_d1_4) rfl (by decide) (o := 42) (by decide) (by decide) (by decide) k) ?_
    refine own_go (A' := (T1.setTop (mkF m 47 #[.val (.ref a1), .val (.double d1), .second] [(.double d1)]))) (fun _ k => XS.dloadN X1.here hx rfl (hb hby own_d1_46) rfl k) ?_
    refine own_go (A' := (T1.setTop (mkF m 48 #[.val (.ref a1), .val (.double d1), .second] [(.double FP.dconst0), (.double d1)]))) (fun _ k => XS.dconst0 X1.here hx rfl (hb hby own_d1_47) rfl k) ?_
    refine own_go (A' := (T1.setTop (mkF m 49 #[.val (.ref a1), .val (.double d1), .second] [(.int (cmpValue (FP.dcmp d1 FP.dconst0) .l))]))) (fun _ k => XS.dcmpS X1.here hx rfl (hb hby own_d1_48) rfl rfl k) ?_
    have q := own_ca_lt H1 (own_zero : own_At k FP.dconst0 0) .l
    by_cases hc : (cmpValue (FP.dcmp d1 FP.dconst0) .l) < (0 : Int32)
    · refine own_go (A' := (T1.setTop (mkF m 56 #[.val (.ref a1), .val (.double d1), .second] []))) (fun _ k => XS.ifYes X1.here hx rfl (pc0 := 49) (pc' := 56) rfl (hb hby own_d1_49) rfl ((if0 _ _).trans (tlt hc).1) (by decide) (by decide) k) ?_
      refine own_go (A' := (T1.setTop (mkF m 57 #[.val (.ref a1), .val (.double d1), .second] [(.int (0 : Int32))]))) (fun _ k => XS.iconst X1.here hx rfl (hb hby own_d1_56) k) ?_
      refine own_go (A' := (T1.setTop (mkF m 71 #[.val (.ref a1), .val (.double d1), .second] [(.int (0 : Int32))]))) (fun _ k => XS.goto X1.here hx rfl (pc0 := 57) (pc' := 71) rfl (hb hby own_d1_57) (by decide) (by decide) k) ?_
      obtain ⟨fs, hr, hrun, hended, hW, hsame⟩ := X1.leave (v := some (.int (0 : Int32))) (fun h => by rw [Bd.returns] at h; cases h)
      refine ⟨_, _, retN X1 hx (t := .boolean) Bd.returns (by simp) (hb hby own_d1_71) hr, hR _ _ ⟨hrun, hended, _, _, rfl, ?_, ⟨_, rfl⟩, hW, hsame.mono (by decide) (by decide)⟩⟩
      show own_Q_own_adms Z a1 d1 1 z k h0 n0 _ T1.heap _
      rw [hh1]
      exact ⟨by simp [own_adm, q.mp hc], N1, rfl⟩
    · refine own_go (A' := (T1.setTop (mkF m 52 #[.val (.ref a1), .val (.double d1), .second] []))) (fun _ k => XS.ifNo X1.here hx rfl (hb hby own_d1_49) rfl ((if0 _ _).trans (flt hc).1) k) ?_
      refine own_go (A' := (T1.setTop (mkF m 53 #[.val (.ref a1), .val (.double d1), .second] [(.int (1 : Int32))]))) (fun _ k => XS.iconst X1.here hx rfl (hb hby own_d1_52) k) ?_
      refine own_go (A' := (T1.setTop (mkF m 71 #[.val (.ref a1), .val (.double d1), .second] [(.int (1 : Int32))]))) (fun _ k => XS.goto X1.here hx rfl (pc0 := 53) (pc' := 71) rfl (hb hby own_d1_53) (by decide) (by decide) k) ?_
      obtain ⟨fs, hr, hrun, hended, hW, hsame⟩ := X1.leave (v := some (.int (1 : Int32))) (fun h => by rw [Bd.returns] at h; cases h)
      refine ⟨_, _, retN X1 hx (t := .boolean) Bd.returns (by simp) (hb hby own_d1_71) hr, hR _ _ ⟨hrun, hended, _, _, rfl, ?_, ⟨_, rfl⟩, hW, hsame.mono (by decide) (by decide)⟩⟩
      show own_Q_own_adms Z a1 d1 1 z k h0 n0 _ T1.heap _
      rw [hh1]
      exact ⟨by simp [own_adm, mt q.mpr hc], N1, rfl⟩
  · refine own_go (A' := (T1.setTop (mkF m 60 #[.val (.ref a1), .val (.double d1), .second] []))) (fun _ k => XS.tswIn X1.here hx rfl (pc0 := 4) (pc' := 60) rfl (hb hby own_d1_4) rfl (by decide) (o := 56) (by decide) (by decide) (by decide) k) ?_
    refine own_go (A' := (T1.setTop (mkF m 61 #[.val (.ref a1), .val (.double d1), .second] [(.double d1)]))) (fun _ k => XS.dloadN X1.here hx rfl (hb hby own_d1_60) rfl k) ?_
    refine own_go (A' := (T1.setTop (mkF m 62 #[.val (.ref a1), .val (.double d1), .second] [(.double FP.dconst0), (.double d1)]))) (fun _ k => XS.dconst0 X1.here hx rfl (hb hby own_d1_61) rfl k) ?_
    refine own_go (A' := (T1.setTop (mkF m 63 #[.val (.ref a1), .val (.double d1), .second] [(.int (cmpValue (FP.dcmp d1 FP.dconst0) .l))]))) (fun _ k => XS.dcmpS X1.here hx rfl (hb hby own_d1_62) rfl rfl k) ?_
    have q := own_ca_gt H1 (own_zero : own_At k FP.dconst0 0) .l
    by_cases hc : (0 : Int32) < (cmpValue (FP.dcmp d1 FP.dconst0) .l)
    · refine own_go (A' := (T1.setTop (mkF m 66 #[.val (.ref a1), .val (.double d1), .second] []))) (fun _ k => XS.ifNo X1.here hx rfl (hb hby own_d1_63) rfl ((if0 _ _).trans (tlt hc).2.2.2) k) ?_
      refine own_go (A' := (T1.setTop (mkF m 67 #[.val (.ref a1), .val (.double d1), .second] [(.int (1 : Int32))]))) (fun _ k => XS.iconst X1.here hx rfl (hb hby own_d1_66) k) ?_
      refine own_go (A' := (T1.setTop (mkF m 71 #[.val (.ref a1), .val (.double d1), .second] [(.int (1 : Int32))]))) (fun _ k => XS.goto X1.here hx rfl (pc0 := 67) (pc' := 71) rfl (hb hby own_d1_67) (by decide) (by decide) k) ?_
      obtain ⟨fs, hr, hrun, hended, hW, hsame⟩ := X1.leave (v := some (.int (1 : Int32))) (fun h => by rw [Bd.returns] at h; cases h)
      refine ⟨_, _, retN X1 hx (t := .boolean) Bd.returns (by simp) (hb hby own_d1_71) hr, hR _ _ ⟨hrun, hended, _, _, rfl, ?_, ⟨_, rfl⟩, hW, hsame.mono (by decide) (by decide)⟩⟩
      show own_Q_own_adms Z a1 d1 2 z k h0 n0 _ T1.heap _
      rw [hh1]
      exact ⟨by simp [own_adm, q.mp hc], N1, rfl⟩
    · refine own_go (A' := (T1.setTop (mkF m 70 #[.val (.ref a1), .val (.double d1), .second] []))) (fun _ k => XS.ifYes X1.here hx rfl (pc0 := 63) (pc' := 70) rfl (hb hby own_d1_63) rfl ((if0 _ _).trans (flt hc).2.2.2) (by decide) (by decide) k) ?_
      refine own_go (A' := (T1.setTop (mkF m 71 #[.val (.ref a1), .val (.double d1), .second] [(.int (0 : Int32))]))) (fun _ k => XS.iconst X1.here hx rfl (hb hby own_d1_70) k) ?_
      obtain ⟨fs, hr, hrun, hended, hW, hsame⟩ := X1.leave (v := some (.int (0 : Int32))) (fun h => by rw [Bd.returns] at h; cases h)
      refine ⟨_, _, retN X1 hx (t := .boolean) Bd.returns (by simp) (hb hby own_d1_71) hr, hR _ _ ⟨hrun, hended, _, _, rfl, ?_, ⟨_, rfl⟩, hW, hsame.mono (by decide) (by decide)⟩⟩
      show own_Q_own_adms Z a1 d1 2 z k h0 n0 _ T1.heap _
      rw [hh1]
      exact ⟨by simp [own_adm, mt q.mpr hc], N1, rfl⟩
theorem own_ef_own_rm0 (m : MethodId) (p1 : Int32) (p2 : Int32) (p3 : Int32) : entryFrame m #[(.int p1), (.int p2), (.int p3)] maxLocals = mkF m 0 #[.val (.int p1), .val (.int p2), .val (.int p3), .unset, .unset, .unset, .unset, .unset, .unset, .unset, .unset, .unset] [] := by first | (simp [entryFrame, mkF, argsToLocals, Value.category, maxLocals]; done) | rfl
def own_Q_own_rm0 (Z : State) (p1 : Int32) (p2 : Int32) (p3 : Int32) (o0 o1 o2 : Addr) (h0 : Heap) (n0 : Nat) (v : Option Value) (h : Heap) (L : List Loc) : Prop := v = some (.int 1) ∧ Fr n0 L
set_option maxRecDepth 65536 in
set_option maxHeartbeats 40000000 in
theorem own_rm0 (l : Launch) (Z : State) (a0 : Array Value) (hw : ∀ d ∈ tables_1, d.before a0 Z = true) (ws : List Jvm.Cond) (p1 : Int32) (p2 : Int32) (p3 : Int32) (o0 o1 o2 : Addr) (h0 : Heap) (n0 : Nat) (Z0 : n0 ≤ h0.size) (S0 : Sta Z h0 "com/example/clearinghouse/clearinghouse/io/NamedRows$Sign" "ANY" "Lcom/example/clearinghouse/clearinghouse/io/NamedRows$Sign;" (.ref o0)) (E0 : Exa Z h0 o0 "com/example/clearinghouse/clearinghouse/io/NamedRows$Sign") (F0 : Fld Z h0 o0 "java/lang/Enum" "ordinal" "I" (.int 0)) (S1 : Sta Z h0 "com/example/clearinghouse/clearinghouse/io/NamedRows$Sign" "NOT_NEGATIVE" "Lcom/example/clearinghouse/clearinghouse/io/NamedRows$Sign;" (.ref o1)) (E1 : Exa Z h0 o1 "com/example/clearinghouse/clearinghouse/io/NamedRows$Sign") (F1 : Fld Z h0 o1 "java/lang/Enum" "ordinal" "I" (.int 1)) (S2 : Sta Z h0 "com/example/clearinghouse/clearinghouse/io/NamedRows$Sign" "POSITIVE" "Lcom/example/clearinghouse/clearinghouse/io/NamedRows$Sign;" (.ref o2)) (E2 : Exa Z h0 o2 "com/example/clearinghouse/clearinghouse/io/NamedRows$Sign") (F2 : Fld Z h0 o2 "java/lang/Enum" "ordinal" "I" (.int 2)) :
    MetFree l x (head1 (Jvm.Cond.code x code maxLocals ret :: ws) room_1) (fun a U => a = #[(.int p1), (.int p2), (.int p3)] ∧ Z.Warmed39 U.vm ∧ U.heap = h0) (fun _ _ _ _ _ => True) (fun _ U o U' => ∃ v L, o = .returned v ∧ own_Q_own_rm0 Z p1 p2 p3 o0 o1 o2 h0 n0 v U'.heap L ∧ FrameEnd U o U' L room_1.cells room_1.slots) := by
  refine MetFree.of_bodySF (plainFor_of_name own_pn0) hisR ?_
  intro p e s m args below meth c s₁ Bd hml0 hP hK
  obtain ⟨rfl, hZ, hh⟩ := hP
  have hx := Bd.exec
  have hby := Bd.bytes
  have hml : c.maxLocals = 12 := hml0
  have hown : s.vm.findClass "com/example/clearinghouse/clearinghouse/io/SignAdmitsPinLaw" = some m.cls := findClass_of_methodNamed Bd.named
  have hnm := (name_of_methodNamed Bd.named Bd.method).1
  have X0 : Stand p l e room_1 s m #[(.int p1), (.int p2), (.int p3)] below meth c s₁ [] 0 0 := Stand.of_body Bd
  have e0 : s₁.heap = h0 := by rw [← hh, Bd.state]; rfl
  have N0 := Fr.nil n0
  refine own_open ?_
  intro R hR
  rw [own_ef_own_rm0 m p1 p2 p3]
  show own_W p e below R (s₁.setTop (mkF m 0 #[.val (.int p1), .val (.int p2), .val (.int p3), .unset, .unset, .unset, .unset, .unset, .unset, .unset, .unset, .unset] []))
  refine own_go (A' := (s₁.setTop (mkF m 1 #[.val (.int p1), .val (.int p2), .val (.int p3), .unset, .unset, .unset, .unset, .unset, .unset, .unset, .unset, .unset] [(.int p1)]))) (fun _ k => XS.iloadN X0.here hx rfl (hb hby at_0) rfl k) ?_
  refine own_go (A' := (s₁.setTop (mkF m 3 #[.val (.int p1), .val (.int p2), .val (.int p3), .unset, .unset, .unset, .unset, .unset, .unset, .unset, .unset, .unset] [(.int (2147483647 : Int32)), (.int p1)]))) (fun _ k => X0.ldcInt hx hown (mvT hZ (hw _ (List.mem_of_getElem? (i := 0) rfl))) (g := (mkF m 1 #[.val (.int p1), .val (.int p2), .val (.int p3), .unset, .unset, .unset, .unset, .unset, .unset, .unset, .unset, .unset] [(.int p1)])) rfl (hb hby at_1) _ k) ?_
  refine own_go (A' := (s₁.setTop (mkF m 4 #[.val (.int p1), .val (.int p2), .val (.int p3), .unset, .unset, .unset, .unset, .unset, .unset, .unset, .unset, .unset] [(.int (p1 &&& (2147483647 : Int32)))]))) (fun _ k => XS.iand X0.here hx rfl (hb hby at_3) rfl k) ?_
  refine own_go (A' := (s₁.setTop (mkF m 5 #[.val (.int p1), .val (.int p2), .val (.int p3), .unset, .unset, .unset, .unset, .unset, .unset, .unset, .unset, .unset] [(.int (3 : Int32)), (.int (p1 &&& (2147483647 : Int32)))]))) (fun _ k => XS.iconst X0.here hx rfl (hb hby at_4) k) ?_
  refine own_go (A' := (s₁.setTop (mkF m 6 #[.val (.int p1), .val (.int p2), .val (.int p3), .unset, .unset, .unset, .unset, .unset, .unset, .unset, .unset, .unset] [(.int ((p1 &&& (2147483647 : Int32)) % (3 : Int32)))]))) (fun _ k => iremM X0 hx rfl (hb hby at_5) rfl (by decide) k) ?_
  refine own_go (A' := (s₁.setTop (mkF m 7 #[.val (.int p1), .val (.int p2), .val (.int p3), .val (.int ((p1 &&& (2147483647 : Int32)) % (3 : Int32))), .unset, .unset, .unset, .unset, .unset, .unset, .unset, .unset] []))) (fun _ k => XS.istoreN X0.here hx rfl (hb hby at_6) rfl (l' := #[.val (.int p1), .val (.int p2), .val (.int p3), .val (.int ((p1 &&& (2147483647 : Int32)) % (3 : Int32))), .unset, .unset, .unset, .unset, .unset, .unset, .unset, .unset]) rfl k) ?_
  refine own_go (A' := (s₁.setTop (mkF m 8 #[.val (.int p1), .val (.int p2), .val (.int p3), .val (.int ((p1 &&& (2147483647 : Int32)) % (3 : Int32))), .unset, .unset, .unset, .unset, .unset, .unset, .unset, .unset] [(.int p3)]))) (fun _ k => XS.iloadN X0.here hx rfl (hb hby at_7) rfl k) ?_
  refine own_go (A' := (s₁.setTop (mkF m 9 #[.val (.int p1), .val (.int p2), .val (.int p3), .val (.int ((p1 &&& (2147483647 : Int32)) % (3 : Int32))), .unset, .unset, .unset, .unset, .unset, .unset, .unset, .unset] [(.int (1 : Int32)), (.int p3)]))) (fun _ k => XS.iconst X0.here hx rfl (hb hby at_8) k) ?_
  refine own_go (A' := (s₁.setTop (mkF m 10 #[.val (.int p1), .val (.int p2), .val (.int p3), .val (.int ((p1 &&& (2147483647 : Int32)) % (3 : Int32))), .unset, .unset, .unset, .unset, .unset, .unset, .unset, .unset] [(.int (p3 &&& (1 : Int32)))]))) (fun _ k => XS.iand X0.here hx rfl (hb hby at_9) rfl k) ?_
  have J136 : ∀ (ng sm : Int32) (d : UInt64) (lv : Int64) (o : Addr) (ex ord : Int32) (z : Int) (k : Nat) (T : State) (X : Stand p l e room_1 s m #[(.int p1), (.int p2), (.int p3)] below meth c T [] 0 0) (eT : T.heap = h0) (ho : ord = 0 ∨ ord = 1 ∨ ord = 2) (Hd : own_At k d z) (Eo : Exa Z h0 o "com/example/clearinghouse/clearinghouse/io/NamedRows$Sign") (Fo : Fld Z h0 o "java/lang/Enum" "ordinal" "I" (.int ord)) (hex : ex = own_adm ord z), own_W p e below R (T.setTop (mkF m 136 #[.val (.int p1), .val (.int p2), .val (.int p3), .val (.int ((p1 &&& (2147483647 : Int32)) % (3 : Int32))), .val (.int ng), .val (.int sm), .val (.double d), .second, .val (.long lv), .second, .val (.ref o), .val (.int ex)] [])) := by
    intro ng sm d lv o ex ord z k T X eT ho Hd Eo Fo hex
    refine own_go (A' := (T.setTop (mkF m 138 #[.val (.int p1), .val (.int p2), .val (.int p3), .val (.int ((p1 &&& (2147483647 : Int32)) % (3 : Int32))), .val (.int ng), .val (.int sm), .val (.double d), .second, .val (.long lv), .second, .val (.ref o), .val (.int ex)] [(.ref o)]))) (fun _ k => XS.aload X.here hx rfl (hb hby at_136) rfl rfl k) ?_
    refine own_go (A' := (T.setTop (mkF m 140 #[.val (.int p1), .val (.int p2), .val (.int p3), .val (.int ((p1 &&& (2147483647 : Int32)) % (3 : Int32))), .val (.int ng), .val (.int sm), .val (.double d), .second, .val (.long lv), .second, .val (.ref o), .val (.int ex)] [(.double d), (.ref o)]))) (fun _ k => XS.dload X.here hx rfl (hb hby at_138) rfl k) ?_
    obtain ⟨cq11, kq11, q11a, q11b, q11c⟩ := isOf hZ eT Eo
    obtain ⟨_, _, ⟨T11, L11, k11, n11⟩, -, X11, ⟨Lc11, hQ11, l11, y11, z11⟩, st11⟩ := X.virtualBack hx (y := (⟨"com/example/clearinghouse/clearinghouse/io/NamedRows$Sign", "admits", "(D)Z"⟩ : MethodName)) (z := (⟨"com/example/clearinghouse/clearinghouse/io/NamedRows$Sign", "admits", "(D)Z"⟩ : MethodName)) hown (mvT hZ (hw _ (List.mem_of_getElem? (i := 5) rfl))) (mvT hZ (hw _ (List.mem_of_getElem? (i := 6) rfl))) (notFace_of_selects (args := #[]) (mvT hZ (hw _ (List.mem_of_getElem? (i := 8) rfl)))) (mvT hZ (hw _ (List.mem_of_getElem? (i := 8) rfl))) (mvT hZ (hw _ (List.mem_of_getElem? (i := 7) rfl))) (by decide) (backOf (W := 0) (own_adms l Z a0 hw [] o d ord z k h0 n0 Z0 ho Hd Eo Fo) hZ (hw _ (List.mem_of_getElem? (i := 9) rfl)) (hw _ (List.mem_of_getElem? (i := 3) rfl)) (by decide) (by decide)) q11a q11c (g := (mkF m 140 #[.val (.int p1), .val (.int p2), .val (.int p3), .val (.int ((p1 &&& (2147483647 : Int32)) % (3 : Int32))), .val (.int ng), .val (.int sm), .val (.double d), .second, .val (.long lv), .second, .val (.ref o), .val (.int ex)] [(.double d), (.ref o)])) rfl (by rw [hml]; rfl) (Steps.refl _) (argsL := [(.double d)]) (rest := []) (lenOf own_pd1 rfl) rfl (by show 2 * 0 + _ ≤ _; exact Nat.le_of_eq rfl) (hb hby at_140) (fun _ _ => ⟨rfl, eT, (by decide : 0 + 0 ≤ _), (by decide : 0 + 0 ≤ _)⟩)
    dsimp only [Pt.U, Pt.locs, Pt.cells, Pt.slots] at X11 l11 y11 z11 st11 hQ11
    subst l11 y11 z11
    obtain ⟨rfl, N11q, hh11⟩ := hQ11
    have N11 := Fr.app N0 N11q
    refine own_go (A' := (T11.setTop (mkF m 143 #[.val (.int p1), .val (.int p2), .val (.int p3), .val (.int ((p1 &&& (2147483647 : Int32)) % (3 : Int32))), .val (.int ng), .val (.int sm), .val (.double d), .second, .val (.long lv), .second, .val (.ref o), .val (.int ex)] [(.int (own_adm ord z))]))) (fun _ k => st11.trans k) ?_
    refine own_go (A' := (T11.setTop (mkF m 145 #[.val (.int p1), .val (.int p2), .val (.int p3), .val (.int ((p1 &&& (2147483647 : Int32)) % (3 : Int32))), .val (.int ng), .val (.int sm), .val (.double d), .second, .val (.long lv), .second, .val (.ref o), .val (.int ex)] [(.int ex), (.int (own_adm ord z))]))) (fun _ k => XS.iload X11.here hx rfl (hb hby at_143) rfl k) ?_
    refine own_go (A' := (T11.setTop (mkF m 148 #[.val (.int p1), .val (.int p2), .val (.int p3), .val (.int ((p1 &&& (2147483647 : Int32)) % (3 : Int32))), .val (.int ng), .val (.int sm), .val (.double d), .second, .val (.long lv), .second, .val (.ref o), .val (.int ex)] []))) (fun _ k => XS.icmpNo X11.here hx rfl (hb hby at_145) rfl (teq hex.symm).2 k) ?_
    refine own_go (A' := (T11.setTop (mkF m 149 #[.val (.int p1), .val (.int p2), .val (.int p3), .val (.int ((p1 &&& (2147483647 : Int32)) % (3 : Int32))), .val (.int ng), .val (.int sm), .val (.double d), .second, .val (.long lv), .second, .val (.ref o), .val (.int ex)] [(.int (1 : Int32))]))) (fun _ k => XS.iconst X11.here hx rfl (hb hby at_148) k) ?_
    refine own_go (A' := (T11.setTop (mkF m 153 #[.val (.int p1), .val (.int p2), .val (.int p3), .val (.int ((p1 &&& (2147483647 : Int32)) % (3 : Int32))), .val (.int ng), .val (.int sm), .val (.double d), .second, .val (.long lv), .second, .val (.ref o), .val (.int ex)] [(.int (1 : Int32))]))) (fun _ k => XS.goto X11.here hx rfl (pc0 := 149) (pc' := 153) rfl (hb hby at_149) (by decide) (by decide) k) ?_
    obtain ⟨fs, hr, hrun, hended, hW, hsame⟩ := X11.leave (v := some (.int (1 : Int32))) (fun h => by rw [Bd.returns] at h; cases h)
    refine ⟨_, _, retN X11 hx (t := .boolean) Bd.returns (by simp) (hb hby at_153) hr, hR _ _ ⟨hrun, hended, _, _, rfl, ?_, ⟨_, rfl⟩, hW, hsame.mono (by decide) (by decide)⟩⟩
    show own_Q_own_rm0 Z p1 p2 p3 o0 o1 o2 h0 n0 _ T11.heap _
    rw [hh11]
    exact ⟨rfl, N11⟩
  have J73 : ∀ (ng sm : Int32) (d : UInt64) (lv : Int64) (k : Nat) (Hd : own_At k d lv.toInt), own_W p e below R (s₁.setTop (mkF m 73 #[.val (.int p1), .val (.int p2), .val (.int p3), .val (.int ((p1 &&& (2147483647 : Int32)) % (3 : Int32))), .val (.int ng), .val (.int sm), .val (.double d), .second, .unset, .unset, .unset, .unset] [(.long lv)])) := by
    intro ng sm d lv k Hd
    refine own_go (A' := (s₁.setTop (mkF m 75 #[.val (.int p1), .val (.int p2), .val (.int p3), .val (.int ((p1 &&& (2147483647 : Int32)) % (3 : Int32))), .val (.int ng), .val (.int sm), .val (.double d), .second, .val (.long lv), .second, .unset, .unset] []))) (fun _ k => XS.lstore X0.here hx rfl (hb hby at_73) rfl (l' := #[.val (.int p1), .val (.int p2), .val (.int p3), .val (.int ((p1 &&& (2147483647 : Int32)) % (3 : Int32))), .val (.int ng), .val (.int sm), .val (.double d), .second, .val (.long lv), .second, .unset, .unset]) rfl k) ?_
    refine own_go (A' := (s₁.setTop (mkF m 76 #[.val (.int p1), .val (.int p2), .val (.int p3), .val (.int ((p1 &&& (2147483647 : Int32)) % (3 : Int32))), .val (.int ng), .val (.int sm), .val (.double d), .second, .val (.long lv), .second, .unset, .unset] [(.int ((p1 &&& (2147483647 : Int32)) % (3 : Int32)))]))) (fun _ k => XS.iloadN X0.here hx rfl (hb hby at_75) rfl k) ?_
    by_cases hk0 : ((p1 &&& (2147483647 : Int32)) % (3 : Int32)) = (0 : Int32)
    · refine own_go (A' := (s₁.setTop (mkF m 79 #[.val (.int p1), .val (.int p2), .val (.int p3), .val (.int ((p1 &&& (2147483647 : Int32)) % (3 : Int32))), .val (.int ng), .val (.int sm), .val (.double d), .second, .val (.long lv), .second, .unset, .unset] []))) (fun _ k => XS.ifNo X0.here hx rfl (hb hby at_76) rfl ((if0 _ _).trans (teq hk0).2) k) ?_
      obtain ⟨T12, X12, e12, st12⟩ := getS2 X0 hx hZ hown (host := "") (Or.inl (hw _ (List.mem_of_getElem? (i := 2) rfl))) Via.refl e0 S0 (g := (mkF m 79 #[.val (.int p1), .val (.int p2), .val (.int p3), .val (.int ((p1 &&& (2147483647 : Int32)) % (3 : Int32))), .val (.int ng), .val (.int sm), .val (.double d), .second, .val (.long lv), .second, .unset, .unset] [])) rfl (hb hby at_79)
      refine own_go (A' := (T12.setTop (mkF m 82 #[.val (.int p1), .val (.int p2), .val (.int p3), .val (.int ((p1 &&& (2147483647 : Int32)) % (3 : Int32))), .val (.int ng), .val (.int sm), .val (.double d), .second, .val (.long lv), .second, .unset, .unset] [(.ref o0)]))) (fun _ k => st12 _ k) ?_
      refine own_go (A' := (T12.setTop (mkF m 84 #[.val (.int p1), .val (.int p2), .val (.int p3), .val (.int ((p1 &&& (2147483647 : Int32)) % (3 : Int32))), .val (.int ng), .val (.int sm), .val (.double d), .second, .val (.long lv), .second, .val (.ref o0), .unset] []))) (fun _ k => XS.astore X12.here hx rfl (hb hby at_82) rfl rfl (l' := #[.val (.int p1), .val (.int p2), .val (.int p3), .val (.int ((p1 &&& (2147483647 : Int32)) % (3 : Int32))), .val (.int ng), .val (.int sm), .val (.double d), .second, .val (.long lv), .second, .val (.ref o0), .unset]) rfl k) ?_
      refine own_go (A' := (T12.setTop (mkF m 85 #[.val (.int p1), .val (.int p2), .val (.int p3), .val (.int ((p1 &&& (2147483647 : Int32)) % (3 : Int32))), .val (.int ng), .val (.int sm), .val (.double d), .second, .val (.long lv), .second, .val (.ref o0), .unset] [(.int (1 : Int32))]))) (fun _ k => XS.iconst X12.here hx rfl (hb hby at_84) k) ?_
      refine own_go (A' := (T12.setTop (mkF m 87 #[.val (.int p1), .val (.int p2), .val (.int p3), .val (.int ((p1 &&& (2147483647 : Int32)) % (3 : Int32))), .val (.int ng), .val (.int sm), .val (.double d), .second, .val (.long lv), .second, .val (.ref o0), .val (.int (1 : Int32))] []))) (fun _ k => XS.istore X12.here hx rfl (hb hby at_85) rfl (l' := #[.val (.int p1), .val (.int p2), .val (.int p3), .val (.int ((p1 &&& (2147483647 : Int32)) % (3 : Int32))), .val (.int ng), .val (.int sm), .val (.double d), .second, .val (.long lv), .second, .val (.ref o0), .val (.int (1 : Int32))]) rfl k) ?_
      refine own_go (A' := (T12.setTop (mkF m 136 #[.val (.int p1), .val (.int p2), .val (.int p3), .val (.int ((p1 &&& (2147483647 : Int32)) % (3 : Int32))), .val (.int ng), .val (.int sm), .val (.double d), .second, .val (.long lv), .second, .val (.ref o0), .val (.int (1 : Int32))] []))) (fun _ k => XS.goto X12.here hx rfl (pc0 := 87) (pc' := 136) rfl (hb hby at_87) (by decide) (by decide) k) ?_
      exact J136 _ _ _ _ _ _ 0 _ _ _ X12 e12 (by decide) Hd E0 F0 rfl
    · refine own_go (A' := (s₁.setTop (mkF m 90 #[.val (.int p1), .val (.int p2), .val (.int p3), .val (.int ((p1 &&& (2147483647 : Int32)) % (3 : Int32))), .val (.int ng), .val (.int sm), .val (.double d), .second, .val (.long lv), .second, .unset, .unset] []))) (fun _ k => XS.ifYes X0.here hx rfl (pc0 := 76) (pc' := 90) rfl (hb hby at_76) rfl ((if0 _ _).trans (feq hk0).2) (by decide) (by decide) k) ?_
      refine own_go (A' := (s₁.setTop (mkF m 91 #[.val (.int p1), .val (.int p2), .val (.int p3), .val (.int ((p1 &&& (2147483647 : Int32)) % (3 : Int32))), .val (.int ng), .val (.int sm), .val (.double d), .second, .val (.long lv), .second, .unset, .unset] [(.int ((p1 &&& (2147483647 : Int32)) % (3 : Int32)))]))) (fun _ k => XS.iloadN X0.here hx rfl (hb hby at_90) rfl k) ?_
      refine own_go (A' := (s₁.setTop (mkF m 92 #[.val (.int p1), .val (.int p2), .val (.int p3), .val (.int ((p1 &&& (2147483647 : Int32)) % (3 : Int32))), .val (.int ng), .val (.int sm), .val (.double d), .second, .val (.long lv), .second, .unset, .unset] [(.int (1 : Int32)), (.int ((p1 &&& (2147483647 : Int32)) % (3 : Int32)))]))) (fun _ k => XS.iconst X0.here hx rfl (hb hby at_91) k) ?_
      by_cases hk1 : ((p1 &&& (2147483647 : Int32)) % (3 : Int32)) = (1 : Int32)
      · refine own_go (A' := (s₁.setTop (mkF m 95 #[.val (.int p1), .val (.int p2), .val (.int p3), .val (.int ((p1 &&& (2147483647 : Int32)) % (3 : Int32))), .val (.int ng), .val (.int sm), .val (.double d), .second, .val (.long lv), .second, .unset, .unset] []))) (fun _ k => XS.icmpNo X0.here hx rfl (hb hby at_92) rfl (teq hk1).2 k) ?_
        obtain ⟨T13, X13, e13, st13⟩ := getS2 X0 hx hZ hown (host := "") (Or.inl (hw _ (List.mem_of_getElem? (i := 19) rfl))) Via.refl e0 S1 (g := (mkF m 95 #[.val (.int p1), .val (.int p2), .val (.int p3), .val (.int ((p1 &&& (2147483647 : Int32)) % (3 : Int32))), .val (.int ng), .val (.int sm), .val (.double d), .second, .val (.long lv), .second, .unset, .unset] [])) rfl (hb hby at_95)
        refine own_go (A' := (T13.setTop (mkF m 98 #[.val (.int p1), .val (.int p2), .val (.int p3), .val (.int ((p1 &&& (2147483647 : Int32)) % (3 : Int32))), .val (.int ng), .val (.int sm), .val (.double d), .second, .val (.long lv), .second, .unset, .unset] [(.ref o1)]))) (fun _ k => st13 _ k) ?_
        refine own_go (A' := (T13.setTop (mkF m 100 #[.val (.int p1), .val (.int p2), .val (.int p3), .val (.int ((p1 &&& (2147483647 : Int32)) % (3 : Int32))), .val (.int ng), .val (.int sm), .val (.double d), .second, .val (.long lv), .second, .val (.ref o1), .unset] []))) (fun _ k => XS.astore X13.here hx rfl (hb hby at_98) rfl rfl (l' := #[.val (.int p1), .val (.int p2), .val (.int p3), .val (.int ((p1 &&& (2147483647 : Int32)) % (3 : Int32))), .val (.int ng), .val (.int sm), .val (.double d), .second, .val (.long lv), .second, .val (.ref o1), .unset]) rfl k) ?_
        refine own_go (A' := (T13.setTop (mkF m 102 #[.val (.int p1), .val (.int p2), .val (.int p3), .val (.int ((p1 &&& (2147483647 : Int32)) % (3 : Int32))), .val (.int ng), .val (.int sm), .val (.double d), .second, .val (.long lv), .second, .val (.ref o1), .unset] [(.long lv)]))) (fun _ k => XS.lload X13.here hx rfl (hb hby at_100) rfl k) ?_
        refine own_go (A' := (T13.setTop (mkF m 103 #[.val (.int p1), .val (.int p2), .val (.int p3), .val (.int ((p1 &&& (2147483647 : Int32)) % (3 : Int32))), .val (.int ng), .val (.int sm), .val (.double d), .second, .val (.long lv), .second, .val (.ref o1), .unset] [(.long (0 : Int64)), (.long lv)]))) (fun _ k => XS.lconst X13.here hx rfl (hb hby at_102) k) ?_
        refine own_go (A' := (T13.setTop (mkF m 104 #[.val (.int p1), .val (.int p2), .val (.int p3), .val (.int ((p1 &&& (2147483647 : Int32)) % (3 : Int32))), .val (.int ng), .val (.int sm), .val (.double d), .second, .val (.long lv), .second, .val (.ref o1), .unset] [(.int (lcmpW lv (0 : Int64)))]))) (fun _ k => XS.lcmp X13.here hx rfl (hb hby at_103) rfl k) ?_
        have q := own_l_lt lv 0
        by_cases hc : (lcmpW lv (0 : Int64)) < (0 : Int32)
        · refine own_go (A' := (T13.setTop (mkF m 111 #[.val (.int p1), .val (.int p2), .val (.int p3), .val (.int ((p1 &&& (2147483647 : Int32)) % (3 : Int32))), .val (.int ng), .val (.int sm), .val (.double d), .second, .val (.long lv), .second, .val (.ref o1), .unset] []))) (fun _ k => XS.ifYes X13.here hx rfl (pc0 := 104) (pc' := 111) rfl (hb hby at_104) rfl ((if0 _ _).trans (tlt hc).1) (by decide) (by decide) k) ?_
          refine own_go (A' := (T13.setTop (mkF m 112 #[.val (.int p1), .val (.int p2), .val (.int p3), .val (.int ((p1 &&& (2147483647 : Int32)) % (3 : Int32))), .val (.int ng), .val (.int sm), .val (.double d), .second, .val (.long lv), .second, .val (.ref o1), .unset] [(.int (0 : Int32))]))) (fun _ k => XS.iconst X13.here hx rfl (hb hby at_111) k) ?_
          refine own_go (A' := (T13.setTop (mkF m 114 #[.val (.int p1), .val (.int p2), .val (.int p3), .val (.int ((p1 &&& (2147483647 : Int32)) % (3 : Int32))), .val (.int ng), .val (.int sm), .val (.double d), .second, .val (.long lv), .second, .val (.ref o1), .val (.int (0 : Int32))] []))) (fun _ k => XS.istore X13.here hx rfl (hb hby at_112) rfl (l' := #[.val (.int p1), .val (.int p2), .val (.int p3), .val (.int ((p1 &&& (2147483647 : Int32)) % (3 : Int32))), .val (.int ng), .val (.int sm), .val (.double d), .second, .val (.long lv), .second, .val (.ref o1), .val (.int (0 : Int32))]) rfl k) ?_
          refine own_go (A' := (T13.setTop (mkF m 136 #[.val (.int p1), .val (.int p2), .val (.int p3), .val (.int ((p1 &&& (2147483647 : Int32)) % (3 : Int32))), .val (.int ng), .val (.int sm), .val (.double d), .second, .val (.long lv), .second, .val (.ref o1), .val (.int (0 : Int32))] []))) (fun _ k => XS.goto X13.here hx rfl (pc0 := 114) (pc' := 136) rfl (hb hby at_114) (by decide) (by decide) k) ?_
          have h1 : lv.toInt < 0 := Int64.lt_iff_toInt_lt.mp (q.mp hc)
          exact J136 _ _ _ _ _ _ 1 _ _ _ X13 e13 (by decide) Hd E1 F1 (by simp [own_adm, h1])
        · refine own_go (A' := (T13.setTop (mkF m 107 #[.val (.int p1), .val (.int p2), .val (.int p3), .val (.int ((p1 &&& (2147483647 : Int32)) % (3 : Int32))), .val (.int ng), .val (.int sm), .val (.double d), .second, .val (.long lv), .second, .val (.ref o1), .unset] []))) (fun _ k => XS.ifNo X13.here hx rfl (hb hby at_104) rfl ((if0 _ _).trans (flt hc).1) k) ?_
          refine own_go (A' := (T13.setTop (mkF m 108 #[.val (.int p1), .val (.int p2), .val (.int p3), .val (.int ((p1 &&& (2147483647 : Int32)) % (3 : Int32))), .val (.int ng), .val (.int sm), .val (.double d), .second, .val (.long lv), .second, .val (.ref o1), .unset] [(.int (1 : Int32))]))) (fun _ k => XS.iconst X13.here hx rfl (hb hby at_107) k) ?_
          refine own_go (A' := (T13.setTop (mkF m 112 #[.val (.int p1), .val (.int p2), .val (.int p3), .val (.int ((p1 &&& (2147483647 : Int32)) % (3 : Int32))), .val (.int ng), .val (.int sm), .val (.double d), .second, .val (.long lv), .second, .val (.ref o1), .unset] [(.int (1 : Int32))]))) (fun _ k => XS.goto X13.here hx rfl (pc0 := 108) (pc' := 112) rfl (hb hby at_108) (by decide) (by decide) k) ?_
          refine own_go (A' := (T13.setTop (mkF m 114 #[.val (.int p1), .val (.int p2), .val (.int p3), .val (.int ((p1 &&& (2147483647 : Int32)) % (3 : Int32))), .val (.int ng), .val (.int sm), .val (.double d), .second, .val (.long lv), .second, .val (.ref o1), .val (.int (1 : Int32))] []))) (fun _ k => XS.istore X13.here hx rfl (hb hby at_112) rfl (l' := #[.val (.int p1), .val (.int p2), .val (.int p3), .val (.int ((p1 &&& (2147483647 : Int32)) % (3 : Int32))), .val (.int ng), .val (.int sm), .val (.double d), .second, .val (.long lv), .second, .val (.ref o1), .val (.int (1 : Int32))]) rfl k) ?_
          refine own_go (A' := (T13.setTop (mkF m 136 #[.val (.int p1), .val (.int p2), .val (.int p3), .val (.int ((p1 &&& (2147483647 : Int32)) % (3 : Int32))), .val (.int ng), .val (.int sm), .val (.double d), .second, .val (.long lv), .second, .val (.ref o1), .val (.int (1 : Int32))] []))) (fun _ k => XS.goto X13.here hx rfl (pc0 := 114) (pc' := 136) rfl (hb hby at_114) (by decide) (by decide) k) ?_
          have h1 : ¬ lv.toInt < 0 := fun r => hc (q.mpr (Int64.lt_iff_toInt_lt.mpr r))
          exact J136 _ _ _ _ _ _ 1 _ _ _ X13 e13 (by decide) Hd E1 F1 (by simp [own_adm, h1])
      · refine own_go (A' := (s₁.setTop (mkF m 117 #[.val (.int p1), .val (.int p2), .val (.int p3), .val (.int ((p1 &&& (2147483647 : Int32)) % (3 : Int32))), .val (.int ng), .val (.int sm), .val (.double d), .second, .val (.long lv), .second, .unset, .unset] []))) (fun _ k => XS.icmpYes X0.here hx rfl (pc0 := 92) (pc' := 117) rfl (hb hby at_92) rfl (feq hk1).2 (by decide) (by decide) k) ?_
        obtain ⟨T14, X14, e14, st14⟩ := getS2 X0 hx hZ hown (host := "") (Or.inl (hw _ (List.mem_of_getElem? (i := 21) rfl))) Via.refl e0 S2 (g := (mkF m 117 #[.val (.int p1), .val (.int p2), .val (.int p3), .val (.int ((p1 &&& (2147483647 : Int32)) % (3 : Int32))), .val (.int ng), .val (.int sm), .val (.double d), .second, .val (.long lv), .second, .unset, .unset] [])) rfl (hb hby at_117)
        refine own_go (A' := (T14.setTop (mkF m 120 #[.val (.int p1), .val (.int p2), .val (.int p3), .val (.int ((p1 &&& (2147483647 : Int32)) % (3 : Int32))), .val (.int ng), .val (.int sm), .val (.double d), .second, .val (.long lv), .second, .unset, .unset] [(.ref o2)]))) (fun _ k => st14 _ k) ?_
        refine own_go (A' := (T14.setTop (mkF m 122 #[.val (.int p1), .val (.int p2), .val (.int p3), .val (.int ((p1 &&& (2147483647 : Int32)) % (3 : Int32))), .val (.int ng), .val (.int sm), .val (.double d), .second, .val (.long lv), .second, .val (.ref o2), .unset] []))) (fun _ k => XS.astore X14.here hx rfl (hb hby at_120) rfl rfl (l' := #[.val (.int p1), .val (.int p2), .val (.int p3), .val (.int ((p1 &&& (2147483647 : Int32)) % (3 : Int32))), .val (.int ng), .val (.int sm), .val (.double d), .second, .val (.long lv), .second, .val (.ref o2), .unset]) rfl k) ?_
        refine own_go (A' := (T14.setTop (mkF m 124 #[.val (.int p1), .val (.int p2), .val (.int p3), .val (.int ((p1 &&& (2147483647 : Int32)) % (3 : Int32))), .val (.int ng), .val (.int sm), .val (.double d), .second, .val (.long lv), .second, .val (.ref o2), .unset] [(.long lv)]))) (fun _ k => XS.lload X14.here hx rfl (hb hby at_122) rfl k) ?_
        refine own_go (A' := (T14.setTop (mkF m 125 #[.val (.int p1), .val (.int p2), .val (.int p3), .val (.int ((p1 &&& (2147483647 : Int32)) % (3 : Int32))), .val (.int ng), .val (.int sm), .val (.double d), .second, .val (.long lv), .second, .val (.ref o2), .unset] [(.long (0 : Int64)), (.long lv)]))) (fun _ k => XS.lconst X14.here hx rfl (hb hby at_124) k) ?_
        refine own_go (A' := (T14.setTop (mkF m 126 #[.val (.int p1), .val (.int p2), .val (.int p3), .val (.int ((p1 &&& (2147483647 : Int32)) % (3 : Int32))), .val (.int ng), .val (.int sm), .val (.double d), .second, .val (.long lv), .second, .val (.ref o2), .unset] [(.int (lcmpW lv (0 : Int64)))]))) (fun _ k => XS.lcmp X14.here hx rfl (hb hby at_125) rfl k) ?_
        have q := own_l_gt lv 0
        by_cases hc : (0 : Int32) < (lcmpW lv (0 : Int64))
        · refine own_go (A' := (T14.setTop (mkF m 129 #[.val (.int p1), .val (.int p2), .val (.int p3), .val (.int ((p1 &&& (2147483647 : Int32)) % (3 : Int32))), .val (.int ng), .val (.int sm), .val (.double d), .second, .val (.long lv), .second, .val (.ref o2), .unset] []))) (fun _ k => XS.ifNo X14.here hx rfl (hb hby at_126) rfl ((if0 _ _).trans (tlt hc).2.2.2) k) ?_
          refine own_go (A' := (T14.setTop (mkF m 130 #[.val (.int p1), .val (.int p2), .val (.int p3), .val (.int ((p1 &&& (2147483647 : Int32)) % (3 : Int32))), .val (.int ng), .val (.int sm), .val (.double d), .second, .val (.long lv), .second, .val (.ref o2), .unset] [(.int (1 : Int32))]))) (fun _ k => XS.iconst X14.here hx rfl (hb hby at_129) k) ?_
          refine own_go (A' := (T14.setTop (mkF m 134 #[.val (.int p1), .val (.int p2), .val (.int p3), .val (.int ((p1 &&& (2147483647 : Int32)) % (3 : Int32))), .val (.int ng), .val (.int sm), .val (.double d), .second, .val (.long lv), .second, .val (.ref o2), .unset] [(.int (1 : Int32))]))) (fun _ k => XS.goto X14.here hx rfl (pc0 := 130) (pc' := 134) rfl (hb hby at_130) (by decide) (by decide) k) ?_
          refine own_go (A' := (T14.setTop (mkF m 136 #[.val (.int p1), .val (.int p2), .val (.int p3), .val (.int ((p1 &&& (2147483647 : Int32)) % (3 : Int32))), .val (.int ng), .val (.int sm), .val (.double d), .second, .val (.long lv), .second, .val (.ref o2), .val (.int (1 : Int32))] []))) (fun _ k => XS.istore X14.here hx rfl (hb hby at_134) rfl (l' := #[.val (.int p1), .val (.int p2), .val (.int p3), .val (.int ((p1 &&& (2147483647 : Int32)) % (3 : Int32))), .val (.int ng), .val (.int sm), .val (.double d), .second, .val (.long lv), .second, .val (.ref o2), .val (.int (1 : Int32))]) rfl k) ?_
          have h1 : 0 < lv.toInt := Int64.lt_iff_toInt_lt.mp (q.mp hc)
          exact J136 _ _ _ _ _ _ 2 _ _ _ X14 e14 (by decide) Hd E2 F2 (by simp [own_adm, h1])
        · refine own_go (A' := (T14.setTop (mkF m 133 #[.val (.int p1), .val (.int p2), .val (.int p3), .val (.int ((p1 &&& (2147483647 : Int32)) % (3 : Int32))), .val (.int ng), .val (.int sm), .val (.double d), .second, .val (.long lv), .second, .val (.ref o2), .unset] []))) (fun _ k => XS.ifYes X14.here hx rfl (pc0 := 126) (pc' := 133) rfl (hb hby at_126) rfl ((if0 _ _).trans (flt hc).2.2.2) (by decide) (by decide) k) ?_
          refine own_go (A' := (T14.setTop (mkF m 134 #[.val (.int p1), .val (.int p2), .val (.int p3), .val (.int ((p1 &&& (2147483647 : Int32)) % (3 : Int32))), .val (.int ng), .val (.int sm), .val (.double d), .second, .val (.long lv), .second, .val (.ref o2), .unset] [(.int (0 : Int32))]))) (fun _ k => XS.iconst X14.here hx rfl (hb hby at_133) k) ?_
          refine own_go (A' := (T14.setTop (mkF m 136 #[.val (.int p1), .val (.int p2), .val (.int p3), .val (.int ((p1 &&& (2147483647 : Int32)) % (3 : Int32))), .val (.int ng), .val (.int sm), .val (.double d), .second, .val (.long lv), .second, .val (.ref o2), .val (.int (0 : Int32))] []))) (fun _ k => XS.istore X14.here hx rfl (hb hby at_134) rfl (l' := #[.val (.int p1), .val (.int p2), .val (.int p3), .val (.int ((p1 &&& (2147483647 : Int32)) % (3 : Int32))), .val (.int ng), .val (.int sm), .val (.double d), .second, .val (.long lv), .second, .val (.ref o2), .val (.int (0 : Int32))]) rfl k) ?_
          have h1 : ¬ 0 < lv.toInt := fun r => hc (q.mpr (Int64.lt_iff_toInt_lt.mpr r))
          exact J136 _ _ _ _ _ _ 2 _ _ _ X14 e14 (by decide) Hd E2 F2 (by simp [own_adm, h1])
  have J50 : ∀ (ng sm : Int32) (d : UInt64) (k : Nat) (Hd : own_At k d p2.toInt), own_W p e below R (s₁.setTop (mkF m 50 #[.val (.int p1), .val (.int p2), .val (.int p3), .val (.int ((p1 &&& (2147483647 : Int32)) % (3 : Int32))), .val (.int ng), .val (.int sm), .val (.double d), .second, .unset, .unset, .unset, .unset] [])) := by
    intro ng sm d k Hd
    refine own_go (A' := (s₁.setTop (mkF m 52 #[.val (.int p1), .val (.int p2), .val (.int p3), .val (.int ((p1 &&& (2147483647 : Int32)) % (3 : Int32))), .val (.int ng), .val (.int sm), .val (.double d), .second, .unset, .unset, .unset, .unset] [(.int ng)]))) (fun _ k => XS.iload X0.here hx rfl (hb hby at_50) rfl k) ?_
    by_cases hn : ng = (0 : Int32)
    · refine own_go (A' := (s₁.setTop (mkF m 60 #[.val (.int p1), .val (.int p2), .val (.int p3), .val (.int ((p1 &&& (2147483647 : Int32)) % (3 : Int32))), .val (.int ng), .val (.int sm), .val (.double d), .second, .unset, .unset, .unset, .unset] []))) (fun _ k => XS.ifYes X0.here hx rfl (pc0 := 52) (pc' := 60) rfl (hb hby at_52) rfl ((if0 _ _).trans (teq hn).1) (by decide) (by decide) k) ?_
      refine own_go (A' := (s₁.setTop (mkF m 62 #[.val (.int p1), .val (.int p2), .val (.int p3), .val (.int ((p1 &&& (2147483647 : Int32)) % (3 : Int32))), .val (.int ng), .val (.int sm), .val (.double d), .second, .unset, .unset, .unset, .unset] [(.int ng)]))) (fun _ k => XS.iload X0.here hx rfl (hb hby at_60) rfl k) ?_
      refine own_go (A' := (s₁.setTop (mkF m 71 #[.val (.int p1), .val (.int p2), .val (.int p3), .val (.int ((p1 &&& (2147483647 : Int32)) % (3 : Int32))), .val (.int ng), .val (.int sm), .val (.double d), .second, .unset, .unset, .unset, .unset] []))) (fun _ k => XS.ifYes X0.here hx rfl (pc0 := 62) (pc' := 71) rfl (hb hby at_62) rfl ((if0 _ _).trans (teq hn).1) (by decide) (by decide) k) ?_
      refine own_go (A' := (s₁.setTop (mkF m 72 #[.val (.int p1), .val (.int p2), .val (.int p3), .val (.int ((p1 &&& (2147483647 : Int32)) % (3 : Int32))), .val (.int ng), .val (.int sm), .val (.double d), .second, .unset, .unset, .unset, .unset] [(.int p2)]))) (fun _ k => XS.iloadN X0.here hx rfl (hb hby at_71) rfl k) ?_
      refine own_go (A' := (s₁.setTop (mkF m 73 #[.val (.int p1), .val (.int p2), .val (.int p3), .val (.int ((p1 &&& (2147483647 : Int32)) % (3 : Int32))), .val (.int ng), .val (.int sm), .val (.double d), .second, .unset, .unset, .unset, .unset] [(.long (p2.toInt64))]))) (fun _ k => XS.i2l X0.here hx rfl (hb hby at_72) rfl k) ?_
      exact J73 _ _ _ _ k (Hd.cast (own_i2l p2).symm)
    · refine own_go (A' := (s₁.setTop (mkF m 55 #[.val (.int p1), .val (.int p2), .val (.int p3), .val (.int ((p1 &&& (2147483647 : Int32)) % (3 : Int32))), .val (.int ng), .val (.int sm), .val (.double d), .second, .unset, .unset, .unset, .unset] []))) (fun _ k => XS.ifNo X0.here hx rfl (hb hby at_52) rfl ((if0 _ _).trans (feq hn).1) k) ?_
      refine own_go (A' := (s₁.setTop (mkF m 57 #[.val (.int p1), .val (.int p2), .val (.int p3), .val (.int ((p1 &&& (2147483647 : Int32)) % (3 : Int32))), .val (.int ng), .val (.int sm), .val (.double d), .second, .unset, .unset, .unset, .unset] [(.double d)]))) (fun _ k => XS.dload X0.here hx rfl (hb hby at_55) rfl k) ?_
      refine own_go (A' := (s₁.setTop (mkF m 58 #[.val (.int p1), .val (.int p2), .val (.int p3), .val (.int ((p1 &&& (2147483647 : Int32)) % (3 : Int32))), .val (.int ng), .val (.int sm), .val (.double d), .second, .unset, .unset, .unset, .unset] [(.double (FP.dneg d))]))) (fun _ k => XS.dnegS X0.here hx rfl (hb hby at_57) rfl rfl k) ?_
      refine own_go (A' := (s₁.setTop (mkF m 60 #[.val (.int p1), .val (.int p2), .val (.int p3), .val (.int ((p1 &&& (2147483647 : Int32)) % (3 : Int32))), .val (.int ng), .val (.int sm), .val (.double (FP.dneg d)), .second, .unset, .unset, .unset, .unset] []))) (fun _ k => XS.dstore X0.here hx rfl (hb hby at_58) rfl (l' := #[.val (.int p1), .val (.int p2), .val (.int p3), .val (.int ((p1 &&& (2147483647 : Int32)) % (3 : Int32))), .val (.int ng), .val (.int sm), .val (.double (FP.dneg d)), .second, .unset, .unset, .unset, .unset]) rfl k) ?_
      refine own_go (A' := (s₁.setTop (mkF m 62 #[.val (.int p1), .val (.int p2), .val (.int p3), .val (.int ((p1 &&& (2147483647 : Int32)) % (3 : Int32))), .val (.int ng), .val (.int sm), .val (.double (FP.dneg d)), .second, .unset, .unset, .unset, .unset] [(.int ng)]))) (fun _ k => XS.iload X0.here hx rfl (hb hby at_60) rfl k) ?_
      refine own_go (A' := (s₁.setTop (mkF m 65 #[.val (.int p1), .val (.int p2), .val (.int p3), .val (.int ((p1 &&& (2147483647 : Int32)) % (3 : Int32))), .val (.int ng), .val (.int sm), .val (.double (FP.dneg d)), .second, .unset, .unset, .unset, .unset] []))) (fun _ k => XS.ifNo X0.here hx rfl (hb hby at_62) rfl ((if0 _ _).trans (feq hn).1) k) ?_
      refine own_go (A' := (s₁.setTop (mkF m 66 #[.val (.int p1), .val (.int p2), .val (.int p3), .val (.int ((p1 &&& (2147483647 : Int32)) % (3 : Int32))), .val (.int ng), .val (.int sm), .val (.double (FP.dneg d)), .second, .unset, .unset, .unset, .unset] [(.int p2)]))) (fun _ k => XS.iloadN X0.here hx rfl (hb hby at_65) rfl k) ?_
      refine own_go (A' := (s₁.setTop (mkF m 67 #[.val (.int p1), .val (.int p2), .val (.int p3), .val (.int ((p1 &&& (2147483647 : Int32)) % (3 : Int32))), .val (.int ng), .val (.int sm), .val (.double (FP.dneg d)), .second, .unset, .unset, .unset, .unset] [(.long (p2.toInt64))]))) (fun _ k => XS.i2l X0.here hx rfl (hb hby at_66) rfl k) ?_
      refine own_go (A' := (s₁.setTop (mkF m 68 #[.val (.int p1), .val (.int p2), .val (.int p3), .val (.int ((p1 &&& (2147483647 : Int32)) % (3 : Int32))), .val (.int ng), .val (.int sm), .val (.double (FP.dneg d)), .second, .unset, .unset, .unset, .unset] [(.long (-(p2.toInt64)))]))) (fun _ k => XS.lneg X0.here hx rfl (hb hby at_67) rfl k) ?_
      refine own_go (A' := (s₁.setTop (mkF m 73 #[.val (.int p1), .val (.int p2), .val (.int p3), .val (.int ((p1 &&& (2147483647 : Int32)) % (3 : Int32))), .val (.int ng), .val (.int sm), .val (.double (FP.dneg d)), .second, .unset, .unset, .unset, .unset] [(.long (-(p2.toInt64)))]))) (fun _ k => XS.goto X0.here hx rfl (pc0 := 68) (pc' := 73) rfl (hb hby at_68) (by decide) (by decide) k) ?_
      exact J73 _ _ _ _ k ((own_neg Hd).cast (own_neg64 p2).symm)
  have J33 : ∀ (ng sm : Int32), own_W p e below R (s₁.setTop (mkF m 33 #[.val (.int p1), .val (.int p2), .val (.int p3), .val (.int ((p1 &&& (2147483647 : Int32)) % (3 : Int32))), .val (.int ng), .val (.int sm), .unset, .unset, .unset, .unset, .unset, .unset] [])) := by
    intro ng sm
    refine own_go (A' := (s₁.setTop (mkF m 34 #[.val (.int p1), .val (.int p2), .val (.int p3), .val (.int ((p1 &&& (2147483647 : Int32)) % (3 : Int32))), .val (.int ng), .val (.int sm), .unset, .unset, .unset, .unset, .unset, .unset] [(.int p2)]))) (fun _ k => XS.iloadN X0.here hx rfl (hb hby at_33) rfl k) ?_
    refine own_go (A' := (s₁.setTop (mkF m 35 #[.val (.int p1), .val (.int p2), .val (.int p3), .val (.int ((p1 &&& (2147483647 : Int32)) % (3 : Int32))), .val (.int ng), .val (.int sm), .unset, .unset, .unset, .unset, .unset, .unset] [(.double (FP.i2d p2))]))) (fun _ k => XS.i2dS X0.here hx rfl (hb hby at_34) rfl rfl k) ?_
    refine own_go (A' := (s₁.setTop (mkF m 37 #[.val (.int p1), .val (.int p2), .val (.int p3), .val (.int ((p1 &&& (2147483647 : Int32)) % (3 : Int32))), .val (.int ng), .val (.int sm), .val (.double (FP.i2d p2)), .second, .unset, .unset, .unset, .unset] []))) (fun _ k => XS.dstore X0.here hx rfl (hb hby at_35) rfl (l' := #[.val (.int p1), .val (.int p2), .val (.int p3), .val (.int ((p1 &&& (2147483647 : Int32)) % (3 : Int32))), .val (.int ng), .val (.int sm), .val (.double (FP.i2d p2)), .second, .unset, .unset, .unset, .unset]) rfl k) ?_
    refine own_go (A' := (s₁.setTop (mkF m 39 #[.val (.int p1), .val (.int p2), .val (.int p3), .val (.int ((p1 &&& (2147483647 : Int32)) % (3 : Int32))), .val (.int ng), .val (.int sm), .val (.double (FP.i2d p2)), .second, .unset, .unset, .unset, .unset] [(.int sm)]))) (fun _ k => XS.iload X0.here hx rfl (hb hby at_37) rfl k) ?_
    by_cases hs : sm = (0 : Int32)
    · refine own_go (A' := (s₁.setTop (mkF m 50 #[.val (.int p1), .val (.int p2), .val (.int p3), .val (.int ((p1 &&& (2147483647 : Int32)) % (3 : Int32))), .val (.int ng), .val (.int sm), .val (.double (FP.i2d p2)), .second, .unset, .unset, .unset, .unset] []))) (fun _ k => XS.ifYes X0.here hx rfl (pc0 := 39) (pc' := 50) rfl (hb hby at_39) rfl ((if0 _ _).trans (teq hs).1) (by decide) (by decide) k) ?_
      exact J50 _ _ _ _ (own_i2d p2)
    · refine own_go (A' := (s₁.setTop (mkF m 42 #[.val (.int p1), .val (.int p2), .val (.int p3), .val (.int ((p1 &&& (2147483647 : Int32)) % (3 : Int32))), .val (.int ng), .val (.int sm), .val (.double (FP.i2d p2)), .second, .unset, .unset, .unset, .unset] []))) (fun _ k => XS.ifNo X0.here hx rfl (hb hby at_39) rfl ((if0 _ _).trans (feq hs).1) k) ?_
      refine own_go (A' := (s₁.setTop (mkF m 44 #[.val (.int p1), .val (.int p2), .val (.int p3), .val (.int ((p1 &&& (2147483647 : Int32)) % (3 : Int32))), .val (.int ng), .val (.int sm), .val (.double (FP.i2d p2)), .second, .unset, .unset, .unset, .unset] [(.double (FP.i2d p2))]))) (fun _ k => XS.dload X0.here hx rfl (hb hby at_42) rfl k) ?_
      refine own_go (A' := (s₁.setTop (mkF m 47 #[.val (.int p1), .val (.int p2), .val (.int p3), .val (.int ((p1 &&& (2147483647 : Int32)) % (3 : Int32))), .val (.int ng), .val (.int sm), .val (.double (FP.i2d p2)), .second, .unset, .unset, .unset, .unset] [(.double (4652218415073722368 : UInt64)), (.double (FP.i2d p2))]))) (fun _ k => X0.ldc2DoubleC hx hown (mvT hZ (hw _ (List.mem_of_getElem? (i := 1) rfl))) (g := (mkF m 44 #[.val (.int p1), .val (.int p2), .val (.int p3), .val (.int ((p1 &&& (2147483647 : Int32)) % (3 : Int32))), .val (.int ng), .val (.int sm), .val (.double (FP.i2d p2)), .second, .unset, .unset, .unset, .unset] [(.double (FP.i2d p2))])) rfl (hb hby at_44) _ k) ?_
      refine own_go (A' := (s₁.setTop (mkF m 48 #[.val (.int p1), .val (.int p2), .val (.int p3), .val (.int ((p1 &&& (2147483647 : Int32)) % (3 : Int32))), .val (.int ng), .val (.int sm), .val (.double (FP.i2d p2)), .second, .unset, .unset, .unset, .unset] [(.double (FP.ddiv (FP.i2d p2) (4652218415073722368 : UInt64)))]))) (fun _ k => XS.ddivS X0.here hx rfl (hb hby at_47) rfl (own_x1024 p2).nn rfl k) ?_
      refine own_go (A' := (s₁.setTop (mkF m 50 #[.val (.int p1), .val (.int p2), .val (.int p3), .val (.int ((p1 &&& (2147483647 : Int32)) % (3 : Int32))), .val (.int ng), .val (.int sm), .val (.double (FP.ddiv (FP.i2d p2) (4652218415073722368 : UInt64))), .second, .unset, .unset, .unset, .unset] []))) (fun _ k => XS.dstore X0.here hx rfl (hb hby at_48) rfl (l' := #[.val (.int p1), .val (.int p2), .val (.int p3), .val (.int ((p1 &&& (2147483647 : Int32)) % (3 : Int32))), .val (.int ng), .val (.int sm), .val (.double (FP.ddiv (FP.i2d p2) (4652218415073722368 : UInt64))), .second, .unset, .unset, .unset, .unset]) rfl k) ?_
      exact J50 _ _ _ _ (own_x1024 p2)
  by_cases hm1 : (p3 &&& (1 : Int32)) = (0 : Int32)
  · refine own_go (A' := (s₁.setTop (mkF m 17 #[.val (.int p1), .val (.int p2), .val (.int p3), .val (.int ((p1 &&& (2147483647 : Int32)) % (3 : Int32))), .unset, .unset, .unset, .unset, .unset, .unset, .unset, .unset] []))) (fun _ k => XS.ifYes X0.here hx rfl (pc0 := 10) (pc' := 17) rfl (hb hby at_10) rfl ((if0 _ _).trans (teq hm1).1) (by decide) (by decide) k) ?_
    refine own_go (A' := (s₁.setTop (mkF m 18 #[.val (.int p1), .val (.int p2), .val (.int p3), .val (.int ((p1 &&& (2147483647 : Int32)) % (3 : Int32))), .unset, .unset, .unset, .unset, .unset, .unset, .unset, .unset] [(.int (0 : Int32))]))) (fun _ k => XS.iconst X0.here hx rfl (hb hby at_17) k) ?_
    refine own_go (A' := (s₁.setTop (mkF m 20 #[.val (.int p1), .val (.int p2), .val (.int p3), .val (.int ((p1 &&& (2147483647 : Int32)) % (3 : Int32))), .val (.int (0 : Int32)), .unset, .unset, .unset, .unset, .unset, .unset, .unset] []))) (fun _ k => XS.istore X0.here hx rfl (hb hby at_18) rfl (l' := #[.val (.int p1), .val (.int p2), .val (.int p3), .val (.int ((p1 &&& (2147483647 : Int32)) % (3 : Int32))), .val (.int (0 : Int32)), .unset, .unset, .unset, .unset, .unset, .unset, .unset]) rfl k) ?_
    refine own_go (A' := (s₁.setTop (mkF m 21 #[.val (.int p1), .val (.int p2), .val (.int p3), .val (.int ((p1 &&& (2147483647 : Int32)) % (3 : Int32))), .val (.int (0 : Int32)), .unset, .unset, .unset, .unset, .unset, .unset, .unset] [(.int p3)]))) (fun _ k => XS.iloadN X0.here hx rfl (hb hby at_20) rfl k) ?_
    refine own_go (A' := (s₁.setTop (mkF m 22 #[.val (.int p1), .val (.int p2), .val (.int p3), .val (.int ((p1 &&& (2147483647 : Int32)) % (3 : Int32))), .val (.int (0 : Int32)), .unset, .unset, .unset, .unset, .unset, .unset, .unset] [(.int (2 : Int32)), (.int p3)]))) (fun _ k => XS.iconst X0.here hx rfl (hb hby at_21) k) ?_
    refine own_go (A' := (s₁.setTop (mkF m 23 #[.val (.int p1), .val (.int p2), .val (.int p3), .val (.int ((p1 &&& (2147483647 : Int32)) % (3 : Int32))), .val (.int (0 : Int32)), .unset, .unset, .unset, .unset, .unset, .unset, .unset] [(.int (p3 &&& (2 : Int32)))]))) (fun _ k => XS.iand X0.here hx rfl (hb hby at_22) rfl k) ?_
    by_cases hm2 : (p3 &&& (2 : Int32)) = (0 : Int32)
    · refine own_go (A' := (s₁.setTop (mkF m 30 #[.val (.int p1), .val (.int p2), .val (.int p3), .val (.int ((p1 &&& (2147483647 : Int32)) % (3 : Int32))), .val (.int (0 : Int32)), .unset, .unset, .unset, .unset, .unset, .unset, .unset] []))) (fun _ k => XS.ifYes X0.here hx rfl (pc0 := 23) (pc' := 30) rfl (hb hby at_23) rfl ((if0 _ _).trans (teq hm2).1) (by decide) (by decide) k) ?_
      refine own_go (A' := (s₁.setTop (mkF m 31 #[.val (.int p1), .val (.int p2), .val (.int p3), .val (.int ((p1 &&& (2147483647 : Int32)) % (3 : Int32))), .val (.int (0 : Int32)), .unset, .unset, .unset, .unset, .unset, .unset, .unset] [(.int (0 : Int32))]))) (fun _ k => XS.iconst X0.here hx rfl (hb hby at_30) k) ?_
      refine own_go (A' := (s₁.setTop (mkF m 33 #[.val (.int p1), .val (.int p2), .val (.int p3), .val (.int ((p1 &&& (2147483647 : Int32)) % (3 : Int32))), .val (.int (0 : Int32)), .val (.int (0 : Int32)), .unset, .unset, .unset, .unset, .unset, .unset] []))) (fun _ k => XS.istore X0.here hx rfl (hb hby at_31) rfl (l' := #[.val (.int p1), .val (.int p2), .val (.int p3), .val (.int ((p1 &&& (2147483647 : Int32)) % (3 : Int32))), .val (.int (0 : Int32)), .val (.int (0 : Int32)), .unset, .unset, .unset, .unset, .unset, .unset]) rfl k) ?_
      exact J33 _ _
    · refine own_go (A' := (s₁.setTop (mkF m 26 #[.val (.int p1), .val (.int p2), .val (.int p3), .val (.int ((p1 &&& (2147483647 : Int32)) % (3 : Int32))), .val (.int (0 : Int32)), .unset, .unset, .unset, .unset, .unset, .unset, .unset] []))) (fun _ k => XS.ifNo X0.here hx rfl (hb hby at_23) rfl ((if0 _ _).trans (feq hm2).1) k) ?_
      refine own_go (A' := (s₁.setTop (mkF m 27 #[.val (.int p1), .val (.int p2), .val (.int p3), .val (.int ((p1 &&& (2147483647 : Int32)) % (3 : Int32))), .val (.int (0 : Int32)), .unset, .unset, .unset, .unset, .unset, .unset, .unset] [(.int (1 : Int32))]))) (fun _ k => XS.iconst X0.here hx rfl (hb hby at_26) k) ?_
      refine own_go (A' := (s₁.setTop (mkF m 31 #[.val (.int p1), .val (.int p2), .val (.int p3), .val (.int ((p1 &&& (2147483647 : Int32)) % (3 : Int32))), .val (.int (0 : Int32)), .unset, .unset, .unset, .unset, .unset, .unset, .unset] [(.int (1 : Int32))]))) (fun _ k => XS.goto X0.here hx rfl (pc0 := 27) (pc' := 31) rfl (hb hby at_27) (by decide) (by decide) k) ?_
      refine own_go (A' := (s₁.setTop (mkF m 33 #[.val (.int p1), .val (.int p2), .val (.int p3), .val (.int ((p1 &&& (2147483647 : Int32)) % (3 : Int32))), .val (.int (0 : Int32)), .val (.int (1 : Int32)), .unset, .unset, .unset, .unset, .unset, .unset] []))) (fun _ k => XS.istore X0.here hx rfl (hb hby at_31) rfl (l' := #[.val (.int p1), .val (.int p2), .val (.int p3), .val (.int ((p1 &&& (2147483647 : Int32)) % (3 : Int32))), .val (.int (0 : Int32)), .val (.int (1 : Int32)), .unset, .unset, .unset, .unset, .unset, .unset]) rfl k) ?_
      exact J33 _ _
  · refine own_go (A' := (s₁.setTop (mkF m 13 #[.val (.int p1), .val (.int p2), .val (.int p3), .val (.int ((p1 &&& (2147483647 : Int32)) % (3 : Int32))), .unset, .unset, .unset, .unset, .unset, .unset, .unset, .unset] []))) (fun _ k => XS.ifNo X0.here hx rfl (hb hby at_10) rfl ((if0 _ _).trans (feq hm1).1) k) ?_
    refine own_go (A' := (s₁.setTop (mkF m 14 #[.val (.int p1), .val (.int p2), .val (.int p3), .val (.int ((p1 &&& (2147483647 : Int32)) % (3 : Int32))), .unset, .unset, .unset, .unset, .unset, .unset, .unset, .unset] [(.int (1 : Int32))]))) (fun _ k => XS.iconst X0.here hx rfl (hb hby at_13) k) ?_
    refine own_go (A' := (s₁.setTop (mkF m 18 #[.val (.int p1), .val (.int p2), .val (.int p3), .val (.int ((p1 &&& (2147483647 : Int32)) % (3 : Int32))), .unset, .unset, .unset, .unset, .unset, .unset, .unset, .unset] [(.int (1 : Int32))]))) (fun _ k => XS.goto X0.here hx rfl (pc0 := 14) (pc' := 18) rfl (hb hby at_14) (by decide) (by decide) k) ?_
    refine own_go (A' := (s₁.setTop (mkF m 20 #[.val (.int p1), .val (.int p2), .val (.int p3), .val (.int ((p1 &&& (2147483647 : Int32)) % (3 : Int32))), .val (.int (1 : Int32)), .unset, .unset, .unset, .unset, .unset, .unset, .unset] []))) (fun _ k => XS.istore X0.here hx rfl (hb hby at_18) rfl (l' := #[.val (.int p1), .val (.int p2), .val (.int p3), .val (.int ((p1 &&& (2147483647 : Int32)) % (3 : Int32))), .val (.int (1 : Int32)), .unset, .unset, .unset, .unset, .unset, .unset, .unset]) rfl k) ?_
    refine own_go (A' := (s₁.setTop (mkF m 21 #[.val (.int p1), .val (.int p2), .val (.int p3), .val (.int ((p1 &&& (2147483647 : Int32)) % (3 : Int32))), .val (.int (1 : Int32)), .unset, .unset, .unset, .unset, .unset, .unset, .unset] [(.int p3)]))) (fun _ k => XS.iloadN X0.here hx rfl (hb hby at_20) rfl k) ?_
    refine own_go (A' := (s₁.setTop (mkF m 22 #[.val (.int p1), .val (.int p2), .val (.int p3), .val (.int ((p1 &&& (2147483647 : Int32)) % (3 : Int32))), .val (.int (1 : Int32)), .unset, .unset, .unset, .unset, .unset, .unset, .unset] [(.int (2 : Int32)), (.int p3)]))) (fun _ k => XS.iconst X0.here hx rfl (hb hby at_21) k) ?_
    refine own_go (A' := (s₁.setTop (mkF m 23 #[.val (.int p1), .val (.int p2), .val (.int p3), .val (.int ((p1 &&& (2147483647 : Int32)) % (3 : Int32))), .val (.int (1 : Int32)), .unset, .unset, .unset, .unset, .unset, .unset, .unset] [(.int (p3 &&& (2 : Int32)))]))) (fun _ k => XS.iand X0.here hx rfl (hb hby at_22) rfl k) ?_
    by_cases hm2 : (p3 &&& (2 : Int32)) = (0 : Int32)
    · refine own_go (A' := (s₁.setTop (mkF m 30 #[.val (.int p1), .val (.int p2), .val (.int p3), .val (.int ((p1 &&& (2147483647 : Int32)) % (3 : Int32))), .val (.int (1 : Int32)), .unset, .unset, .unset, .unset, .unset, .unset, .unset] []))) (fun _ k => XS.ifYes X0.here hx rfl (pc0 := 23) (pc' := 30) rfl (hb hby at_23) rfl ((if0 _ _).trans (teq hm2).1) (by decide) (by decide) k) ?_
      refine own_go (A' := (s₁.setTop (mkF m 31 #[.val (.int p1), .val (.int p2), .val (.int p3), .val (.int ((p1 &&& (2147483647 : Int32)) % (3 : Int32))), .val (.int (1 : Int32)), .unset, .unset, .unset, .unset, .unset, .unset, .unset] [(.int (0 : Int32))]))) (fun _ k => XS.iconst X0.here hx rfl (hb hby at_30) k) ?_
      refine own_go (A' := (s₁.setTop (mkF m 33 #[.val (.int p1), .val (.int p2), .val (.int p3), .val (.int ((p1 &&& (2147483647 : Int32)) % (3 : Int32))), .val (.int (1 : Int32)), .val (.int (0 : Int32)), .unset, .unset, .unset, .unset, .unset, .unset] []))) (fun _ k => XS.istore X0.here hx rfl (hb hby at_31) rfl (l' := #[.val (.int p1), .val (.int p2), .val (.int p3), .val (.int ((p1 &&& (2147483647 : Int32)) % (3 : Int32))), .val (.int (1 : Int32)), .val (.int (0 : Int32)), .unset, .unset, .unset, .unset, .unset, .unset]) rfl k) ?_
      exact J33 _ _
    · refine own_go (A' := (s₁.setTop (mkF m 26 #[.val (.int p1), .val (.int p2), .val (.int p3), .val (.int ((p1 &&& (2147483647 : Int32)) % (3 : Int32))), .val (.int (1 : Int32)), .unset, .unset, .unset, .unset, .unset, .unset, .unset] []))) (fun _ k => XS.ifNo X0.here hx rfl (hb hby at_23) rfl ((if0 _ _).trans (feq hm2).1) k) ?_
      refine own_go (A' := (s₁.setTop (mkF m 27 #[.val (.int p1), .val (.int p2), .val (.int p3), .val (.int ((p1 &&& (2147483647 : Int32)) % (3 : Int32))), .val (.int (1 : Int32)), .unset, .unset, .unset, .unset, .unset, .unset, .unset] [(.int (1 : Int32))]))) (fun _ k => XS.iconst X0.here hx rfl (hb hby at_26) k) ?_
      refine own_go (A' := (s₁.setTop (mkF m 31 #[.val (.int p1), .val (.int p2), .val (.int p3), .val (.int ((p1 &&& (2147483647 : Int32)) % (3 : Int32))), .val (.int (1 : Int32)), .unset, .unset, .unset, .unset, .unset, .unset, .unset] [(.int (1 : Int32))]))) (fun _ k => XS.goto X0.here hx rfl (pc0 := 27) (pc' := 31) rfl (hb hby at_27) (by decide) (by decide) k) ?_
      refine own_go (A' := (s₁.setTop (mkF m 33 #[.val (.int p1), .val (.int p2), .val (.int p3), .val (.int ((p1 &&& (2147483647 : Int32)) % (3 : Int32))), .val (.int (1 : Int32)), .val (.int (1 : Int32)), .unset, .unset, .unset, .unset, .unset, .unset] []))) (fun _ k => XS.istore X0.here hx rfl (hb hby at_31) rfl (l' := #[.val (.int p1), .val (.int p2), .val (.int p3), .val (.int ((p1 &&& (2147483647 : Int32)) % (3 : Int32))), .val (.int (1 : Int32)), .val (.int (1 : Int32)), .unset, .unset, .unset, .unset, .unset, .unset]) rfl k) ?_
      exact J33 _ _
theorem own_field {args : Array Value} {s : State} {t : Term} {o : Addr} {k : Int32} {C n d : String} (ev : t.eval args s none [] s = some (.ref o)) (h : (Jvm.Cond.eq (Jvm.Term.field t C n d) (Jvm.Term.int k)).value args s none s [] = some true) : s.fieldOf? o C n d = some (.int k) := by
  simp only [Cond.value, Term.eval, ev] at h
  cases hf : s.fieldOf? o C n d with
  | none => simp [hf] at h
  | some v =>
    cases v <;> simp [hf] at h
    rw [h]
set_option maxRecDepth 65536 in
set_option maxHeartbeats 40000000 in
theorem own_comes {Post : Tables → Env → Array Value → State → Outcome → State → Prop} (hpost : ∀ tb e args s v u, (limb_1_1.after args s (.returned v) u = true ∧ limb_1_2.after args s (.returned v) u = true ∧ True) → FrameEnd s (.returned v) u (Jvm.fieldLocs frame_1_writes args s ++ Jvm.arrayLocs frame_1_arrays args s ++ Jvm.staticLocs frame_1_statics s) 0 0 → Post tb e args s (.returned v) u) :
    ArmFor flags0 classFile x code maxLocals ret World_1 tables_1 room_1 Calls_1 rest_1 Pre_1 Post := by
  intro l hfl _ _ p e ha hc hk s m args below hf hA hF happ hP
  obtain ⟨hcalls, hrest, hpre⟩ := hP
  obtain ⟨-, -, -, hnamed, -, -, -, hat⟩ := (Spec.applies_iff hf).mp happ
  obtain ⟨hg, hn⟩ := and_e (Cond.before_iff.mp (show (Jvm.Cond.and given_1 narrow_1).before args s = true from hpre))
  obtain ⟨g1, g2⟩ := and_e hg
  obtain ⟨g3, g4⟩ := and_e g2
  obtain ⟨g5, g6⟩ := and_e g4
  obtain ⟨w0, w1, w2, rfl⟩ : ∃ w0 w1 w2 : Value, args = #[w0, w1, w2] := by
    have hs : args.size = 3 := by simpa [Cond.value, given_1] using g1
    obtain ⟨L⟩ := args
    match L, hs with
    | [w0, w1, w2], _ => exact ⟨w0, w1, w2, rfl⟩
  have hw := fun d (hd : d ∈ tables_1) => atoms_spec (ws := Jvm.Cond.code x code maxLocals ret :: tables_1) hat d (List.mem_cons_of_mem _ hd)
  have hfit : Fit s := fun {y c} hc i hi => by
    obtain ⟨ha, rfl⟩ := Array.getElem?_eq_some_iff.mp hc
    have q := List.all_eq_true.mp ((Array.all_eq_true_iff_forall_mem.mp hF) _ (Array.getElem_mem ha)) i (List.mem_range.mpr hi)
    simpa [Array.getElem?_eq_getElem hi] using q
  obtain ⟨i0, ei0⟩ := is_v g3
  obtain rfl : w0 = (.int i0) := Option.some.inj ei0
  obtain ⟨i1, ei1⟩ := is_v g5
  obtain rfl : w1 = (.int i1) := Option.some.inj ei1
  obtain ⟨i2, ei2⟩ := is_v g6
  obtain rfl : w2 = (.int i2) := Option.some.inj ei2
  obtain ⟨nx0, hn⟩ := and_e hn
  obtain ⟨nf0, hn⟩ := and_e hn
  obtain ⟨o0, _, _, _, ev0, -⟩ := Cond.exactly_spec (Cond.before_iff.mpr nx0)
  have E0 := Exa.start ev0 nx0
  have S0 : Sta s s.heap "com/example/clearinghouse/clearinghouse/io/NamedRows$Sign" "ANY" "Lcom/example/clearinghouse/clearinghouse/io/NamedRows$Sign;" (.ref o0) := Sta.start ev0 (Or.inr ⟨(hw _ (List.mem_of_getElem? (i := 3) rfl)), (hw _ (List.mem_of_getElem? (i := 4) rfl))⟩)
  have F0 : Fld s s.heap o0 "java/lang/Enum" "ordinal" "I" (.int 0) := Fld.start (own_field ev0 nf0)
  obtain ⟨nx1, hn⟩ := and_e hn
  obtain ⟨nf1, hn⟩ := and_e hn
  obtain ⟨o1, _, _, _, ev1, -⟩ := Cond.exactly_spec (Cond.before_iff.mpr nx1)
  have E1 := Exa.start ev1 nx1
  have S1 : Sta s s.heap "com/example/clearinghouse/clearinghouse/io/NamedRows$Sign" "NOT_NEGATIVE" "Lcom/example/clearinghouse/clearinghouse/io/NamedRows$Sign;" (.ref o1) := Sta.start ev1 (Or.inr ⟨(hw _ (List.mem_of_getElem? (i := 3) rfl)), (hw _ (List.mem_of_getElem? (i := 20) rfl))⟩)
  have F1 : Fld s s.heap o1 "java/lang/Enum" "ordinal" "I" (.int 1) := Fld.start (own_field ev1 nf1)
  obtain ⟨nx2, hn⟩ := and_e hn
  have nf2 := hn
  obtain ⟨o2, _, _, _, ev2, -⟩ := Cond.exactly_spec (Cond.before_iff.mpr nx2)
  have E2 := Exa.start ev2 nx2
  have S2 : Sta s s.heap "com/example/clearinghouse/clearinghouse/io/NamedRows$Sign" "POSITIVE" "Lcom/example/clearinghouse/clearinghouse/io/NamedRows$Sign;" (.ref o2) := Sta.start ev2 (Or.inr ⟨(hw _ (List.mem_of_getElem? (i := 3) rfl)), (hw _ (List.mem_of_getElem? (i := 22) rfl))⟩)
  have F2 : Fld s s.heap o2 "java/lang/Enum" "ordinal" "I" (.int 2) := Fld.start (own_field ev2 nf2)
  obtain ⟨n, o, h1, h2, h3, _, L, rfl, ⟨rfl, N⟩, hq⟩ := own_rm0 l s _ hw tables_1 i0 i1 i2 o0 o1 o2  s.heap s.heap.size (Nat.le_refl _)  S0 E0 F0 S1 E1 F1 S2 E2 F2 p e ha hc hk s m _ below hf ((Spec.applies_iff_loose hf).mp happ).1 ⟨rfl, State.Warmed39.refl s, rfl⟩ trivial
  refine ⟨n, _, h1, h2, h3, hpost _ _ _ _ _ _ ⟨Cond.after_iff.mpr rfl, Cond.after_iff.mpr (eq_i res_at (Term.int_eval (1)) rfl), trivial⟩ ⟨hq.1, hq.2.1, (hq.2.2.sift fun y hy => Or.inr (N y hy)).mono (by decide) (by decide)⟩⟩
theorem main_1_1 : Claimed_1_1 := own_comes fun _ _ _ _ _ _ h hF => ⟨h.1, hF⟩
theorem main_1_2 : Claimed_1_2 := own_comes fun _ _ _ _ _ _ h hF => ⟨h.2.1, hF⟩
end Jvm.Pilot.@@N@@
namespace Jvm.Pilot.@@N@@
open Jvm Jvm.ClassFile Sem Op Lib Jvm.Free Jvm.Stand Jvm.Pilot.@@N@@.Jvm.D
/-! MADE BY PROGRAM (witnessworld.py) out of the Statement's table words and the real class files: 12 classes; the members and pool entries that the words name. The judged class is class 1, her method 1. -/
namespace start1
open Jvm.ClassFile
def u (s : String) : CpInfo := .utf8 (stringToUtf16 s)
/-- a pool by its gaps: so many unusable entries, then the entry; so many at the end -/
def gap : Nat → List CpInfo → List CpInfo
  | 0, r => r
  | n + 1, r => .unusable :: gap n r
def poolList (es : List (Nat × CpInfo)) (last : Nat) : List CpInfo := es.foldr (fun e r => gap e.1 (e.2 :: r)) (gap last [])
def pool (es : List (Nat × CpInfo)) (last : Nat) : Array CpInfo := ⟨poolList es last⟩
def fileOf (pool : Array CpInfo) (this : Nat) (attrs : Array Attribute := #[]) (ms : Array MethodInfo := #[]) (fl : Nat := 33) (sup : Nat := 0) (ifs : Array Nat := #[]) (fds : Array FieldInfo := #[]) : ClassFile where
  minorVersion := 0
  majorVersion := 65
  constantPool := pool
  accessFlags := fl
  thisClass := this
  superClass := sup
  interfaces := ifs
  fields := fds
  methods := ms
  attributes := attrs
def plain (name : String) (sup : Option ClassId) : Class where
  name := name
  kind := .ordinary
  loader := none
  accessFlags := 33
  super := sup
  interfaces := #[]
  cf := none
  fields := #[]
  methods := #[]
  instanceTypes := #[]
  staticTypes := #[]
  resolved := #[]
  callSites := []
  init := .initialized
  statics := none
  mirror := none

def pool0 : Array CpInfo := pool [(5, u "<init>"), (0, u "()V"), (1, .class_ 10), (1, u "java/lang/Object")] 113

def k0m0 : Method := { name := "<init>", desc := "()V", sig := { parameters := [], returnType := none }, accessFlags := 1, code := none }
/-- java/lang/Object -/
def k0 : Class := { plain "java/lang/Object" none with
  accessFlags := 33
  interfaces := #[]
  cf := some (fileOf pool0 8 #[] #[{ accessFlags := 1, nameIndex := 5, descriptorIndex := 6, attributes := #[] }] 33 0 #[] #[])
  fields := #[]
  methods := #[k0m0]
  instanceTypes := #[]
  staticTypes := #[]
  resolved := Array.replicate 124 none
  statics := none }

def pool1 : Array CpInfo := pool [(2, .class_ 4), (1, u "java/lang/Object"), (0, u "<init>"), (0, u "()V"), (0, .integer 2147483647), (0, .double 4652218415073722368), (1, .fieldref 11 12), (0, .class_ 13), (0, .nameAndType 14 15), (0, u "com/example/clearinghouse/clearinghouse/io/NamedRows$Sign"), (0, u "ANY"), (0, u "Lcom/example/clearinghouse/clearinghouse/io/NamedRows$Sign;"), (0, .fieldref 11 17), (0, .nameAndType 18 15), (0, u "NOT_NEGATIVE"), (0, .fieldref 11 20), (0, .nameAndType 21 15), (0, u "POSITIVE"), (0, .methodref 11 23), (0, .nameAndType 24 25), (0, u "admits"), (0, u "(D)Z"), (0, .class_ 27), (0, u "com/example/clearinghouse/clearinghouse/io/SignAdmitsPinLaw"), (2, u "law"), (0, u "(III)Z")] 7

def k1m0 : Method := { name := "<init>", desc := "()V", sig := { parameters := [], returnType := none }, accessFlags := 1, code := none }
def k1c1 : Code := { maxStack := 4, maxLocals := 12, code := code, exceptionTable := #[], attributes := #[] }
def k1m1 : Method := { name := "law", desc := "(III)Z", sig := { parameters := [.int, .int, .int], returnType := some .boolean }, accessFlags := 9, code := some k1c1 }
/-- com/example/clearinghouse/clearinghouse/io/SignAdmitsPinLaw -/
def k1 : Class := { plain "com/example/clearinghouse/clearinghouse/io/SignAdmitsPinLaw" (some 0) with
  accessFlags := 49
  interfaces := #[]
  cf := some (fileOf pool1 26 #[] #[{ accessFlags := 1, nameIndex := 5, descriptorIndex := 6, attributes := #[] }, { accessFlags := 9, nameIndex := 30, descriptorIndex := 31, attributes := #[] }] 49 2 #[] #[])
  fields := #[]
  methods := #[k1m0, k1m1]
  instanceTypes := #[]
  staticTypes := #[]
  resolved := Array.replicate 39 none
  statics := none }

def pool2 : Array CpInfo := pool [(1, .class_ 2), (0, u "java/lang/constant/Constable"), (0, .class_ 4), (0, u "java/lang/Object")] 6

/-- java/lang/constant/Constable -/
def k2 : Class := { plain "java/lang/constant/Constable" (some 0) with
  accessFlags := 1537
  interfaces := #[]
  cf := some (fileOf pool2 1 #[] #[] 1537 3 #[] #[])
  fields := #[]
  methods := #[]
  instanceTypes := #[]
  staticTypes := #[]
  resolved := Array.replicate 11 none
  statics := none }

def pool3 : Array CpInfo := pool [(1, .class_ 2), (0, u "java/lang/Comparable"), (0, .class_ 4), (0, u "java/lang/Object")] 7

/-- java/lang/Comparable -/
def k3 : Class := { plain "java/lang/Comparable" (some 0) with
  accessFlags := 1537
  interfaces := #[]
  cf := some (fileOf pool3 1 #[] #[] 1537 3 #[] #[])
  fields := #[]
  methods := #[]
  instanceTypes := #[]
  staticTypes := #[]
  resolved := Array.replicate 12 none
  statics := none }

def pool4 : Array CpInfo := pool [(1, .class_ 2), (0, u "java/io/Serializable"), (0, .class_ 4), (0, u "java/lang/Object")] 2

/-- java/io/Serializable -/
def k4 : Class := { plain "java/io/Serializable" (some 0) with
  accessFlags := 1537
  interfaces := #[]
  cf := some (fileOf pool4 1 #[] #[] 1537 3 #[] #[])
  fields := #[]
  methods := #[]
  instanceTypes := #[]
  staticTypes := #[]
  resolved := Array.replicate 7 none
  statics := none }

def pool5 : Array CpInfo := pool [(2, .class_ 4), (1, u "java/lang/Enum"), (0, u "name"), (0, u "Ljava/lang/String;"), (0, .fieldref 2 8), (0, .nameAndType 9 10), (0, u "ordinal"), (0, u "I"), (1, .class_ 14), (1, u "java/lang/Object"), (4, u "hash"), (86, .class_ 108), (1, u "java/lang/Enum$EnumDesc"), (2, .class_ 112), (0, u "java/lang/constant/Constable"), (0, .class_ 114), (0, u "java/lang/Comparable"), (0, .class_ 116), (0, u "java/io/Serializable"), (9, u "()I")] 77

def k5c0 : Code := { maxStack := 1, maxLocals := 1, code := jdk_37_method_2_code, exceptionTable := #[], attributes := #[] }
def k5m0 : Method := { name := "ordinal", desc := "()I", sig := { parameters := [], returnType := some .int }, accessFlags := 17, code := some k5c0 }
/-- java/lang/Enum -/
def k5 : Class := { plain "java/lang/Enum" (some 0) with
  accessFlags := 1057
  interfaces := #[2, 3, 4]
  cf := some (fileOf pool5 2 #[.nestMembers #[106]] #[{ accessFlags := 17, nameIndex := 9, descriptorIndex := 126, attributes := #[] }] 1057 12 #[111, 113, 115] #[{ accessFlags := 18, nameIndex := 5, descriptorIndex := 6, attributes := #[] }, { accessFlags := 18, nameIndex := 9, descriptorIndex := 10, attributes := #[] }, { accessFlags := 2, nameIndex := 19, descriptorIndex := 10, attributes := #[] }])
  fields := #[{ name := "name", type := (.object "java/lang/String"), accessFlags := 18, slot := 0, constantValue := 0 }, { name := "ordinal", type := .int, accessFlags := 18, slot := 1, constantValue := 0 }, { name := "hash", type := .int, accessFlags := 2, slot := 2, constantValue := 0 }]
  methods := #[k5m0]
  instanceTypes := #[(.object "java/lang/String"), .int, .int]
  staticTypes := #[]
  resolved := Array.replicate 204 none
  statics := none }

def pool6 : Array CpInfo := pool [(1, .class_ 2), (0, u "com/example/clearinghouse/clearinghouse/io/NamedRows$Sign"), (2, u "ANY"), (0, u "Lcom/example/clearinghouse/clearinghouse/io/NamedRows$Sign;"), (2, u "NOT_NEGATIVE"), (2, u "POSITIVE"), (2, u "$VALUES"), (0, u "[Lcom/example/clearinghouse/clearinghouse/io/NamedRows$Sign;"), (6, .class_ 25), (1, u "java/lang/Enum"), (8, u "complaint"), (0, u "Ljava/lang/String;"), (0, .methodref 1 37), (0, .nameAndType 38 39), (0, u "ordinal"), (0, u "()I"), (26, u "admits"), (0, u "(D)Z"), (7, .class_ 76), (0, u "com/example/clearinghouse/clearinghouse/io/NamedRows")] 2

def k6c0 : Code := { maxStack := 4, maxLocals := 3, code := prog_23_method_4_code, exceptionTable := #[], attributes := #[] }
def k6m0 : Method := { name := "admits", desc := "(D)Z", sig := { parameters := [.double], returnType := some .boolean }, accessFlags := 0, code := some k6c0 }
/-- com/example/clearinghouse/clearinghouse/io/NamedRows$Sign -/
def k6 : Class := { plain "com/example/clearinghouse/clearinghouse/io/NamedRows$Sign" (some 5) with
  accessFlags := 16432
  interfaces := #[]
  cf := some (fileOf pool6 1 #[.nestHost 75] #[{ accessFlags := 0, nameIndex := 66, descriptorIndex := 67, attributes := #[] }] 16432 23 #[] #[{ accessFlags := 16409, nameIndex := 5, descriptorIndex := 6, attributes := #[] }, { accessFlags := 16409, nameIndex := 9, descriptorIndex := 6, attributes := #[] }, { accessFlags := 16409, nameIndex := 12, descriptorIndex := 6, attributes := #[] }, { accessFlags := 18, nameIndex := 34, descriptorIndex := 35, attributes := #[] }, { accessFlags := 4122, nameIndex := 15, descriptorIndex := 16, attributes := #[] }])
  fields := #[{ name := "ANY", type := (.object "com/example/clearinghouse/clearinghouse/io/NamedRows$Sign"), accessFlags := 16409, slot := 0, constantValue := 0 }, { name := "NOT_NEGATIVE", type := (.object "com/example/clearinghouse/clearinghouse/io/NamedRows$Sign"), accessFlags := 16409, slot := 1, constantValue := 0 }, { name := "POSITIVE", type := (.object "com/example/clearinghouse/clearinghouse/io/NamedRows$Sign"), accessFlags := 16409, slot := 2, constantValue := 0 }, { name := "complaint", type := (.object "java/lang/String"), accessFlags := 18, slot := 3, constantValue := 0 }, { name := "$VALUES", type := (.array (.object "com/example/clearinghouse/clearinghouse/io/NamedRows$Sign")), accessFlags := 4122, slot := 3, constantValue := 0 }]
  methods := #[k6m0]
  instanceTypes := #[(.object "java/lang/String"), .int, .int, (.object "java/lang/String")]
  staticTypes := #[(.object "com/example/clearinghouse/clearinghouse/io/NamedRows$Sign"), (.object "com/example/clearinghouse/clearinghouse/io/NamedRows$Sign"), (.object "com/example/clearinghouse/clearinghouse/io/NamedRows$Sign"), (.array (.object "com/example/clearinghouse/clearinghouse/io/NamedRows$Sign"))]
  resolved := Array.replicate 79 none
  statics := some 0 }

def pool7 : Array CpInfo := pool [(1, u "java/lang/Cloneable"), (0, .class_ 1), (0, u "java/lang/Object"), (0, .class_ 3)] 3

/-- java/lang/Cloneable -/
def k7 : Class := { plain "java/lang/Cloneable" (some 0) with
  accessFlags := 1537
  interfaces := #[]
  cf := some (fileOf pool7 2 #[] #[] 1537 4 #[] #[])
  fields := #[]
  methods := #[]
  instanceTypes := #[]
  staticTypes := #[]
  resolved := Array.replicate 8 none
  statics := none }

/-- the primitive byte -/
def k8 : Class := { plain "byte" none with kind := .primitive 'B', accessFlags := 0x411 }
/-- [B -/
def k9 : Class := { plain "[B" (some 0) with kind := .array 8 .byte, interfaces := #[7, 4], accessFlags := 1041 }

/-- the primitive int -/
def k10 : Class := { plain "int" none with kind := .primitive 'I', accessFlags := 0x411 }
/-- [I -/
def k11 : Class := { plain "[I" (some 0) with kind := .array 10 .int, interfaces := #[7, 4], accessFlags := 1041 }

def heap : Heap := #[{ cls := 6, slots := #[.ref 1, .ref 2, .ref 3, .null], vm := .statics 6 },
  { cls := 6, slots := #[.null, .int 0, .int 0, .null], vm := .none },
  { cls := 6, slots := #[.null, .int 1, .int 0, .null], vm := .none },
  { cls := 6, slots := #[.null, .int 2, .int 0, .null], vm := .none }]
def classes : Array Class := #[k0, k1, k2, k3, k4, k5, k6, k7, k8, k9, k10, k11]
def interned : List (Array UInt16 × Addr) := []
def slotsUsed : Nat := 16
def theMethod : MethodId := ⟨1, 1⟩
def args0 : Array Value := #[.int 5, .int 6, .int 7]
def aboutOver (below : List Frame) : State where
  vm := { classes := classes, interned := interned.toArray }
  heap := heap
  slotsUsed := slotsUsed
  threads := #[{ frames := .invoking theMethod args0 :: below }]
def below0 : List Frame := [.native { method := ⟨0, 0⟩, args := #[] }]
def about1 : State := aboutOver below0
def p0 : Program := .bare "" "" ""
def e0 : Env := launch0.env 0 0 0
theorem w_frames : about1.frames = Frame.invoking theMethod args0 :: below0 := rfl
set_option maxRecDepth 65536 in
theorem w_args : argsFit about1.vm theMethod args0 = true := by decide +kernel
set_option maxRecDepth 65536 in
theorem w_heap : heapFits about1 = true := by decide +kernel
set_option maxRecDepth 65536 in
theorem w_runnable : about1.curStatus? = some .runnable := by decide +kernel
set_option maxRecDepth 65536 in
theorem w_alone : about1.alone = true := by decide +kernel
set_option maxRecDepth 65536 in
theorem w_named : about1.methodNamed? x = some theMethod := by decide +kernel
set_option maxRecDepth 65536 in
theorem w_hears : about1.hears theMethod below0 = true := by decide +kernel
set_option maxRecDepth 65536 in
theorem w_ripe : about1.ripe theMethod args0 below0 = true := by decide +kernel
theorem w_running : about1.status = .running := rfl
set_option maxRecDepth 65536 in
theorem w_room : about1.hasRoom e0.platform room_1 = true :=
  launch0.hasRoom_least _ room_1 (by decide +kernel) (by decide +kernel) (by decide +kernel) (by decide +kernel) (by decide +kernel) (by decide +kernel)
theorem allAtoms_all (ts : List Jvm.Cond) (a : Array Jvm.Value) (st : Jvm.State) : (allAtoms ts).before a st = ts.all (fun c => c.before a st) := by
  induction ts with
  | nil => rfl
  | cons c t ih =>
    show (Jvm.Cond.and c (allAtoms t)).before a st = _
    rw [Jvm.Cond.before_and, ih, List.all_cons]
def words1 : List Jvm.Cond := Jvm.Cond.code x code maxLocals ret :: tables_1
/-- a 'code' word, met by the world's own term for the bytes: nothing is compared byte by byte -/
theorem code_word {y : MethodName} {bytes : ByteArray} {mx : Nat} {rt : Option FieldType} {a : Array Value} {s : State} {m : MethodId} {meth : Method} {c : Code} (h1 : s.methodNamed? y = some m) (h2 : s.vm.method? m = some meth) (h3 : meth.code = some c) (h4 : c.code = bytes)
    (h5 : (c.maxLocals == mx && c.exceptionTable.isEmpty && decide (c.maxStack ≤ mostOperands) && decide (meth.sig.returnType = rt) && !meth.locks && decide (parseMethodDescriptor y.desc = some meth.sig)) = true) : (Jvm.Cond.code y bytes mx rt).before a s = true := by
  simp only [Bool.and_eq_true, beq_iff_eq, Bool.not_eq_true', decide_eq_true_eq] at h5
  obtain ⟨⟨⟨⟨⟨g1, g2⟩, g3⟩, g4⟩, g5⟩, g6⟩ := h5
  simp [Cond.before, Cond.holds, Cond.value, h1, h2, h3, h4, g1, g2, g3, g4, g5, g6]
def isCode : Jvm.Cond → Bool
  | .code _ _ _ _ => true
  | _ => false
theorem all_split {L : List Jvm.Cond} {P : Jvm.Cond → Bool} (h1 : L.all (fun c => isCode c || P c) = true) (h2 : ∀ c ∈ L.filter isCode, P c = true) : L.all P = true := by
  refine List.all_eq_true.mpr fun c hc => ?_
  have h := List.all_eq_true.mp h1 c hc
  rcases Bool.eq_false_or_eq_true (isCode c) with hi | hi
  · exact h2 c (List.mem_filter.mpr ⟨hc, hi⟩)
  · simpa [hi] using h
set_option maxRecDepth 65536 in
theorem w_c0 : (Jvm.Cond.code x code maxLocals ret).before args0 about1 = true := code_word (m := ⟨1, 1⟩) (meth := k1m1) (c := k1c1) (by decide +kernel) rfl rfl rfl (by decide +kernel)
set_option maxRecDepth 65536 in
theorem w_c1 : (Jvm.Cond.code ({ cls := "com/example/clearinghouse/clearinghouse/io/NamedRows$Sign", name := "admits", desc := "(D)Z" } : Jvm.MethodName) prog_23_method_4_code (3 : Nat) (Option.some Jvm.ClassFile.FieldType.boolean)).before args0 about1 = true := code_word (m := ⟨6, 0⟩) (meth := k6m0) (c := k6c0) (by decide +kernel) rfl rfl rfl (by decide +kernel)
set_option maxRecDepth 65536 in
theorem w_c2 : (Jvm.Cond.code ({ cls := "java/lang/Enum", name := "ordinal", desc := "()I" } : Jvm.MethodName) jdk_37_method_2_code (1 : Nat) (Option.some Jvm.ClassFile.FieldType.int)).before args0 about1 = true := code_word (m := ⟨5, 0⟩) (meth := k5m0) (c := k5c0) (by decide +kernel) rfl rfl rfl (by decide +kernel)
def codes1 : List Jvm.Cond := [Jvm.Cond.code x code maxLocals ret, Jvm.Cond.code ({ cls := "com/example/clearinghouse/clearinghouse/io/NamedRows$Sign", name := "admits", desc := "(D)Z" } : Jvm.MethodName) prog_23_method_4_code (3 : Nat) (Option.some Jvm.ClassFile.FieldType.boolean), Jvm.Cond.code ({ cls := "java/lang/Enum", name := "ordinal", desc := "()I" } : Jvm.MethodName) jdk_37_method_2_code (1 : Nat) (Option.some Jvm.ClassFile.FieldType.int)]
set_option maxRecDepth 65536 in
theorem codes_eq : words1.filter isCode = codes1 := rfl
theorem w_codes : ∀ c ∈ words1.filter isCode, c.before args0 about1 = true := by
  rw [codes_eq]
  intro c hc
  simp only [codes1, List.mem_cons, List.not_mem_nil, or_false] at hc
  rcases hc with rfl | rfl | rfl
  · exact w_c0
  · exact w_c1
  · exact w_c2
set_option maxRecDepth 65536 in
theorem w_t1 : words1.all (fun c => isCode c || c.before args0 about1) = true := by decide +kernel
theorem w_tables : (allAtoms (Jvm.Cond.code x code maxLocals ret :: tables_1)).before args0 about1 = true := by
  rw [allAtoms_all]
  show words1.all (fun c => c.before args0 about1) = true
  refine all_split ?_ w_codes
  rw [w_t1]
set_option maxRecDepth 65536 in
theorem w_case : (Jvm.Cond.and given_1 narrow_1).before args0 about1 = true := by decide +kernel
theorem w_applies : (headSpec (Jvm.Cond.code x code maxLocals ret :: tables_1) room_1).applies x e0.platform about1 = true :=
  (Spec.applies_iff w_frames).mpr ⟨w_running, w_runnable, w_alone, w_named, w_hears, w_ripe, w_room, w_tables⟩
theorem atStart : AtStart classFile x code maxLocals ret World_1 tables_1 room_1 Calls_1 rest_1 Pre_1 launch0 p0 e0 about1 theMethod args0 below0 :=
  ⟨lists_1, trivial, launch0.admits_env _ _ _, launch0.least_env, fairChoices_fair.cas, fairChoices_fair.clock, w_frames, w_args, w_heap, w_applies, trivial, trivial, w_case⟩
end start1
theorem witness_1 : WitnessClaimed_1 := ⟨start1.p0, start1.e0, start1.about1, start1.theMethod, start1.args0, start1.below0, start1.atStart⟩
end Jvm.Pilot.@@N@@
