import JvmDerived
import JvmDerived.Pilot.@@N@@Statement
import JvmDerived.Pilot.@@N@@Code
set_option linter.unusedVariables false
set_option linter.unusedSimpArgs false
namespace Jvm.RoadKit
open Sem ClassFile Op Lib Jvm.Stand Jvm.Free Jvm.LawKit
section New
variable {p : Program} {l : Launch} {e : Env} {R : Room} {s : State} {m : MethodId} {args : Array Value} {below : List Frame} {meth : Method} {c : Code} {T : State} {locs : List Loc} {cells slots : Nat}
theorem retI (X : Stand p l e R s m args below meth c T locs cells slots) (hx : p.tables.exec = Jvm.exec) {pc : Nat} {Ls : Array Slot} {z : Int32} {rest : List Value} (hret : meth.sig.returnType = some .int) (hd : decode c.code pc = .ok (.ireturn, 1)) {fs : List Frame}
    (hl : ∀ (f : JFrame) (acts : List Action), f.method = m → f.locked = none → f.entered = [] → (doReturn e (T.setTop f) acts (some (.int z))).1 = T.setFrames fs) : Steps p.tables e below (T.setTop (mkF m pc Ls (.int z :: rest))) (T.setFrames fs) :=
  retOut X hx (t := .int) hret rfl (Or.inl ⟨rfl, Or.inl rfl, _, rfl⟩) hd hl
end New
end Jvm.RoadKit
namespace Jvm.Pilot.@@N@@
open Jvm Jvm.ClassFile Sem Op Lib Jvm.Free Jvm.Stand Jvm.LawKit Jvm.RoadKit Bundle Jvm.Pilot.@@N@@.Jvm.D
/-! own layer 0: a goal that is walked forward -/
def own_W (p : Program) (e : Env) (below : List Frame) (R : State → Outcome → Prop) (A : State) : Prop := ∃ s₂ o, Steps p.tables e below A s₂ ∧ R s₂ o
theorem own_go {p : Program} {e : Env} {below : List Frame} {R : State → Outcome → Prop} {A A' : State} (h : ∀ t, Steps p.tables e below A' t → Steps p.tables e below A t) (k : own_W p e below R A') : own_W p e below R A := by
  obtain ⟨s₂, o, st, r⟩ := k
  exact ⟨s₂, o, h _ st, r⟩
theorem own_any {Z : State} {h : Heap} {a : Addr} {C O O' n n' d d' : String} {w : Value} {a0 : Array Value} {k : Nat} (F : Fld Z h a O n d w) (E : Exa Z h a C) (wi : (Cond.instantiable C k).before a0 Z = true) (L : Laid Z a0 C O' n' d') : ∃ w', Fld Z h a O' n' d' w' := by
  obtain ⟨cell, cf, kf, i, f, h1, h2, h3, h4, h5, h6, h7⟩ := F
  obtain ⟨cell', k', e1, e2, e3, e4, e5⟩ := E
  cases h1.symm.trans e1
  obtain ⟨c, k2, cf', kf', i', f', a1, a2, a3, a4, a5, a6, -⟩ := L.spec
  cases e2.symm.trans a1
  cases e3.symm.trans a2
  obtain ⟨c3, k3, i1, i2, i3, -⟩ := Cond.instantiable_spec wi
  cases e2.symm.trans i1
  cases e3.symm.trans i2
  have hs := e5 i3
  have hlt : f'.slot < cell.slots.size := by rw [hs]; exact (Array.getElem?_eq_some_iff.mp a6).1
  exact ⟨_, cell, cf', kf', i', f', h1, a3, a4, h4, h5, a5, Array.getElem?_eq_getElem hlt⟩
theorem own_open {p : Program} {e : Env} {below : List Frame} {Q : State → Outcome → Prop} {A : State} (h : ∀ R : State → Outcome → Prop, (∀ s₂ o, Q s₂ o → R s₂ o) → own_W p e below R A) : ∃ s₂ o, Steps p.tables e below A s₂ ∧ Q s₂ o := h Q fun _ _ q => q
/-! own layer 1: doubles as whole numbers of 2^k units (value n * 2^(k - 1074)), over the library's zval -/
section OwnFP
open Jvm.FP Jvm.FP.Core Jvm.Free.Fl
/-- x is finite and worth v units of 2^-1074 -/
def own_Is (x : UInt64) (v : Int) : Prop := DFin x ∧ zval b64 (val64 x) = v
/-- some double is worth v -/
def own_Rep (v : Int) : Prop := ∃ d : Datum, Jvm.FP.Core.fits b64 d ∧ (∃ s c q, d = .fin s c q) ∧ zval b64 d = v
/-- x is finite and worth n units of 2^(k - 1074) -/
def own_At (k : Nat) (x : UInt64) (n : Int) : Prop := own_Is x (n * 2 ^ k)
theorem own_Is.rep {x : UInt64} {v : Int} (h : own_Is x v) : own_Rep v := ⟨val64 x, val64_fits x, h.1, h.2⟩
theorem own_Is.nn {x : UInt64} {v : Int} (h : own_Is x v) : NoNaN64 x := noNaN64_no.mpr h.1.notNaN
theorem own_At.nn {k : Nat} {x : UInt64} {n : Int} (h : own_At k x n) : NoNaN64 x := own_Is.nn h
theorem own_At.cast {k : Nat} {x : UInt64} {n n' : Int} (h : own_At k x n) (e : n = n') : own_At k x n' := e ▸ h
theorem own_zval_fin (s : Bool) (c : Nat) (q : Int) : zval b64 (.fin s c q) = signed s (inUnits c q b64.qmin) := rfl
theorem own_pos_pow (k : Nat) : (0 : Int) < 2 ^ k := Int.pow_pos (by decide)
theorem own_signed_abs (n : Int) : signed (decide (n < 0)) n.natAbs = n := by
  by_cases h : n < 0
  · simp only [h, decide_true, signed, if_true]; omega
  · simp only [h, decide_false, signed]; simp; omega
theorem own_rep_mk (n : Int) (k : Nat) (hn : n.natAbs < 2 ^ 53) (hk : k ≤ 2045) : own_Rep (n * 2 ^ k) := by
  have hq : b64.qmin = -1074 := qmin_b64
  have hm : b64.qmax = 971 := by decide
  obtain ⟨c', q', h1, h2⟩ := round_exact good_b64 (decide (n < 0)) (c := n.natAbs) (q := (k : Int) + b64.qmin) hn (by omega) (by omega)
  refine ⟨.fin (decide (n < 0)) c' q', ?_, ⟨_, _, _, rfl⟩, ?_⟩
  · rw [← h1]; exact round_fits good_b64 _
  · rw [own_zval_fin, h2]
    unfold inUnits
    rw [show ((k : Int) + b64.qmin - b64.qmin).toNat = k by omega, signed_mul, own_signed_abs]
    simp
theorem own_rep_top {v : Int} (h : own_Rep v) : -((b64.tails * 2 ^ (b64.exps - 2) : Nat) : Int) < v ∧ v < ((b64.tails * 2 ^ (b64.exps - 2) : Nat) : Int) := by
  obtain ⟨d, hf, ⟨s, c, q, rfl⟩, rfl⟩ := h
  have hz := zmag_lt_top good_b64 hf
  rw [own_zval_fin]
  generalize b64.tails * 2 ^ (b64.exps - 2) = top at hz ⊢
  generalize inUnits c q b64.qmin = z at hz ⊢
  cases s <;> simp only [signed] <;> simp <;> omega
theorem own_fin_of {x : UInt64} {lo hi : Int} (hx : val64 x ≠ .nan) (rl : own_Rep lo) (rh : own_Rep hi) (h1 : lo ≤ zval b64 (val64 x)) (h2 : zval b64 (val64 x) ≤ hi) : DFin x := by
  have t1 := own_rep_top rl
  have t2 := own_rep_top rh
  unfold DFin
  cases h : val64 x with
  | nan => exact absurd h hx
  | fin s c q => exact ⟨s, c, q, rfl⟩
  | inf s =>
    rw [h] at h1 h2
    have e : zval b64 (.inf s) = signed s (b64.tails * 2 ^ (b64.exps - 2)) := rfl
    rw [e] at h1 h2
    generalize b64.tails * 2 ^ (b64.exps - 2) = top at *
    exfalso
    cases s <;> simp only [signed] at h1 h2 <;> simp at h1 h2 <;> omega
theorem own_add {a b : UInt64} {v w lo hi : Int} (ha : own_Is a v) (hb : own_Is b w) (rl : own_Rep lo) (rh : own_Rep hi) (h1 : lo ≤ v + w) (h2 : v + w ≤ hi) :
    ∃ u, own_Is (FP.dadd a b) u ∧ lo ≤ u ∧ u ≤ hi := by
  have hn : val64 (Core.dadd a b) ≠ .nan := (notNaN_iff _).mp (dadd_out ha.1.notNaN hb.1)
  obtain ⟨dl, fl, ⟨sl, cl, ql, el⟩, zl⟩ := rl
  obtain ⟨dh, fh, ⟨sh, ch, qh, eh⟩, zh⟩ := rh
  have g1 := sum_ge good_b64 ha.1 hb.1 (val64_fits a) (val64_fits b) fl (by rw [el]; nofun) (by rw [ha.2, hb.2, zl]; exact h1)
  have g2 := sum_le good_b64 ha.1 hb.1 (val64_fits a) (val64_fits b) fh (by rw [eh]; nofun) (by rw [ha.2, hb.2, zh]; exact h2)
  rw [← val64_dadd, zl] at g1
  rw [← val64_dadd, zh] at g2
  exact ⟨_, ⟨own_fin_of hn ⟨dl, fl, ⟨sl, cl, ql, el⟩, zl⟩ ⟨dh, fh, ⟨sh, ch, qh, eh⟩, zh⟩ g1 g2, rfl⟩, g1, g2⟩
theorem own_cneg {b : UInt64} {w : Int} (hb : own_Is b w) : own_Is (Core.dneg b) (-w) := by
  obtain ⟨⟨s, c, q, e⟩, h⟩ := hb
  refine ⟨⟨!s, c, q, ?_⟩, ?_⟩
  · rw [Jvm.FP.Core.val64_dneg, e]; rfl
  · rw [Jvm.FP.Core.val64_dneg, zval_negate, h]
theorem own_sub {a b : UInt64} {v w lo hi : Int} (ha : own_Is a v) (hb : own_Is b w) (rl : own_Rep lo) (rh : own_Rep hi) (h1 : lo ≤ v - w) (h2 : v - w ≤ hi) :
    ∃ u, own_Is (FP.dsub a b) u ∧ lo ≤ u ∧ u ≤ hi := by
  have e : FP.dsub a b = FP.dadd a (Core.dneg b) := dsub_eq a b
  rw [e]
  exact own_add ha (own_cneg hb) rl rh (by omega) (by omega)
theorem own_mul {a b : UInt64} {v w lo hi : Int} (ha : own_Is a v) (hb : own_Is b w) (rl : own_Rep lo) (rh : own_Rep hi) (h1 : lo * 2 ^ 1074 ≤ v * w) (h2 : v * w ≤ hi * 2 ^ 1074) :
    ∃ u, own_Is (FP.dmul a b) u ∧ lo ≤ u ∧ u ≤ hi := by
  have hn : val64 (Core.dmul a b) ≠ .nan := (notNaN_iff _).mp (dmul_out ha.1 hb.1)
  obtain ⟨⟨s, c, q, ea⟩, za⟩ := ha
  obtain ⟨⟨t, d, r, eb⟩, zb⟩ := hb
  have fa := val64_fits a
  have fb := val64_fits b
  rw [ea] at fa za
  rw [eb] at fb zb
  obtain ⟨p1, p2, p3⟩ := product_units fa fb
  have ev : signed (s != t) (inUnits (c * d) (q + r) (2 * b64.qmin)) = v * w := by rw [p3, signed_xor, ← za, ← zb]; rfl
  have eq : (b64.qmin - 2 * b64.qmin).toNat = 1074 := by rw [qmin_b64]; rfl
  have hle : 2 * b64.qmin ≤ b64.qmin := by rw [qmin_b64]; decide
  have em : val64 (Core.dmul a b) = round b64 (.fin (s != t) (c * d) (q + r)) := by rw [val64_dmul, ea, eb, p1]
  obtain ⟨dl, fl, ⟨sl, cl, ql, el⟩, zl⟩ := rl
  obtain ⟨dh, fh, ⟨sh, ch, qh, eh⟩, zh⟩ := rh
  have g1 := zval_round_ge good_b64 (s := (s != t)) (c := c * d) (q := q + r) (e0 := 2 * b64.qmin) (V := dl) fl (by rw [el]; nofun) hle p2 (by rw [ev, eq, zl]; simpa using h1)
  have g2 := zval_round_le good_b64 (s := (s != t)) (c := c * d) (q := q + r) (e0 := 2 * b64.qmin) (V := dh) fh (by rw [eh]; nofun) hle p2 (by rw [ev, eq, zh]; simpa using h2)
  rw [← em, zl] at g1
  rw [← em, zh] at g2
  exact ⟨_, ⟨own_fin_of hn ⟨dl, fl, ⟨sl, cl, ql, el⟩, zl⟩ ⟨dh, fh, ⟨sh, ch, qh, eh⟩, zh⟩ g1 g2, rfl⟩, g1, g2⟩
theorem own_signed_nonneg {s : Bool} {z : Nat} {v : Int} (h : signed s z = v) (hv : 0 ≤ v) : (z : Int) = v := by
  cases s <;> simp only [signed] at h <;> simp at h <;> omega
theorem own_div_up (K : Nat) {c d q1 r1 z : Nat} {t f : Nat} (h : c * 2 ^ q1 * 2 ^ K ≤ z * (d * 2 ^ r1)) (e : t + r1 = q1 + K + f) : c * 2 ^ t ≤ z * 2 ^ f * d := by
  have hp : 0 < 2 ^ r1 := Nat.two_pow_pos r1
  refine Nat.le_of_mul_le_mul_right (c := 2 ^ r1) ?_ hp
  calc c * 2 ^ t * 2 ^ r1 = c * 2 ^ (t + r1) := by rw [Nat.pow_add]; ac_rfl
    _ = (c * 2 ^ q1 * 2 ^ K) * 2 ^ f := by rw [e, Nat.pow_add, Nat.pow_add]; ac_rfl
    _ ≤ (z * (d * 2 ^ r1)) * 2 ^ f := Nat.mul_le_mul_right _ h
    _ = z * 2 ^ f * d * 2 ^ r1 := by ac_rfl
theorem own_div_dn (K : Nat) {c d q1 r1 z : Nat} {t f : Nat} (h : z * (d * 2 ^ r1) ≤ c * 2 ^ q1 * 2 ^ K) (e : t + r1 = q1 + K + f) : z * 2 ^ f * d ≤ c * 2 ^ t := by
  have hp : 0 < 2 ^ r1 := Nat.two_pow_pos r1
  refine Nat.le_of_mul_le_mul_right (c := 2 ^ r1) ?_ hp
  calc z * 2 ^ f * d * 2 ^ r1 = (z * (d * 2 ^ r1)) * 2 ^ f := by ac_rfl
    _ ≤ (c * 2 ^ q1 * 2 ^ K) * 2 ^ f := Nat.mul_le_mul_right _ h
    _ = c * 2 ^ (t + r1) := by rw [e, Nat.pow_add, Nat.pow_add]; ac_rfl
    _ = c * 2 ^ t * 2 ^ r1 := by rw [Nat.pow_add]; ac_rfl
theorem own_ac2 (c A w B : Int) : c * A * (w * B) = (c * w) * (A * B) := by ac_rfl
/-- the quotient of two numbers at or above nought -/
theorem own_div0 {a b : UInt64} {v w lo hi : Int} (ha : own_Is a v) (hb : own_Is b w) (hv : 0 ≤ v) (hw : 0 < w) (rl : own_Rep lo) (rh : own_Rep hi) (h0 : 0 ≤ lo) (h1 : lo * w ≤ v * 2 ^ 1074) (h2 : v * 2 ^ 1074 ≤ hi * w) :
    ∃ u, own_Is (FP.ddiv a b) u ∧ lo ≤ u ∧ u ≤ hi := by
  have hq : b64.qmin = -1074 := qmin_b64
  obtain ⟨⟨s, c, q, ea⟩, za⟩ := ha
  obtain ⟨⟨t, d, r, eb⟩, zb⟩ := hb
  have fa := val64_fits a
  have fb := val64_fits b
  rw [ea] at fa za
  rw [eb] at fb zb
  rw [own_zval_fin] at za zb
  have ma := own_signed_nonneg za hv
  have mb := own_signed_nonneg zb (by omega)
  have hd : d ≠ 0 := by
    rintro rfl
    simp [inUnits] at mb; omega
  have hs : c = 0 ∨ (s != t) = false := by
    have ht : t = false := by
      cases t with
      | false => rfl
      | true => simp only [signed] at zb; simp at zb; omega
    cases hs : s with
    | false => right; rw [ht]; rfl
    | true =>
      left
      rw [hs] at za
      simp only [signed] at za; simp at za
      have : inUnits c q b64.qmin = 0 := by omega
      unfold inUnits at this
      have hp := Nat.two_pow_pos (q - b64.qmin).toNat
      rcases Nat.mul_eq_zero.mp this with h | h
      · exact h
      · omega
  have ev : val64 (Core.ddiv a b) = roundRatio b64 (s != t) c d (q - r) := by rw [val64_ddiv, ea, eb]; simp only [quotient, if_neg hd]
  have hn : val64 (Core.ddiv a b) ≠ .nan := by rw [ev]; exact roundRatio_ne_nan _ _ _ _ _
  obtain ⟨dl, fl, ⟨sl, cl, ql, el⟩, zl⟩ := rl
  obtain ⟨dh, fh, ⟨sh, ch, qh, eh⟩, zh⟩ := rh
  have hhi : 0 ≤ hi := by
    have : 0 ≤ hi * w := Int.le_trans (Int.mul_nonneg hv (Int.le_of_lt (own_pos_pow _))) h2
    exact Int.nonneg_of_mul_nonneg_left this hw
  have ml : (zmag b64 dl : Int) = lo := own_signed_nonneg zl h0
  have mh : (zmag b64 dh : Int) = hi := own_signed_nonneg zh hhi
  have e0 : ∃ e0 : Int, e0 ≤ b64.qmin ∧ e0 ≤ q - r := ⟨min b64.qmin (q - r), Int.min_le_left _ _, Int.min_le_right _ _⟩
  obtain ⟨e0, k1, k2⟩ := e0
  have fq := fa.2.1
  have fr := fb.2.1
  have ee : ((q - r) - e0).toNat + (r - b64.qmin).toNat = (q - b64.qmin).toNat + 1074 + (b64.qmin - e0).toNat := by omega
  have g1 : zmag b64 dl ≤ zmag b64 (roundRatio b64 (s != t) c d (q - r)) := by
    refine zmag_roundRatio_ge good_b64 (e0 := e0) (Nat.pos_of_ne_zero hd) fl k1 k2 ?_
    refine own_div_dn 1074 (q1 := (q - b64.qmin).toNat) (r1 := (r - b64.qmin).toNat) ?_ ee
    have h := h1
    rw [← ml, ← ma, ← mb] at h
    unfold inUnits at h
    exact_mod_cast h
  have g2 : zmag b64 (roundRatio b64 (s != t) c d (q - r)) ≤ zmag b64 dh := by
    refine zmag_roundRatio_le good_b64 (e0 := e0) (Nat.pos_of_ne_zero hd) fh (by rw [eh]; nofun) k1 k2 ?_
    refine own_div_up 1074 (q1 := (q - b64.qmin).toNat) (r1 := (r - b64.qmin).toNat) ?_ ee
    have h := h2
    rw [← mh, ← ma, ← mb] at h
    unfold inUnits at h
    exact_mod_cast h
  have gz : zval b64 (val64 (Core.ddiv a b)) = (zmag b64 (roundRatio b64 (s != t) c d (q - r)) : Int) := by
    rw [ev]
    unfold zval
    rw [sgn_roundRatio]
    rcases hs with rfl | hs
    · have : zmag b64 (roundRatio b64 (s != t) 0 d (q - r)) = 0 := by simp [roundRatio, zmag, inUnits]
      rw [this]; simp [signed]
    · rw [hs]; simp [signed]
  have f1 : lo ≤ zval b64 (val64 (Core.ddiv a b)) := by rw [gz, ← ml]; exact_mod_cast g1
  have f2 : zval b64 (val64 (Core.ddiv a b)) ≤ hi := by rw [gz, ← mh]; exact_mod_cast g2
  exact ⟨_, ⟨own_fin_of hn ⟨dl, fl, ⟨sl, cl, ql, el⟩, zl⟩ ⟨dh, fh, ⟨sh, ch, qh, eh⟩, zh⟩ f1 f2, rfl⟩, f1, f2⟩
/-- the quotient by a number above nought, where it comes out whole: v * 2^1074 = u * w -/
theorem own_div {a b : UInt64} {v w u : Int} (ha : own_Is a v) (hb : own_Is b w) (hw : 0 < w) (ru : own_Rep u) (h : u * w = v * 2 ^ 1074) : own_Is (FP.ddiv a b) u := by
  by_cases hv : 0 ≤ v
  · have hu : 0 ≤ u := by
      have : 0 ≤ u * w := by rw [h]; exact Int.mul_nonneg hv (Int.le_of_lt (own_pos_pow _))
      exact Int.nonneg_of_mul_nonneg_left this hw
    obtain ⟨z, hz, z1, z2⟩ := own_div0 ha hb hv hw ru ru hu (Int.le_of_eq h) (Int.le_of_eq h.symm)
    exact (Int.le_antisymm z2 z1) ▸ hz
  · have hneg : own_Rep (-u) := by
      obtain ⟨d, h1, ⟨s, c, q, rfl⟩, h3⟩ := ru
      exact ⟨.fin (!s) c q, h1, ⟨_, _, _, rfl⟩, by rw [← h3]; exact zval_negate b64 (.fin s c q)⟩
    have hp := own_pos_pow 1074
    have hu : 0 ≤ -u := by
      have : u * w < 0 := by rw [h]; exact Int.mul_neg_of_neg_of_pos (by omega) hp
      by_cases q : 0 ≤ -u
      · exact q
      · exact absurd (Int.mul_nonneg (show 0 ≤ u by omega) (Int.le_of_lt hw)) (by omega)
    have h' : -u * w = -v * 2 ^ 1074 := by rw [Int.neg_mul, Int.neg_mul, h]
    obtain ⟨z, hz, z1, z2⟩ := own_div0 (own_cneg ha) hb (by omega) hw hneg hneg hu (Int.le_of_eq h') (Int.le_of_eq h'.symm)
    have e : Core.ddiv (Core.dneg a) b = Core.dneg (Core.ddiv a b) := ddiv_dneg a b
    have nn : val64 (Core.ddiv a b) ≠ .nan := by
      have q := hz.1.ne_nan
      intro k
      apply q
      show val64 (Core.ddiv (Core.dneg a) b) = .nan
      rw [e, Jvm.FP.Core.val64_dneg, k]; rfl
    have hz2 : own_Is (Core.dneg (Core.ddiv (Core.dneg a) b)) (-z) := own_cneg hz
    rw [e, dneg_dneg nn] at hz2
    have : -z = u := by omega
    exact this ▸ hz2
theorem own_i2d (n : Int32) : own_At 1074 (FP.i2d n) n.toInt := by
  refine ⟨Core.i2d_fin n, ?_⟩
  rw [show FP.i2d n = Core.i2d n from rfl, DInt_zval (i2d_int n)]
  unfold one64; norm_cast
theorem own_l2d (n : Int64) (h : n.toInt.natAbs ≤ 2 ^ 53) : own_At 1074 (FP.l2d n) n.toInt := by
  refine ⟨Core.l2d_fin n, ?_⟩
  rw [show FP.l2d n = Core.l2d n from rfl, DInt_zval (l2d_int h)]
  unfold one64; norm_cast
theorem own_cmp {a b : UInt64} {v w : Int} (ha : own_Is a v) (hb : own_Is b w) : FP.dcmp a b = some (compare v w) := by
  rw [show FP.dcmp a b = Core.dcmp a b from rfl, dcmp_zval ha.1.ne_nan hb.1.ne_nan, ha.2, hb.2]
theorem own_cmpV {a b : UInt64} {v w : Int} (ha : own_Is a v) (hb : own_Is b w) (o : CmpOp) : cmpValue (FP.dcmp a b) o = if v < w then -1 else if v = w then 0 else 1 := by
  rw [own_cmp ha hb, compare_ite]
  by_cases h1 : v < w
  · simp only [h1, if_true]; rfl
  · by_cases h2 : v = w
    · simp only [h1, h2, if_true, if_false, Int.lt_irrefl]; rfl
    · simp only [h1, h2, if_false]; rfl
theorem own_cmpAt {k : Nat} {a b : UInt64} {v w : Int} (ha : own_At k a v) (hb : own_At k b w) (o : CmpOp) : cmpValue (FP.dcmp a b) o = if v < w then -1 else if v = w then 0 else 1 := by
  rw [own_cmpV ha hb o]
  have hp := own_pos_pow k
  have e1 : (v * 2 ^ k < w * 2 ^ k) ↔ v < w := ⟨fun h => Int.lt_of_mul_lt_mul_right h (Int.le_of_lt hp), fun h => Int.mul_lt_mul_of_pos_right h hp⟩
  have e2 : (v * 2 ^ k = w * 2 ^ k) ↔ v = w := ⟨fun h => Int.eq_of_mul_eq_mul_right (Int.ne_of_gt hp) h, fun h => by rw [h]⟩
  simp only [e1, e2]
theorem own_addAt {k : Nat} {a b : UInt64} {v w : Int} (ha : own_At k a v) (hb : own_At k b w) (hk : k ≤ 2045) (h : (v + w).natAbs < 2 ^ 53) : own_At k (FP.dadd a b) (v + w) := by
  have r := own_rep_mk (v + w) k h hk
  have e : (v + w) * 2 ^ k = v * 2 ^ k + w * 2 ^ k := Int.add_mul _ _ _
  obtain ⟨u, hu, u1, u2⟩ := own_add ha hb r r (Int.le_of_eq e) (Int.le_of_eq e.symm)
  have eu := Int.le_antisymm u2 u1
  rw [eu] at hu
  exact hu
theorem own_subAt {k : Nat} {a b : UInt64} {v w : Int} (ha : own_At k a v) (hb : own_At k b w) (hk : k ≤ 2045) (h : (v - w).natAbs < 2 ^ 53) : own_At k (FP.dsub a b) (v - w) := by
  have r := own_rep_mk (v - w) k h hk
  have e : (v - w) * 2 ^ k = v * 2 ^ k - w * 2 ^ k := Int.sub_mul _ _ _
  obtain ⟨u, hu, u1, u2⟩ := own_sub ha hb r r (Int.le_of_eq e) (Int.le_of_eq e.symm)
  have eu := Int.le_antisymm u2 u1
  rw [eu] at hu
  exact hu
theorem own_mulAt {k j i : Nat} {a b : UInt64} {v w : Int} (ha : own_At k a v) (hb : own_At j b w) (hi : i ≤ 2045) (hk : k + j = i + 1074) (h : (v * w).natAbs < 2 ^ 53) : own_At i (FP.dmul a b) (v * w) := by
  have r := own_rep_mk (v * w) i h hi
  have e : (v * w) * 2 ^ i * 2 ^ 1074 = (v * 2 ^ k) * (w * 2 ^ j) := by
    rw [own_ac2, Int.mul_assoc (v * w), ← Int.pow_add, ← Int.pow_add, hk]
  obtain ⟨u, hu, u1, u2⟩ := own_mul ha hb r r (Int.le_of_eq e) (Int.le_of_eq e.symm)
  have eu := Int.le_antisymm u2 u1
  rw [eu] at hu
  exact hu
theorem own_divAt {k j i : Nat} {a b : UInt64} {v w c : Int} (ha : own_At k a v) (hb : own_At j b w) (hw : 0 < w) (hi : i ≤ 2045) (hk : k + 1074 = i + j) (h : c.natAbs < 2 ^ 53) (hc : c * w = v) : own_At i (FP.ddiv a b) c := by
  refine own_div ha hb (Int.mul_pos hw (own_pos_pow _)) (own_rep_mk c i h hi) ?_
  rw [own_ac2, hc, Int.mul_assoc v, ← Int.pow_add, ← Int.pow_add, hk]
theorem own_up {k j i : Nat} {a : UInt64} {v : Int} (ha : own_At k a v) (hk : k = i + j) : own_At i a (v * 2 ^ j) := by
  unfold own_At at *
  rw [Int.mul_assoc, ← Int.pow_add, Nat.add_comm j i, ← hk]; exact ha
theorem own_down {k j i : Nat} {a : UInt64} {v : Int} (ha : own_At i a (v * 2 ^ j)) (hk : k = i + j) : own_At k a v := by
  unfold own_At at *
  rw [Int.mul_assoc, ← Int.pow_add, Nat.add_comm j i, ← hk] at ha; exact ha
theorem own_zero {k : Nat} : own_At k 0 0 := ⟨⟨false, 0, _, val64_zero⟩, by rw [zval64_zero]; simp⟩
theorem own_c_gt {a b : UInt64} {v w : Int} (ha : own_Is a v) (hb : own_Is b w) (o : CmpOp) : (0 : Int32) < cmpValue (FP.dcmp a b) o ↔ w < v := by
  rw [own_cmpV ha hb o]
  split
  · exact ⟨fun h => absurd h (by decide), fun h => by omega⟩
  · split
    · exact ⟨fun h => absurd h (by decide), fun h => by omega⟩
    · exact ⟨fun h => by omega, fun h => by decide⟩
theorem own_c_lt {a b : UInt64} {v w : Int} (ha : own_Is a v) (hb : own_Is b w) (o : CmpOp) : cmpValue (FP.dcmp a b) o < (0 : Int32) ↔ v < w := by
  rw [own_cmpV ha hb o]
  split
  · exact ⟨fun h => by omega, fun h => by decide⟩
  · split
    · exact ⟨fun h => absurd h (by decide), fun h => by omega⟩
    · exact ⟨fun h => absurd h (by decide), fun h => by omega⟩
theorem own_c_eq {a b : UInt64} {v w : Int} (ha : own_Is a v) (hb : own_Is b w) (o : CmpOp) : cmpValue (FP.dcmp a b) o = (0 : Int32) ↔ v = w := by
  rw [own_cmpV ha hb o]
  split
  · exact ⟨fun h => absurd h (by decide), fun h => by omega⟩
  · split
    · exact ⟨fun h => by omega, fun h => by decide⟩
    · exact ⟨fun h => absurd h (by decide), fun h => by omega⟩
theorem own_mul_lt {k : Nat} {v w : Int} : (v * 2 ^ k < w * 2 ^ k) ↔ v < w :=
  ⟨fun h => Int.lt_of_mul_lt_mul_right h (Int.le_of_lt (own_pos_pow k)), fun h => Int.mul_lt_mul_of_pos_right h (own_pos_pow k)⟩
theorem own_mul_eq {k : Nat} {v w : Int} : (v * 2 ^ k = w * 2 ^ k) ↔ v = w :=
  ⟨fun h => Int.eq_of_mul_eq_mul_right (Int.ne_of_gt (own_pos_pow k)) h, fun h => by rw [h]⟩
theorem own_ca_gt {k : Nat} {a b : UInt64} {v w : Int} (ha : own_At k a v) (hb : own_At k b w) (o : CmpOp) : (0 : Int32) < cmpValue (FP.dcmp a b) o ↔ w < v := (own_c_gt ha hb o).trans own_mul_lt
theorem own_ca_lt {k : Nat} {a b : UInt64} {v w : Int} (ha : own_At k a v) (hb : own_At k b w) (o : CmpOp) : cmpValue (FP.dcmp a b) o < (0 : Int32) ↔ v < w := (own_c_lt ha hb o).trans own_mul_lt
theorem own_ca_eq {k : Nat} {a b : UInt64} {v w : Int} (ha : own_At k a v) (hb : own_At k b w) (o : CmpOp) : cmpValue (FP.dcmp a b) o = (0 : Int32) ↔ v = w := (own_c_eq ha hb o).trans own_mul_eq
theorem own_neg {k : Nat} {x : UInt64} {n : Int} (h : own_At k x n) : own_At k (FP.dneg x) (-n) := by
  obtain ⟨⟨s, c, q, e⟩, hz⟩ := h
  have hv : val64 (FP.dneg x) = negate (val64 x) := Jvm.FP.val64_dneg x
  refine ⟨⟨!s, c, q, by rw [hv, e]; rfl⟩, ?_⟩
  rw [hv, zval_negate, hz, Int.neg_mul]
end OwnFP
/-! own layer 2: int and long comparisons -/
section OwnInt
theorem own_l_gt (x y : Int64) : (0 : Int32) < lcmpW x y ↔ y < x := by
  show (0 : Int32) < (if x > y then (1 : Int32) else if x = y then 0 else -1) ↔ y < x
  by_cases h1 : x > y
  · rw [if_pos h1]; exact ⟨fun _ => h1, fun _ => by decide⟩
  · rw [if_neg h1]
    by_cases h2 : x = y
    · rw [if_pos h2]; exact ⟨fun h => absurd h (by decide), fun h => absurd h h1⟩
    · rw [if_neg h2]; exact ⟨fun h => absurd h (by decide), fun h => absurd h h1⟩
theorem own_l_eq (x y : Int64) : lcmpW x y = (0 : Int32) ↔ x = y := by
  show (if x > y then (1 : Int32) else if x = y then 0 else -1) = 0 ↔ x = y
  by_cases h1 : x > y
  · have h3 := Int64.lt_iff_toInt_lt.mp h1
    rw [if_pos h1]; exact ⟨fun h => absurd h (by decide), fun h => by rw [h] at h3; omega⟩
  · rw [if_neg h1]
    by_cases h2 : x = y
    · rw [if_pos h2]; exact ⟨fun _ => h2, fun _ => rfl⟩
    · rw [if_neg h2]; exact ⟨fun h => absurd h (by decide), fun h => absurd h h2⟩
theorem own_l_lt (x y : Int64) : lcmpW x y < (0 : Int32) ↔ x < y := by
  show (if x > y then (1 : Int32) else if x = y then 0 else -1) < 0 ↔ x < y
  by_cases h1 : x > y
  · have h3 := Int64.lt_iff_toInt_lt.mp h1
    rw [if_pos h1]; exact ⟨fun h => absurd h (by decide), fun h => by have := Int64.lt_iff_toInt_lt.mp h; omega⟩
  · rw [if_neg h1]
    by_cases h2 : x = y
    · rw [if_pos h2]; exact ⟨fun h => absurd h (by decide), fun h => by rw [h2] at h; have := Int64.lt_iff_toInt_lt.mp h; omega⟩
    · rw [if_neg h2]
      have q1 : ¬ y.toInt < x.toInt := fun h => h1 (Int64.lt_iff_toInt_lt.mpr h)
      have q2 : x.toInt ≠ y.toInt := fun h => h2 (Int64.toInt_inj.mp h)
      exact ⟨fun _ => Int64.lt_iff_toInt_lt.mpr (by omega), fun _ => by decide⟩
theorem own_i2l (a : Int32) : a.toInt64.toInt = a.toInt := by simp
theorem own_i32_lo (a : Int32) : -2147483648 ≤ a.toInt := a.le_toInt
theorem own_i32_hi (a : Int32) : a.toInt < 2147483648 := by have := a.toInt_lt; omega
theorem own_mask (x m : Int32) (k : Nat) (hm : m.toBitVec.toNat = 2 ^ k - 1) (hk : k ≤ 31) : (x &&& m).toInt = ((x.toBitVec.toNat % 2 ^ k : Nat) : Int) := by
  have e : (x &&& m).toBitVec.toNat = x.toBitVec.toNat % 2 ^ k := by
    rw [Int32.toBitVec_and, BitVec.toNat_and, hm]; exact Nat.and_two_pow_sub_one_eq_mod _ k
  have hlt : x.toBitVec.toNat % 2 ^ k < 2 ^ 31 := Nat.lt_of_lt_of_le (Nat.mod_lt _ (Nat.two_pow_pos k)) (Nat.pow_le_pow_right (by decide) hk)
  show (x &&& m).toBitVec.toInt = _
  rw [BitVec.toInt_eq_toNat_of_lt (by rw [e]; omega), e]
theorem own_mask_bd (x m : Int32) (k : Nat) (hm : m.toBitVec.toNat = 2 ^ k - 1) (hk : k ≤ 31) : 0 ≤ (x &&& m).toInt ∧ (x &&& m).toInt < ((2 ^ k : Nat) : Int) := by
  rw [own_mask x m k hm hk]
  have := Nat.mod_lt x.toBitVec.toNat (Nat.two_pow_pos k)
  omega
end OwnInt

section OwnList
theorem own_mvM {Z s : State} {a0 args : Array Value} {own host : String} {index : Nat} {y : MethodName} (hZ : Z.Warmed39 s.vm) (w : (Cond.methodLinkNest own index y host).before a0 Z = true) : (Cond.methodLinkNest own index y host).before args s = true := (Cond.methodLinkNest_wide hZ w :)
theorem own_sta_keep {Z : State} {h h' : Heap} {C n d : String} {v : Value} (F : Sta Z h C n d v) (K : Keep h h' []) : Sta Z h' C n d v := by
  obtain ⟨cf, i, k, f, st, cell, h1, h2, h3, h4, h5, r⟩ := F
  exact ⟨cf, i, k, f, st, cell, h1, h2, h3, h4, K.2.1 _ _ h5 nin0, r⟩
def own_Ar (Z : State) (h : Heap) (a : Addr) (o : Nat → Addr) : Prop := ∃ c : Cell, Arr Z h a c (.object "java/lang/Object") ∧ c.slots.size = 4 ∧ ∀ j, j < 4 → c.slots[j]? = some (.ref (o j))
theorem own_Ar.keep {Z : State} {h h' : Heap} {a : Addr} {o : Nat → Addr} {ws : List Addr} (C : own_Ar Z h a o) (K : Keep h h' ws) (q : a ∉ ws) : own_Ar Z h' a o := by
  obtain ⟨c, A, r⟩ := C
  exact ⟨c, ⟨K.2.1 a c A.1 q, A.2⟩, r⟩
theorem own_Ar.ext {Z : State} {h h' : Heap} {a : Addr} {o : Nat → Addr} (C : own_Ar Z h a o) (E : Ext h h') : own_Ar Z h' a o := by
  obtain ⟨c, A, r⟩ := C
  exact ⟨c, A.ext E, r⟩
theorem own_Ar.lt {Z : State} {h : Heap} {a : Addr} {o : Nat → Addr} (C : own_Ar Z h a o) : a < h.size := by
  obtain ⟨c, A, r⟩ := C
  exact A.lt
theorem own_hp {T : State} {h : Heap} {a : Addr} {c : Cell} (e : T.heap = h) (q : h[a]? = some c) : T.heap[a]? = some c := e ▸ q
theorem own_in4 {c : Cell} {n : Nat} {j : Int32} (sz : c.slots.size = 4) (hj : j.toInt = n) (hn : n < 4) : ¬ (j < 0 ∨ c.slots.size ≤ j.toNatClampNeg) := by
  have e : j.toNatClampNeg = n := by show j.toInt.toNat = n; omega
  rw [e, sz, Int32.lt_iff_toInt_lt, show (0 : Int32).toInt = 0 from rfl]
  omega
theorem own_at4 {c : Cell} {n : Nat} {o : Nat → Addr} {j : Int32} (ct : ∀ j, j < 4 → c.slots[j]? = some (.ref (o j))) (hj : j.toInt = n) (hn : n < 4) : c.slots[j.toNatClampNeg]? = some (.ref (o n)) := by
  have e : j.toNatClampNeg = n := by show j.toInt.toNat = n; omega
  rw [e]; exact ct n hn
def own_four {α : Type} (a b c d : α) (j : Nat) : α := if j = 0 then a else if j = 1 then b else if j = 2 then c else d
theorem own_four_all {α : Type} {P : Nat → α → Prop} {a b c d : α} (h0 : P 0 a) (h1 : P 1 b) (h2 : P 2 c) (h3 : P 3 d) : ∀ j, j < 4 → P j (own_four a b c d j) := by
  intro j hj
  have : j = 0 ∨ j = 1 ∨ j = 2 ∨ j = 3 := by omega
  rcases this with rfl | rfl | rfl | rfl
  · exact h0
  · exact h1
  · exact h2
  · exact h3
theorem own_cells {c : Cell} {v0 v1 v2 v3 : Value} (sz : c.slots.size = 4) : ∀ j, j < 4 → ((((c.setSlot 0 v0).setSlot 1 v1).setSlot 2 v2).setSlot 3 v3).slots[j]? = some (own_four v0 v1 v2 v3 j) := by
  intro j hj
  have : j = 0 ∨ j = 1 ∨ j = 2 ∨ j = 3 := by omega
  rcases this with rfl | rfl | rfl | rfl <;> simp [Cell.setSlot, sz, own_four, Array.getElem?_setIfInBounds]
theorem own_four_ref (a b c d : Addr) (j : Nat) : own_four (Value.ref a) (.ref b) (.ref c) (.ref d) j = .ref (own_four a b c d j) := by
  unfold own_four
  by_cases h0 : j = 0
  · simp [h0]
  · by_cases h1 : j = 1
    · simp [h1]
    · by_cases h2 : j = 2
      · simp [h2]
      · simp [h0, h1, h2]
theorem own_abs_le {a : UInt64} {u : Int} (h : own_Is a u) : ¬ (0 : Int32) < cmpValue (FP.dcmp (a &&& 0x7fffffffffffffff) 9218868437227405311) .g := by
  have hq := (Jvm.FP.Core.le_max h.1.notNaN).mpr h.1
  rcases hq with q | q
  · rw [show FP.dcmp (a &&& 0x7fffffffffffffff) 9218868437227405311 = some .lt from q]; decide
  · rw [show FP.dcmp (a &&& 0x7fffffffffffffff) 9218868437227405311 = some .eq from q]; decide
theorem own_os10 {x0 x1 x3 x5 x7 x9 sA sB : Slot} {v : UInt64} (h : (sA = .unset ∧ sB = .unset) ∨ ∃ w : UInt64, sA = .val (.double w) ∧ sB = .second) : storeLocals #[x0, x1, .second, x3, .second, x5, .second, x7, .second, x9, sA, sB] 10 (.double v) = some #[x0, x1, .second, x3, .second, x5, .second, x7, .second, x9, .val (.double v), .second] := by
  rcases h with ⟨rfl, rfl⟩ | ⟨w, rfl, rfl⟩ <;> rfl
def own_cont (a c x b d y : Int) : Int32 := if a ≤ x ∧ x ≤ c ∧ b ≤ y ∧ y ≤ d then 1 else 0
theorem own_and {a c x b d y : Int} (h1 : a ≤ x) (h2 : x ≤ c) (h3 : b ≤ y) (h4 : y ≤ d) : own_cont a c x b d y = 1 := if_pos ⟨h1, h2, h3, h4⟩
theorem own_nand {a c x b d y : Int} (h : x < a ∨ c < x ∨ y < b ∨ d < y) : own_cont a c x b d y = 0 := if_neg (by omega)
end OwnList
theorem own_d1_0 : decode prog_39_method_1_code 0 = .ok (.aload_n 0, 1) := by decide +kernel
theorem own_d1_1 : decode prog_39_method_1_code 1 = .ok (.invokespecial 1, 3) := by decide +kernel
theorem own_d1_4 : decode prog_39_method_1_code 4 = .ok (.dload_n 1, 1) := by decide +kernel
theorem own_d1_5 : decode prog_39_method_1_code 5 = .ok (.invokestatic 7, 3) := by decide +kernel
theorem own_d1_8 : decode prog_39_method_1_code 8 = .ok (.dload_n 3, 1) := by decide +kernel
theorem own_d1_9 : decode prog_39_method_1_code 9 = .ok (.invokestatic 7, 3) := by decide +kernel
theorem own_d1_12 : decode prog_39_method_1_code 12 = .ok (.dload 5, 2) := by decide +kernel
theorem own_d1_14 : decode prog_39_method_1_code 14 = .ok (.invokestatic 7, 3) := by decide +kernel
theorem own_d1_17 : decode prog_39_method_1_code 17 = .ok (.dload 7, 2) := by decide +kernel
theorem own_d1_19 : decode prog_39_method_1_code 19 = .ok (.invokestatic 7, 3) := by decide +kernel
theorem own_d1_22 : decode prog_39_method_1_code 22 = .ok (.invokestatic 13, 3) := by decide +kernel
theorem own_d1_25 : decode prog_39_method_1_code 25 = .ok (.invokeinterface 19 1, 5) := by decide +kernel
theorem own_d1_30 : decode prog_39_method_1_code 30 = .ok (.astore 9, 2) := by decide +kernel
theorem own_d1_32 : decode prog_39_method_1_code 32 = .ok (.aload 9, 2) := by decide +kernel
theorem own_d1_34 : decode prog_39_method_1_code 34 = .ok (.invokeinterface 23 1, 5) := by decide +kernel
theorem own_d1_39 : decode prog_39_method_1_code 39 = .ok (.ifCond .eq 44, 3) := by decide +kernel
theorem own_d1_42 : decode prog_39_method_1_code 42 = .ok (.aload 9, 2) := by decide +kernel
theorem own_d1_44 : decode prog_39_method_1_code 44 = .ok (.invokeinterface 29 1, 5) := by decide +kernel
theorem own_d1_49 : decode prog_39_method_1_code 49 = .ok (.checkcast 8, 3) := by decide +kernel
theorem own_d1_52 : decode prog_39_method_1_code 52 = .ok (.invokevirtual 33, 3) := by decide +kernel
theorem own_d1_55 : decode prog_39_method_1_code 55 = .ok (.dstore 10, 2) := by decide +kernel
theorem own_d1_57 : decode prog_39_method_1_code 57 = .ok (.dload 10, 2) := by decide +kernel
theorem own_d1_59 : decode prog_39_method_1_code 59 = .ok (.invokestatic 37, 3) := by decide +kernel
theorem own_d1_62 : decode prog_39_method_1_code 62 = .ok (.ifCond .ne 18, 3) := by decide +kernel
theorem own_d1_80 : decode prog_39_method_1_code 80 = .ok (.goto (-48), 3) := by decide +kernel
theorem own_d1_83 : decode prog_39_method_1_code 83 = .ok (.dload_n 1, 1) := by decide +kernel
theorem own_d1_84 : decode prog_39_method_1_code 84 = .ok (.dload 5, 2) := by decide +kernel
theorem own_d1_86 : decode prog_39_method_1_code 86 = .ok (.dcmp .l, 1) := by decide +kernel
theorem own_d1_87 : decode prog_39_method_1_code 87 = .ok (.ifCond .gt 10, 3) := by decide +kernel
theorem own_d1_90 : decode prog_39_method_1_code 90 = .ok (.dload_n 3, 1) := by decide +kernel
theorem own_d1_91 : decode prog_39_method_1_code 91 = .ok (.dload 7, 2) := by decide +kernel
theorem own_d1_93 : decode prog_39_method_1_code 93 = .ok (.dcmp .l, 1) := by decide +kernel
theorem own_d1_94 : decode prog_39_method_1_code 94 = .ok (.ifCond .le 22, 3) := by decide +kernel
theorem own_d1_116 : decode prog_39_method_1_code 116 = .ok (.aload_n 0, 1) := by decide +kernel
theorem own_d1_117 : decode prog_39_method_1_code 117 = .ok (.dload_n 1, 1) := by decide +kernel
theorem own_d1_118 : decode prog_39_method_1_code 118 = .ok (.putfield 53, 3) := by decide +kernel
theorem own_d1_121 : decode prog_39_method_1_code 121 = .ok (.aload_n 0, 1) := by decide +kernel
theorem own_d1_122 : decode prog_39_method_1_code 122 = .ok (.dload_n 3, 1) := by decide +kernel
theorem own_d1_123 : decode prog_39_method_1_code 123 = .ok (.putfield 59, 3) := by decide +kernel
theorem own_d1_126 : decode prog_39_method_1_code 126 = .ok (.aload_n 0, 1) := by decide +kernel
theorem own_d1_127 : decode prog_39_method_1_code 127 = .ok (.dload 5, 2) := by decide +kernel
theorem own_d1_129 : decode prog_39_method_1_code 129 = .ok (.putfield 62, 3) := by decide +kernel
theorem own_d1_132 : decode prog_39_method_1_code 132 = .ok (.aload_n 0, 1) := by decide +kernel
theorem own_d1_133 : decode prog_39_method_1_code 133 = .ok (.dload 7, 2) := by decide +kernel
theorem own_d1_135 : decode prog_39_method_1_code 135 = .ok (.putfield 65, 3) := by decide +kernel
theorem own_d1_138 : decode prog_39_method_1_code 138 = .ok (.return_, 1) := by decide +kernel
theorem own_d2_0 : decode jdk_30_method_1_code 0 = .ok (.aload_n 0, 1) := by decide +kernel
theorem own_d2_1 : decode jdk_30_method_1_code 1 = .ok (.invokespecial 1, 3) := by decide +kernel
theorem own_d2_4 : decode jdk_30_method_1_code 4 = .ok (.return_, 1) := by decide +kernel
theorem own_d4_0 : decode jdk_117_method_4_code 0 = .ok (.new 1, 3) := by decide +kernel
theorem own_d4_3 : decode jdk_117_method_4_code 3 = .ok (.dup, 1) := by decide +kernel
theorem own_d4_4 : decode jdk_117_method_4_code 4 = .ok (.dload_n 0, 1) := by decide +kernel
theorem own_d4_5 : decode jdk_117_method_4_code 5 = .ok (.invokespecial 105, 3) := by decide +kernel
theorem own_d4_8 : decode jdk_117_method_4_code 8 = .ok (.areturn, 1) := by decide +kernel
theorem own_d5_0 : decode jdk_117_method_9_code 0 = .ok (.aload_n 0, 1) := by decide +kernel
theorem own_d5_1 : decode jdk_117_method_9_code 1 = .ok (.invokespecial 113, 3) := by decide +kernel
theorem own_d5_4 : decode jdk_117_method_9_code 4 = .ok (.aload_n 0, 1) := by decide +kernel
theorem own_d5_5 : decode jdk_117_method_9_code 5 = .ok (.dload_n 1, 1) := by decide +kernel
theorem own_d5_6 : decode jdk_117_method_9_code 6 = .ok (.putfield 118, 3) := by decide +kernel
theorem own_d5_9 : decode jdk_117_method_9_code 9 = .ok (.return_, 1) := by decide +kernel
theorem own_d6_0 : decode jdk_18_method_1_code 0 = .ok (.aload_n 0, 1) := by decide +kernel
theorem own_d6_1 : decode jdk_18_method_1_code 1 = .ok (.invokespecial 1, 3) := by decide +kernel
theorem own_d6_4 : decode jdk_18_method_1_code 4 = .ok (.return_, 1) := by decide +kernel
theorem own_d7_0 : decode jdk_40_method_40_code 0 = .ok (.iconst 4, 1) := by decide +kernel
theorem own_d7_1 : decode jdk_40_method_40_code 1 = .ok (.anewarray 103, 3) := by decide +kernel
theorem own_d7_4 : decode jdk_40_method_40_code 4 = .ok (.dup, 1) := by decide +kernel
theorem own_d7_5 : decode jdk_40_method_40_code 5 = .ok (.iconst 0, 1) := by decide +kernel
theorem own_d7_6 : decode jdk_40_method_40_code 6 = .ok (.aload_n 0, 1) := by decide +kernel
theorem own_d7_7 : decode jdk_40_method_40_code 7 = .ok (.aastore, 1) := by decide +kernel
theorem own_d7_8 : decode jdk_40_method_40_code 8 = .ok (.dup, 1) := by decide +kernel
theorem own_d7_9 : decode jdk_40_method_40_code 9 = .ok (.iconst 1, 1) := by decide +kernel
theorem own_d7_10 : decode jdk_40_method_40_code 10 = .ok (.aload_n 1, 1) := by decide +kernel
theorem own_d7_11 : decode jdk_40_method_40_code 11 = .ok (.aastore, 1) := by decide +kernel
theorem own_d7_12 : decode jdk_40_method_40_code 12 = .ok (.dup, 1) := by decide +kernel
theorem own_d7_13 : decode jdk_40_method_40_code 13 = .ok (.iconst 2, 1) := by decide +kernel
theorem own_d7_14 : decode jdk_40_method_40_code 14 = .ok (.aload_n 2, 1) := by decide +kernel
theorem own_d7_15 : decode jdk_40_method_40_code 15 = .ok (.aastore, 1) := by decide +kernel
theorem own_d7_16 : decode jdk_40_method_40_code 16 = .ok (.dup, 1) := by decide +kernel
theorem own_d7_17 : decode jdk_40_method_40_code 17 = .ok (.iconst 3, 1) := by decide +kernel
theorem own_d7_18 : decode jdk_40_method_40_code 18 = .ok (.aload_n 3, 1) := by decide +kernel
theorem own_d7_19 : decode jdk_40_method_40_code 19 = .ok (.aastore, 1) := by decide +kernel
theorem own_d7_20 : decode jdk_40_method_40_code 20 = .ok (.invokestatic 105, 3) := by decide +kernel
theorem own_d7_23 : decode jdk_40_method_40_code 23 = .ok (.areturn, 1) := by decide +kernel
theorem own_d8_0 : decode jdk_56_method_5_code 0 = .ok (.getstatic 46, 3) := by decide +kernel
theorem own_d8_3 : decode jdk_56_method_5_code 3 = .ok (.ifCond .ne 20, 3) := by decide +kernel
theorem own_d8_23 : decode jdk_56_method_5_code 23 = .ok (.aload_n 0, 1) := by decide +kernel
theorem own_d8_24 : decode jdk_56_method_5_code 24 = .ok (.astore_n 1, 1) := by decide +kernel
theorem own_d8_25 : decode jdk_56_method_5_code 25 = .ok (.aload_n 1, 1) := by decide +kernel
theorem own_d8_26 : decode jdk_56_method_5_code 26 = .ok (.arraylength, 1) := by decide +kernel
theorem own_d8_27 : decode jdk_56_method_5_code 27 = .ok (.istore_n 2, 1) := by decide +kernel
theorem own_d8_28 : decode jdk_56_method_5_code 28 = .ok (.iconst 0, 1) := by decide +kernel
theorem own_d8_29 : decode jdk_56_method_5_code 29 = .ok (.istore_n 3, 1) := by decide +kernel
theorem own_d8_30 : decode jdk_56_method_5_code 30 = .ok (.iload_n 3, 1) := by decide +kernel
theorem own_d8_31 : decode jdk_56_method_5_code 31 = .ok (.iload_n 2, 1) := by decide +kernel
theorem own_d8_32 : decode jdk_56_method_5_code 32 = .ok (.if_icmp .ge 20, 3) := by decide +kernel
theorem own_d8_35 : decode jdk_56_method_5_code 35 = .ok (.aload_n 1, 1) := by decide +kernel
theorem own_d8_36 : decode jdk_56_method_5_code 36 = .ok (.iload_n 3, 1) := by decide +kernel
theorem own_d8_37 : decode jdk_56_method_5_code 37 = .ok (.aaload, 1) := by decide +kernel
theorem own_d8_38 : decode jdk_56_method_5_code 38 = .ok (.astore 4, 2) := by decide +kernel
theorem own_d8_40 : decode jdk_56_method_5_code 40 = .ok (.aload 4, 2) := by decide +kernel
theorem own_d8_42 : decode jdk_56_method_5_code 42 = .ok (.invokestatic 37, 3) := by decide +kernel
theorem own_d8_45 : decode jdk_56_method_5_code 45 = .ok (.pop, 1) := by decide +kernel
theorem own_d8_46 : decode jdk_56_method_5_code 46 = .ok (.iinc 3 1, 3) := by decide +kernel
theorem own_d8_49 : decode jdk_56_method_5_code 49 = .ok (.goto (-19), 3) := by decide +kernel
theorem own_d8_52 : decode jdk_56_method_5_code 52 = .ok (.aload_n 0, 1) := by decide +kernel
theorem own_d8_53 : decode jdk_56_method_5_code 53 = .ok (.arraylength, 1) := by decide +kernel
theorem own_d8_54 : decode jdk_56_method_5_code 54 = .ok (.tableswitch 61 0 2 #[26, 32, 45], 26) := by decide +kernel
theorem own_d8_115 : decode jdk_56_method_5_code 115 = .ok (.new 12, 3) := by decide +kernel
theorem own_d8_118 : decode jdk_56_method_5_code 118 = .ok (.dup, 1) := by decide +kernel
theorem own_d8_119 : decode jdk_56_method_5_code 119 = .ok (.aload_n 0, 1) := by decide +kernel
theorem own_d8_120 : decode jdk_56_method_5_code 120 = .ok (.iconst 0, 1) := by decide +kernel
theorem own_d8_121 : decode jdk_56_method_5_code 121 = .ok (.invokespecial 43, 3) := by decide +kernel
theorem own_d8_124 : decode jdk_56_method_5_code 124 = .ok (.areturn, 1) := by decide +kernel
theorem own_d9_0 : decode jdk_31_method_10_code 0 = .ok (.aload_n 0, 1) := by decide +kernel
theorem own_d9_1 : decode jdk_31_method_10_code 1 = .ok (.ifnonnull 11, 3) := by decide +kernel
theorem own_d9_12 : decode jdk_31_method_10_code 12 = .ok (.aload_n 0, 1) := by decide +kernel
theorem own_d9_13 : decode jdk_31_method_10_code 13 = .ok (.areturn, 1) := by decide +kernel
theorem own_d10_0 : decode jdk_45_method_1_code 0 = .ok (.aload_n 0, 1) := by decide +kernel
theorem own_d10_1 : decode jdk_45_method_1_code 1 = .ok (.invokespecial 1, 3) := by decide +kernel
theorem own_d10_4 : decode jdk_45_method_1_code 4 = .ok (.aload_n 0, 1) := by decide +kernel
theorem own_d10_5 : decode jdk_45_method_1_code 5 = .ok (.aload_n 1, 1) := by decide +kernel
theorem own_d10_6 : decode jdk_45_method_1_code 6 = .ok (.putfield 7, 3) := by decide +kernel
theorem own_d10_9 : decode jdk_45_method_1_code 9 = .ok (.aload_n 0, 1) := by decide +kernel
theorem own_d10_10 : decode jdk_45_method_1_code 10 = .ok (.iload_n 2, 1) := by decide +kernel
theorem own_d10_11 : decode jdk_45_method_1_code 11 = .ok (.putfield 13, 3) := by decide +kernel
theorem own_d10_14 : decode jdk_45_method_1_code 14 = .ok (.return_, 1) := by decide +kernel
theorem own_d11_0 : decode jdk_46_method_1_code 0 = .ok (.aload_n 0, 1) := by decide +kernel
theorem own_d11_1 : decode jdk_46_method_1_code 1 = .ok (.invokespecial 1, 3) := by decide +kernel
theorem own_d11_4 : decode jdk_46_method_1_code 4 = .ok (.return_, 1) := by decide +kernel
theorem own_d12_0 : decode jdk_47_method_1_code 0 = .ok (.aload_n 0, 1) := by decide +kernel
theorem own_d12_1 : decode jdk_47_method_1_code 1 = .ok (.invokespecial 1, 3) := by decide +kernel
theorem own_d12_4 : decode jdk_47_method_1_code 4 = .ok (.return_, 1) := by decide +kernel
theorem own_d13_0 : decode jdk_22_method_1_code 0 = .ok (.aload_n 0, 1) := by decide +kernel
theorem own_d13_1 : decode jdk_22_method_1_code 1 = .ok (.invokespecial 1, 3) := by decide +kernel
theorem own_d13_4 : decode jdk_22_method_1_code 4 = .ok (.return_, 1) := by decide +kernel
theorem own_d14_0 : decode jdk_46_method_10_code 0 = .ok (.new 61, 3) := by decide +kernel
theorem own_d14_3 : decode jdk_46_method_10_code 3 = .ok (.dup, 1) := by decide +kernel
theorem own_d14_4 : decode jdk_46_method_10_code 4 = .ok (.aload_n 0, 1) := by decide +kernel
theorem own_d14_5 : decode jdk_46_method_10_code 5 = .ok (.aload_n 0, 1) := by decide +kernel
theorem own_d14_6 : decode jdk_46_method_10_code 6 = .ok (.invokevirtual 13, 3) := by decide +kernel
theorem own_d14_9 : decode jdk_46_method_10_code 9 = .ok (.invokespecial 63, 3) := by decide +kernel
theorem own_d14_12 : decode jdk_46_method_10_code 12 = .ok (.areturn, 1) := by decide +kernel
theorem own_d15_0 : decode jdk_45_method_3_code 0 = .ok (.aload_n 0, 1) := by decide +kernel
theorem own_d15_1 : decode jdk_45_method_3_code 1 = .ok (.getfield 7, 3) := by decide +kernel
theorem own_d15_4 : decode jdk_45_method_3_code 4 = .ok (.arraylength, 1) := by decide +kernel
theorem own_d15_5 : decode jdk_45_method_3_code 5 = .ok (.ireturn, 1) := by decide +kernel
theorem own_d16_0 : decode jdk_53_method_1_code 0 = .ok (.aload_n 0, 1) := by decide +kernel
theorem own_d16_1 : decode jdk_53_method_1_code 1 = .ok (.invokespecial 1, 3) := by decide +kernel
theorem own_d16_4 : decode jdk_53_method_1_code 4 = .ok (.aload_n 0, 1) := by decide +kernel
theorem own_d16_5 : decode jdk_53_method_1_code 5 = .ok (.aload_n 1, 1) := by decide +kernel
theorem own_d16_6 : decode jdk_53_method_1_code 6 = .ok (.putfield 7, 3) := by decide +kernel
theorem own_d16_9 : decode jdk_53_method_1_code 9 = .ok (.aload_n 0, 1) := by decide +kernel
theorem own_d16_10 : decode jdk_53_method_1_code 10 = .ok (.iload_n 2, 1) := by decide +kernel
theorem own_d16_11 : decode jdk_53_method_1_code 11 = .ok (.putfield 13, 3) := by decide +kernel
theorem own_d16_14 : decode jdk_53_method_1_code 14 = .ok (.aload_n 0, 1) := by decide +kernel
theorem own_d16_15 : decode jdk_53_method_1_code 15 = .ok (.iconst 0, 1) := by decide +kernel
theorem own_d16_16 : decode jdk_53_method_1_code 16 = .ok (.putfield 17, 3) := by decide +kernel
theorem own_d16_19 : decode jdk_53_method_1_code 19 = .ok (.aload_n 0, 1) := by decide +kernel
theorem own_d16_20 : decode jdk_53_method_1_code 20 = .ok (.iconst 0, 1) := by decide +kernel
theorem own_d16_21 : decode jdk_53_method_1_code 21 = .ok (.putfield 20, 3) := by decide +kernel
theorem own_d16_24 : decode jdk_53_method_1_code 24 = .ok (.return_, 1) := by decide +kernel
theorem own_d17_0 : decode jdk_53_method_3_code 0 = .ok (.aload_n 0, 1) := by decide +kernel
theorem own_d17_1 : decode jdk_53_method_3_code 1 = .ok (.getfield 17, 3) := by decide +kernel
theorem own_d17_4 : decode jdk_53_method_3_code 4 = .ok (.aload_n 0, 1) := by decide +kernel
theorem own_d17_5 : decode jdk_53_method_3_code 5 = .ok (.getfield 13, 3) := by decide +kernel
theorem own_d17_8 : decode jdk_53_method_3_code 8 = .ok (.if_icmp .eq 7, 3) := by decide +kernel
theorem own_d17_11 : decode jdk_53_method_3_code 11 = .ok (.iconst 1, 1) := by decide +kernel
theorem own_d17_12 : decode jdk_53_method_3_code 12 = .ok (.goto 4, 3) := by decide +kernel
theorem own_d17_15 : decode jdk_53_method_3_code 15 = .ok (.iconst 0, 1) := by decide +kernel
theorem own_d17_16 : decode jdk_53_method_3_code 16 = .ok (.ireturn, 1) := by decide +kernel
theorem own_d18_0 : decode jdk_53_method_4_code 0 = .ok (.aload_n 0, 1) := by decide +kernel
theorem own_d18_1 : decode jdk_53_method_4_code 1 = .ok (.getfield 17, 3) := by decide +kernel
theorem own_d18_4 : decode jdk_53_method_4_code 4 = .ok (.istore_n 1, 1) := by decide +kernel
theorem own_d18_5 : decode jdk_53_method_4_code 5 = .ok (.aload_n 0, 1) := by decide +kernel
theorem own_d18_6 : decode jdk_53_method_4_code 6 = .ok (.getfield 7, 3) := by decide +kernel
theorem own_d18_9 : decode jdk_53_method_4_code 9 = .ok (.iload_n 1, 1) := by decide +kernel
theorem own_d18_10 : decode jdk_53_method_4_code 10 = .ok (.invokeinterface 24 2, 5) := by decide +kernel
theorem own_d18_15 : decode jdk_53_method_4_code 15 = .ok (.astore_n 2, 1) := by decide +kernel
theorem own_d18_16 : decode jdk_53_method_4_code 16 = .ok (.aload_n 0, 1) := by decide +kernel
theorem own_d18_17 : decode jdk_53_method_4_code 17 = .ok (.iload_n 1, 1) := by decide +kernel
theorem own_d18_18 : decode jdk_53_method_4_code 18 = .ok (.iconst 1, 1) := by decide +kernel
theorem own_d18_19 : decode jdk_53_method_4_code 19 = .ok (.iadd, 1) := by decide +kernel
theorem own_d18_20 : decode jdk_53_method_4_code 20 = .ok (.putfield 17, 3) := by decide +kernel
theorem own_d18_23 : decode jdk_53_method_4_code 23 = .ok (.aload_n 2, 1) := by decide +kernel
theorem own_d18_24 : decode jdk_53_method_4_code 24 = .ok (.areturn, 1) := by decide +kernel
theorem own_d19_0 : decode jdk_45_method_4_code 0 = .ok (.aload_n 0, 1) := by decide +kernel
theorem own_d19_1 : decode jdk_45_method_4_code 1 = .ok (.getfield 7, 3) := by decide +kernel
theorem own_d19_4 : decode jdk_45_method_4_code 4 = .ok (.iload_n 1, 1) := by decide +kernel
theorem own_d19_5 : decode jdk_45_method_4_code 5 = .ok (.aaload, 1) := by decide +kernel
theorem own_d19_6 : decode jdk_45_method_4_code 6 = .ok (.areturn, 1) := by decide +kernel
theorem own_d20_0 : decode jdk_117_method_19_code 0 = .ok (.aload_n 0, 1) := by decide +kernel
theorem own_d20_1 : decode jdk_117_method_19_code 1 = .ok (.getfield 118, 3) := by decide +kernel
theorem own_d20_4 : decode jdk_117_method_19_code 4 = .ok (.dreturn, 1) := by decide +kernel
theorem own_d21_0 : decode jdk_117_method_8_code 0 = .ok (.dload_n 0, 1) := by decide +kernel
theorem own_d21_1 : decode jdk_117_method_8_code 1 = .ok (.invokestatic 38, 3) := by decide +kernel
theorem own_d21_4 : decode jdk_117_method_8_code 4 = .ok (.ldc2_w 111, 3) := by decide +kernel
theorem own_d21_7 : decode jdk_117_method_8_code 7 = .ok (.dcmp .g, 1) := by decide +kernel
theorem own_d21_8 : decode jdk_117_method_8_code 8 = .ok (.ifCond .gt 7, 3) := by decide +kernel
theorem own_d21_11 : decode jdk_117_method_8_code 11 = .ok (.iconst 1, 1) := by decide +kernel
theorem own_d21_12 : decode jdk_117_method_8_code 12 = .ok (.goto 4, 3) := by decide +kernel
theorem own_d21_16 : decode jdk_117_method_8_code 16 = .ok (.ireturn, 1) := by decide +kernel
theorem own_d23_0 : decode prog_39_method_4_code 0 = .ok (.aload_n 0, 1) := by decide +kernel
theorem own_d23_1 : decode prog_39_method_4_code 1 = .ok (.getfield 53, 3) := by decide +kernel
theorem own_d23_4 : decode prog_39_method_4_code 4 = .ok (.dload_n 1, 1) := by decide +kernel
theorem own_d23_5 : decode prog_39_method_4_code 5 = .ok (.dcmp .g, 1) := by decide +kernel
theorem own_d23_6 : decode prog_39_method_4_code 6 = .ok (.ifCond .gt 34, 3) := by decide +kernel
theorem own_d23_9 : decode prog_39_method_4_code 9 = .ok (.dload_n 1, 1) := by decide +kernel
theorem own_d23_10 : decode prog_39_method_4_code 10 = .ok (.aload_n 0, 1) := by decide +kernel
theorem own_d23_11 : decode prog_39_method_4_code 11 = .ok (.getfield 62, 3) := by decide +kernel
theorem own_d23_14 : decode prog_39_method_4_code 14 = .ok (.dcmp .g, 1) := by decide +kernel
theorem own_d23_15 : decode prog_39_method_4_code 15 = .ok (.ifCond .gt 25, 3) := by decide +kernel
theorem own_d23_18 : decode prog_39_method_4_code 18 = .ok (.aload_n 0, 1) := by decide +kernel
theorem own_d23_19 : decode prog_39_method_4_code 19 = .ok (.getfield 59, 3) := by decide +kernel
theorem own_d23_22 : decode prog_39_method_4_code 22 = .ok (.dload_n 3, 1) := by decide +kernel
theorem own_d23_23 : decode prog_39_method_4_code 23 = .ok (.dcmp .g, 1) := by decide +kernel
theorem own_d23_24 : decode prog_39_method_4_code 24 = .ok (.ifCond .gt 16, 3) := by decide +kernel
theorem own_d23_27 : decode prog_39_method_4_code 27 = .ok (.dload_n 3, 1) := by decide +kernel
theorem own_d23_28 : decode prog_39_method_4_code 28 = .ok (.aload_n 0, 1) := by decide +kernel
theorem own_d23_29 : decode prog_39_method_4_code 29 = .ok (.getfield 65, 3) := by decide +kernel
theorem own_d23_32 : decode prog_39_method_4_code 32 = .ok (.dcmp .g, 1) := by decide +kernel
theorem own_d23_33 : decode prog_39_method_4_code 33 = .ok (.ifCond .gt 7, 3) := by decide +kernel
theorem own_d23_36 : decode prog_39_method_4_code 36 = .ok (.iconst 1, 1) := by decide +kernel
theorem own_d23_37 : decode prog_39_method_4_code 37 = .ok (.goto 4, 3) := by decide +kernel
theorem own_d23_40 : decode prog_39_method_4_code 40 = .ok (.iconst 0, 1) := by decide +kernel
theorem own_d23_41 : decode prog_39_method_4_code 41 = .ok (.ireturn, 1) := by decide +kernel
theorem own_pd0 : parseMethodDescriptor "()V" = some ⟨[], none⟩ := by decide +kernel
theorem own_pd1 : parseMethodDescriptor "(D)V" = some ⟨[.double], none⟩ := by decide +kernel
theorem own_pd2 : parseMethodDescriptor "(D)D" = some ⟨[.double], some .double⟩ := by decide +kernel
theorem own_pd3 : parseMethodDescriptor "(Ljava/lang/Object;)Ljava/lang/Object;" = some ⟨[(.object "java/lang/Object")], some (.object "java/lang/Object")⟩ := by decide +kernel
theorem own_pd4 : parseMethodDescriptor "([Ljava/lang/Object;Z)V" = some ⟨[(.array (.object "java/lang/Object")), .boolean], none⟩ := by decide +kernel
theorem own_pd5 : parseMethodDescriptor "([Ljava/lang/Object;)Ljava/util/List;" = some ⟨[(.array (.object "java/lang/Object"))], some (.object "java/util/List")⟩ := by decide +kernel
theorem own_pd6 : parseMethodDescriptor "(I)Ljava/lang/Object;" = some ⟨[.int], some (.object "java/lang/Object")⟩ := by decide +kernel
theorem own_pd7 : parseMethodDescriptor "()I" = some ⟨[], some .int⟩ := by decide +kernel
theorem own_pd8 : parseMethodDescriptor "(Ljava/util/List;I)V" = some ⟨[(.object "java/util/List"), .int], none⟩ := by decide +kernel
theorem own_pd9 : parseMethodDescriptor "()Z" = some ⟨[], some .boolean⟩ := by decide +kernel
theorem own_pd10 : parseMethodDescriptor "()Ljava/lang/Object;" = some ⟨[], some (.object "java/lang/Object")⟩ := by decide +kernel
theorem own_pd11 : parseMethodDescriptor "()D" = some ⟨[], some .double⟩ := by decide +kernel
theorem own_pd12 : parseMethodDescriptor "(D)Z" = some ⟨[.double], some .boolean⟩ := by decide +kernel
theorem own_pd13 : parseMethodDescriptor "(D)Ljava/lang/Double;" = some ⟨[.double], some (.object "java/lang/Double")⟩ := by decide +kernel
theorem own_pd14 : parseMethodDescriptor "(Ljava/lang/Object;Ljava/lang/Object;Ljava/lang/Object;Ljava/lang/Object;)Ljava/util/List;" = some ⟨[(.object "java/lang/Object"), (.object "java/lang/Object"), (.object "java/lang/Object"), (.object "java/lang/Object")], some (.object "java/util/List")⟩ := by decide +kernel
theorem own_pd15 : parseMethodDescriptor "()Ljava/util/Iterator;" = some ⟨[], some (.object "java/util/Iterator")⟩ := by decide +kernel
theorem own_pd16 : parseMethodDescriptor "(DDDD)V" = some ⟨[.double, .double, .double, .double], none⟩ := by decide +kernel
theorem own_pd17 : parseMethodDescriptor "(DD)Z" = some ⟨[.double, .double], some .boolean⟩ := by decide +kernel
theorem own_pn0 : plainName "com/example/cairntree/cairntree/WindowContainsPinLaw" = true := by first | (simp [plainName, overriddenIn]; done) | decide +kernel
theorem own_pn1 : plainName "com/example/cairntree/cairntree/Window" = true := by first | (simp [plainName, overriddenIn]; done) | decide +kernel
theorem own_pn2 : plainName "java/lang/Record" = true := by first | (simp [plainName, overriddenIn]; done) | decide +kernel
theorem own_pn4 : plainName "java/lang/Double" = true := by first | (simp [plainName, overriddenIn]; done) | decide +kernel
theorem own_pn5 : plainName "java/lang/Double" = true := by first | (simp [plainName, overriddenIn]; done) | decide +kernel
theorem own_pn6 : plainName "java/lang/Number" = true := by first | (simp [plainName, overriddenIn]; done) | decide +kernel
theorem own_pn7 : plainName "java/util/List" = true := by first | (simp [plainName, overriddenIn]; done) | decide +kernel
theorem own_pn8 : plainName "java/util/ImmutableCollections" = true := by first | (simp [plainName, overriddenIn]; done) | decide +kernel
theorem own_pn9 : plainName "java/util/Objects" = true := by first | (simp [plainName, overriddenIn]; done) | decide +kernel
theorem own_pn10 : plainName "java/util/ImmutableCollections$ListN" = true := by first | (simp [plainName, overriddenIn]; done) | decide +kernel
theorem own_pn11 : plainName "java/util/ImmutableCollections$AbstractImmutableList" = true := by first | (simp [plainName, overriddenIn]; done) | decide +kernel
theorem own_pn12 : plainName "java/util/ImmutableCollections$AbstractImmutableCollection" = true := by first | (simp [plainName, overriddenIn]; done) | decide +kernel
theorem own_pn13 : plainName "java/util/AbstractCollection" = true := by first | (simp [plainName, overriddenIn]; done) | decide +kernel
theorem own_pn14 : plainName "java/util/ImmutableCollections$AbstractImmutableList" = true := by first | (simp [plainName, overriddenIn]; done) | decide +kernel
theorem own_pn15 : plainName "java/util/ImmutableCollections$ListN" = true := by first | (simp [plainName, overriddenIn]; done) | decide +kernel
theorem own_pn16 : plainName "java/util/ImmutableCollections$ListItr" = true := by first | (simp [plainName, overriddenIn]; done) | decide +kernel
theorem own_pn17 : plainName "java/util/ImmutableCollections$ListItr" = true := by first | (simp [plainName, overriddenIn]; done) | decide +kernel
theorem own_pn18 : plainName "java/util/ImmutableCollections$ListItr" = true := by first | (simp [plainName, overriddenIn]; done) | decide +kernel
theorem own_pn19 : plainName "java/util/ImmutableCollections$ListN" = true := by first | (simp [plainName, overriddenIn]; done) | decide +kernel
theorem own_pn20 : plainName "java/lang/Double" = true := by first | (simp [plainName, overriddenIn]; done) | decide +kernel
theorem own_pn21 : plainName "java/lang/Double" = true := by first | (simp [plainName, overriddenIn]; done) | decide +kernel
theorem own_pn23 : plainName "com/example/cairntree/cairntree/Window" = true := by first | (simp [plainName, overriddenIn]; done) | decide +kernel
theorem own_ef_own_record (m : MethodId) (a1 : Addr) : entryFrame m #[(.ref a1)] 1 = mkF m 0 #[.val (.ref a1)] [] := by first | (simp [entryFrame, mkF, argsToLocals, Value.category]; done) | rfl
def own_Q_own_record (Z : State) (a1 : Addr) (h0 : Heap) (n0 : Nat) (v : Option Value) (h : Heap) (L : List Loc) : Prop := v = none ∧ Fr n0 L ∧ h = h0
set_option maxRecDepth 65536 in
set_option maxHeartbeats 40000000 in
theorem own_record (l : Launch) (Z : State) (a0 : Array Value) (hw : ∀ d ∈ tables_1, d.before a0 Z = true) (ws : List Jvm.Cond) (a1 : Addr) (h0 : Heap) (n0 : Nat) (Z0 : n0 ≤ h0.size)  :
    MetFree l (⟨"java/lang/Record", "<init>", "()V"⟩ : MethodName) (head1 (Jvm.Cond.code (⟨"java/lang/Record", "<init>", "()V"⟩ : MethodName) jdk_30_method_1_code 1 none :: ws) ({ frames := 1, cells := 0, slots := 0, locals := 12 } : Room)) (fun a U => a = #[(.ref a1)] ∧ Z.Warmed39 U.vm ∧ U.heap = h0) (fun _ _ _ _ _ => True) (fun _ U o U' => ∃ v L, o = .returned v ∧ own_Q_own_record Z a1 h0 n0 v U'.heap L ∧ FrameEnd U o U' L ({ frames := 1, cells := 0, slots := 0, locals := 12 } : Room).cells ({ frames := 1, cells := 0, slots := 0, locals := 12 } : Room).slots) := by
  refine MetFree.of_bodySF (plainFor_of_name own_pn2) hisR ?_
  intro p e s m args below meth c s₁ Bd hml0 hP hK
  obtain ⟨rfl, hZ, hh⟩ := hP
  have hx := Bd.exec
  have hby := Bd.bytes
  have hml : c.maxLocals = 1 := hml0
  have hown : s.vm.findClass "java/lang/Record" = some m.cls := findClass_of_methodNamed Bd.named
  have hnm := (name_of_methodNamed Bd.named Bd.method).1
  have X0 : Stand p l e ({ frames := 1, cells := 0, slots := 0, locals := 12 } : Room) s m #[(.ref a1)] below meth c s₁ [] 0 0 := Stand.of_body Bd
  have e0 : s₁.heap = h0 := by rw [← hh, Bd.state]; rfl
  have N0 := Fr.nil n0
  refine own_open ?_
  intro R hR
  rw [own_ef_own_record m a1]
  show own_W p e below R (s₁.setTop (mkF m 0 #[.val (.ref a1)] []))
  refine own_go (A' := (s₁.setTop (mkF m 1 #[.val (.ref a1)] [(.ref a1)]))) (fun _ k => XS.aloadN X0.here hx rfl (hb hby own_d2_0) rfl rfl k) ?_
  obtain ⟨T1, X1, e1, st1⟩ := initO X0 hx hZ hown (hw _ (List.mem_of_getElem? (i := 12) rfl)) (hw _ (List.mem_of_getElem? (i := 13) rfl)) (hw _ (List.mem_of_getElem? (i := 14) rfl)) e0 (g := (mkF m 1 #[.val (.ref a1)] [(.ref a1)])) rfl (by rw [hml]; rfl) rfl (hb hby own_d2_1) (by decide) (W := 0) (by show 2 * 0 + _ ≤ _; exact Nat.le_of_eq rfl) (by decide)
  refine own_go (A' := (T1.setTop (mkF m 4 #[.val (.ref a1)] []))) (fun _ k => st1 _ k) ?_
  obtain ⟨fs, hr, hrun, hended, hW, hsame⟩ := X1.leave (v := none) (fun _ => rfl)
  refine ⟨_, _, X1.returnOut hx Bd.returns (hb hby own_d2_4) hr, hR _ _ ⟨hrun, hended, _, _, rfl, ?_, ⟨_, rfl⟩, hW, hsame.mono (by decide) (by decide)⟩⟩
  show own_Q_own_record Z a1 h0 n0 _ T1.heap _
  rw [e1]
  exact ⟨rfl, N0, rfl⟩
theorem own_ef_own_number (m : MethodId) (a1 : Addr) : entryFrame m #[(.ref a1)] 1 = mkF m 0 #[.val (.ref a1)] [] := by first | (simp [entryFrame, mkF, argsToLocals, Value.category]; done) | rfl
def own_Q_own_number (Z : State) (a1 : Addr) (h0 : Heap) (n0 : Nat) (v : Option Value) (h : Heap) (L : List Loc) : Prop := v = none ∧ Fr n0 L ∧ h = h0
set_option maxRecDepth 65536 in
set_option maxHeartbeats 40000000 in
theorem own_number (l : Launch) (Z : State) (a0 : Array Value) (hw : ∀ d ∈ tables_1, d.before a0 Z = true) (ws : List Jvm.Cond) (a1 : Addr) (h0 : Heap) (n0 : Nat) (Z0 : n0 ≤ h0.size)  :
    MetFree l (⟨"java/lang/Number", "<init>", "()V"⟩ : MethodName) (head1 (Jvm.Cond.code (⟨"java/lang/Number", "<init>", "()V"⟩ : MethodName) jdk_18_method_1_code 1 none :: ws) ({ frames := 1, cells := 0, slots := 0, locals := 12 } : Room)) (fun a U => a = #[(.ref a1)] ∧ Z.Warmed39 U.vm ∧ U.heap = h0) (fun _ _ _ _ _ => True) (fun _ U o U' => ∃ v L, o = .returned v ∧ own_Q_own_number Z a1 h0 n0 v U'.heap L ∧ FrameEnd U o U' L ({ frames := 1, cells := 0, slots := 0, locals := 12 } : Room).cells ({ frames := 1, cells := 0, slots := 0, locals := 12 } : Room).slots) := by
  refine MetFree.of_bodySF (plainFor_of_name own_pn6) hisR ?_
  intro p e s m args below meth c s₁ Bd hml0 hP hK
  obtain ⟨rfl, hZ, hh⟩ := hP
  have hx := Bd.exec
  have hby := Bd.bytes
  have hml : c.maxLocals = 1 := hml0
  have hown : s.vm.findClass "java/lang/Number" = some m.cls := findClass_of_methodNamed Bd.named
  have hnm := (name_of_methodNamed Bd.named Bd.method).1
  have X0 : Stand p l e ({ frames := 1, cells := 0, slots := 0, locals := 12 } : Room) s m #[(.ref a1)] below meth c s₁ [] 0 0 := Stand.of_body Bd
  have e0 : s₁.heap = h0 := by rw [← hh, Bd.state]; rfl
  have N0 := Fr.nil n0
  refine own_open ?_
  intro R hR
  rw [own_ef_own_number m a1]
  show own_W p e below R (s₁.setTop (mkF m 0 #[.val (.ref a1)] []))
  refine own_go (A' := (s₁.setTop (mkF m 1 #[.val (.ref a1)] [(.ref a1)]))) (fun _ k => XS.aloadN X0.here hx rfl (hb hby own_d6_0) rfl rfl k) ?_
  obtain ⟨T1, X1, e1, st1⟩ := initO X0 hx hZ hown (hw _ (List.mem_of_getElem? (i := 31) rfl)) (hw _ (List.mem_of_getElem? (i := 13) rfl)) (hw _ (List.mem_of_getElem? (i := 14) rfl)) e0 (g := (mkF m 1 #[.val (.ref a1)] [(.ref a1)])) rfl (by rw [hml]; rfl) rfl (hb hby own_d6_1) (by decide) (W := 0) (by show 2 * 0 + _ ≤ _; exact Nat.le_of_eq rfl) (by decide)
  refine own_go (A' := (T1.setTop (mkF m 4 #[.val (.ref a1)] []))) (fun _ k => st1 _ k) ?_
  obtain ⟨fs, hr, hrun, hended, hW, hsame⟩ := X1.leave (v := none) (fun _ => rfl)
  refine ⟨_, _, X1.returnOut hx Bd.returns (hb hby own_d6_4) hr, hR _ _ ⟨hrun, hended, _, _, rfl, ?_, ⟨_, rfl⟩, hW, hsame.mono (by decide) (by decide)⟩⟩
  show own_Q_own_number Z a1 h0 n0 _ T1.heap _
  rw [e1]
  exact ⟨rfl, N0, rfl⟩
theorem own_ef_own_ac (m : MethodId) (a1 : Addr) : entryFrame m #[(.ref a1)] 1 = mkF m 0 #[.val (.ref a1)] [] := by first | (simp [entryFrame, mkF, argsToLocals, Value.category]; done) | rfl
def own_Q_own_ac (Z : State) (a1 : Addr) (h0 : Heap) (n0 : Nat) (v : Option Value) (h : Heap) (L : List Loc) : Prop := v = none ∧ Fr n0 L ∧ h = h0
set_option maxRecDepth 65536 in
set_option maxHeartbeats 40000000 in
theorem own_ac (l : Launch) (Z : State) (a0 : Array Value) (hw : ∀ d ∈ tables_1, d.before a0 Z = true) (ws : List Jvm.Cond) (a1 : Addr) (h0 : Heap) (n0 : Nat) (Z0 : n0 ≤ h0.size)  :
    MetFree l (⟨"java/util/AbstractCollection", "<init>", "()V"⟩ : MethodName) (head1 (Jvm.Cond.code (⟨"java/util/AbstractCollection", "<init>", "()V"⟩ : MethodName) jdk_22_method_1_code 1 none :: ws) ({ frames := 1, cells := 0, slots := 0, locals := 12 } : Room)) (fun a U => a = #[(.ref a1)] ∧ Z.Warmed39 U.vm ∧ U.heap = h0) (fun _ _ _ _ _ => True) (fun _ U o U' => ∃ v L, o = .returned v ∧ own_Q_own_ac Z a1 h0 n0 v U'.heap L ∧ FrameEnd U o U' L ({ frames := 1, cells := 0, slots := 0, locals := 12 } : Room).cells ({ frames := 1, cells := 0, slots := 0, locals := 12 } : Room).slots) := by
  refine MetFree.of_bodySF (plainFor_of_name own_pn13) hisR ?_
  intro p e s m args below meth c s₁ Bd hml0 hP hK
  obtain ⟨rfl, hZ, hh⟩ := hP
  have hx := Bd.exec
  have hby := Bd.bytes
  have hml : c.maxLocals = 1 := hml0
  have hown : s.vm.findClass "java/util/AbstractCollection" = some m.cls := findClass_of_methodNamed Bd.named
  have hnm := (name_of_methodNamed Bd.named Bd.method).1
  have X0 : Stand p l e ({ frames := 1, cells := 0, slots := 0, locals := 12 } : Room) s m #[(.ref a1)] below meth c s₁ [] 0 0 := Stand.of_body Bd
  have e0 : s₁.heap = h0 := by rw [← hh, Bd.state]; rfl
  have N0 := Fr.nil n0
  refine own_open ?_
  intro R hR
  rw [own_ef_own_ac m a1]
  show own_W p e below R (s₁.setTop (mkF m 0 #[.val (.ref a1)] []))
  refine own_go (A' := (s₁.setTop (mkF m 1 #[.val (.ref a1)] [(.ref a1)]))) (fun _ k => XS.aloadN X0.here hx rfl (hb hby own_d13_0) rfl rfl k) ?_
  obtain ⟨T1, X1, e1, st1⟩ := initO X0 hx hZ hown (hw _ (List.mem_of_getElem? (i := 75) rfl)) (hw _ (List.mem_of_getElem? (i := 13) rfl)) (hw _ (List.mem_of_getElem? (i := 14) rfl)) e0 (g := (mkF m 1 #[.val (.ref a1)] [(.ref a1)])) rfl (by rw [hml]; rfl) rfl (hb hby own_d13_1) (by decide) (W := 0) (by show 2 * 0 + _ ≤ _; exact Nat.le_of_eq rfl) (by decide)
  refine own_go (A' := (T1.setTop (mkF m 4 #[.val (.ref a1)] []))) (fun _ k => st1 _ k) ?_
  obtain ⟨fs, hr, hrun, hended, hW, hsame⟩ := X1.leave (v := none) (fun _ => rfl)
  refine ⟨_, _, X1.returnOut hx Bd.returns (hb hby own_d13_4) hr, hR _ _ ⟨hrun, hended, _, _, rfl, ?_, ⟨_, rfl⟩, hW, hsame.mono (by decide) (by decide)⟩⟩
  show own_Q_own_ac Z a1 h0 n0 _ T1.heap _
  rw [e1]
  exact ⟨rfl, N0, rfl⟩
theorem own_ef_own_aic (m : MethodId) (a1 : Addr) : entryFrame m #[(.ref a1)] 1 = mkF m 0 #[.val (.ref a1)] [] := by first | (simp [entryFrame, mkF, argsToLocals, Value.category]; done) | rfl
def own_Q_own_aic (Z : State) (a1 : Addr) (h0 : Heap) (n0 : Nat) (v : Option Value) (h : Heap) (L : List Loc) : Prop := v = none ∧ Fr n0 L ∧ h = h0
set_option maxRecDepth 65536 in
set_option maxHeartbeats 40000000 in
theorem own_aic (l : Launch) (Z : State) (a0 : Array Value) (hw : ∀ d ∈ tables_1, d.before a0 Z = true) (ws : List Jvm.Cond) (a1 : Addr) (h0 : Heap) (n0 : Nat) (Z0 : n0 ≤ h0.size)  :
    MetFree l (⟨"java/util/ImmutableCollections$AbstractImmutableCollection", "<init>", "()V"⟩ : MethodName) (head1 (Jvm.Cond.code (⟨"java/util/ImmutableCollections$AbstractImmutableCollection", "<init>", "()V"⟩ : MethodName) jdk_47_method_1_code 1 none :: ws) ({ frames := 2, cells := 0, slots := 0, locals := 24 } : Room)) (fun a U => a = #[(.ref a1)] ∧ Z.Warmed39 U.vm ∧ U.heap = h0) (fun _ _ _ _ _ => True) (fun _ U o U' => ∃ v L, o = .returned v ∧ own_Q_own_aic Z a1 h0 n0 v U'.heap L ∧ FrameEnd U o U' L ({ frames := 2, cells := 0, slots := 0, locals := 24 } : Room).cells ({ frames := 2, cells := 0, slots := 0, locals := 24 } : Room).slots) := by
  refine MetFree.of_bodySF (plainFor_of_name own_pn12) hisR ?_
  intro p e s m args below meth c s₁ Bd hml0 hP hK
  obtain ⟨rfl, hZ, hh⟩ := hP
  have hx := Bd.exec
  have hby := Bd.bytes
  have hml : c.maxLocals = 1 := hml0
  have hown : s.vm.findClass "java/util/ImmutableCollections$AbstractImmutableCollection" = some m.cls := findClass_of_methodNamed Bd.named
  have hnm := (name_of_methodNamed Bd.named Bd.method).1
  have X0 : Stand p l e ({ frames := 2, cells := 0, slots := 0, locals := 24 } : Room) s m #[(.ref a1)] below meth c s₁ [] 0 0 := Stand.of_body Bd
  have e0 : s₁.heap = h0 := by rw [← hh, Bd.state]; rfl
  have N0 := Fr.nil n0
  refine own_open ?_
  intro R hR
  rw [own_ef_own_aic m a1]
  show own_W p e below R (s₁.setTop (mkF m 0 #[.val (.ref a1)] []))
  refine own_go (A' := (s₁.setTop (mkF m 1 #[.val (.ref a1)] [(.ref a1)]))) (fun _ k => XS.aloadN X0.here hx rfl (hb hby own_d12_0) rfl rfl k) ?_
  obtain ⟨_, _, ⟨T1, L1, k1, n1⟩, -, X1, ⟨Lc1, hQ1, l1, y1, z1⟩, st1⟩ := X0.specialBack hx (y := (⟨"java/util/AbstractCollection", "<init>", "()V"⟩ : MethodName)) rfl hown (mvT hZ (hw _ (List.mem_of_getElem? (i := 69) rfl))) (mvT hZ (hw _ (List.mem_of_getElem? (i := 70) rfl))) (mvT hZ (hw _ (List.mem_of_getElem? (i := 74) rfl))) (by decide) (backOf (W := 0) (own_ac l Z a0 hw [] a1 h0 n0 Z0) hZ (hw _ (List.mem_of_getElem? (i := 74) rfl)) (hw _ (List.mem_of_getElem? (i := 73) rfl)) (by decide) (by decide)) (g := (mkF m 1 #[.val (.ref a1)] [(.ref a1)])) rfl (by rw [hml]; rfl) (Steps.refl _) (a := a1) (argsL := []) (rest := []) (lenOf own_pd0 rfl) rfl (by show 2 * 0 + _ ≤ _; exact Nat.le_of_eq rfl) (hb hby own_d12_1) (fun _ _ => ⟨rfl, e0, (by decide : 0 + 0 ≤ _), (by decide : 0 + 0 ≤ _)⟩)
  dsimp only [Pt.U, Pt.locs, Pt.cells, Pt.slots] at X1 l1 y1 z1 st1 hQ1
  subst l1 y1 z1
  obtain ⟨rfl, N1q, hh1⟩ := hQ1
  have N1 := Fr.app N0 N1q
  refine own_go (A' := (T1.setTop (mkF m 4 #[.val (.ref a1)] []))) (fun _ k => st1.trans k) ?_
  obtain ⟨fs, hr, hrun, hended, hW, hsame⟩ := X1.leave (v := none) (fun _ => rfl)
  refine ⟨_, _, X1.returnOut hx Bd.returns (hb hby own_d12_4) hr, hR _ _ ⟨hrun, hended, _, _, rfl, ?_, ⟨_, rfl⟩, hW, hsame.mono (by decide) (by decide)⟩⟩
  show own_Q_own_aic Z a1 h0 n0 _ T1.heap _
  rw [hh1]
  exact ⟨rfl, N1, rfl⟩
theorem own_ef_own_ail (m : MethodId) (a1 : Addr) : entryFrame m #[(.ref a1)] 1 = mkF m 0 #[.val (.ref a1)] [] := by first | (simp [entryFrame, mkF, argsToLocals, Value.category]; done) | rfl
def own_Q_own_ail (Z : State) (a1 : Addr) (h0 : Heap) (n0 : Nat) (v : Option Value) (h : Heap) (L : List Loc) : Prop := v = none ∧ Fr n0 L ∧ h = h0
set_option maxRecDepth 65536 in
set_option maxHeartbeats 40000000 in
theorem own_ail (l : Launch) (Z : State) (a0 : Array Value) (hw : ∀ d ∈ tables_1, d.before a0 Z = true) (ws : List Jvm.Cond) (a1 : Addr) (h0 : Heap) (n0 : Nat) (Z0 : n0 ≤ h0.size)  :
    MetFree l (⟨"java/util/ImmutableCollections$AbstractImmutableList", "<init>", "()V"⟩ : MethodName) (head1 (Jvm.Cond.code (⟨"java/util/ImmutableCollections$AbstractImmutableList", "<init>", "()V"⟩ : MethodName) jdk_46_method_1_code 1 none :: ws) ({ frames := 3, cells := 0, slots := 0, locals := 36 } : Room)) (fun a U => a = #[(.ref a1)] ∧ Z.Warmed39 U.vm ∧ U.heap = h0) (fun _ _ _ _ _ => True) (fun _ U o U' => ∃ v L, o = .returned v ∧ own_Q_own_ail Z a1 h0 n0 v U'.heap L ∧ FrameEnd U o U' L ({ frames := 3, cells := 0, slots := 0, locals := 36 } : Room).cells ({ frames := 3, cells := 0, slots := 0, locals := 36 } : Room).slots) := by
  refine MetFree.of_bodySF (plainFor_of_name own_pn11) hisR ?_
  intro p e s m args below meth c s₁ Bd hml0 hP hK
  obtain ⟨rfl, hZ, hh⟩ := hP
  have hx := Bd.exec
  have hby := Bd.bytes
  have hml : c.maxLocals = 1 := hml0
  have hown : s.vm.findClass "java/util/ImmutableCollections$AbstractImmutableList" = some m.cls := findClass_of_methodNamed Bd.named
  have hnm := (name_of_methodNamed Bd.named Bd.method).1
  have X0 : Stand p l e ({ frames := 3, cells := 0, slots := 0, locals := 36 } : Room) s m #[(.ref a1)] below meth c s₁ [] 0 0 := Stand.of_body Bd
  have e0 : s₁.heap = h0 := by rw [← hh, Bd.state]; rfl
  have N0 := Fr.nil n0
  refine own_open ?_
  intro R hR
  rw [own_ef_own_ail m a1]
  show own_W p e below R (s₁.setTop (mkF m 0 #[.val (.ref a1)] []))
  refine own_go (A' := (s₁.setTop (mkF m 1 #[.val (.ref a1)] [(.ref a1)]))) (fun _ k => XS.aloadN X0.here hx rfl (hb hby own_d11_0) rfl rfl k) ?_
  obtain ⟨_, _, ⟨T1, L1, k1, n1⟩, -, X1, ⟨Lc1, hQ1, l1, y1, z1⟩, st1⟩ := X0.specialBack hx (y := (⟨"java/util/ImmutableCollections$AbstractImmutableCollection", "<init>", "()V"⟩ : MethodName)) rfl hown (mvT hZ (hw _ (List.mem_of_getElem? (i := 63) rfl))) (mvT hZ (hw _ (List.mem_of_getElem? (i := 64) rfl))) (mvT hZ (hw _ (List.mem_of_getElem? (i := 68) rfl))) (by decide) (backOf (W := 0) (own_aic l Z a0 hw [] a1 h0 n0 Z0) hZ (hw _ (List.mem_of_getElem? (i := 68) rfl)) (hw _ (List.mem_of_getElem? (i := 67) rfl)) (by decide) (by decide)) (g := (mkF m 1 #[.val (.ref a1)] [(.ref a1)])) rfl (by rw [hml]; rfl) (Steps.refl _) (a := a1) (argsL := []) (rest := []) (lenOf own_pd0 rfl) rfl (by show 2 * 0 + _ ≤ _; exact Nat.le_of_eq rfl) (hb hby own_d11_1) (fun _ _ => ⟨rfl, e0, (by decide : 0 + 0 ≤ _), (by decide : 0 + 0 ≤ _)⟩)
  dsimp only [Pt.U, Pt.locs, Pt.cells, Pt.slots] at X1 l1 y1 z1 st1 hQ1
  subst l1 y1 z1
  obtain ⟨rfl, N1q, hh1⟩ := hQ1
  have N1 := Fr.app N0 N1q
  refine own_go (A' := (T1.setTop (mkF m 4 #[.val (.ref a1)] []))) (fun _ k => st1.trans k) ?_
  obtain ⟨fs, hr, hrun, hended, hW, hsame⟩ := X1.leave (v := none) (fun _ => rfl)
  refine ⟨_, _, X1.returnOut hx Bd.returns (hb hby own_d11_4) hr, hR _ _ ⟨hrun, hended, _, _, rfl, ?_, ⟨_, rfl⟩, hW, hsame.mono (by decide) (by decide)⟩⟩
  show own_Q_own_ail Z a1 h0 n0 _ T1.heap _
  rw [hh1]
  exact ⟨rfl, N1, rfl⟩
theorem own_ef_own_dinit (m : MethodId) (a0_ : Addr) (d1 : UInt64) : entryFrame m #[(.ref a0_), (.double d1)] 3 = mkF m 0 #[.val (.ref a0_), .val (.double d1), .second] [] := by first | (simp [entryFrame, mkF, argsToLocals, Value.category]; done) | rfl
def own_Q_own_dinit (Z : State) (a0_ : Addr) (d1 : UInt64) (u0 : Value) (h0 : Heap) (n0 : Nat) (v : Option Value) (h : Heap) (L : List Loc) : Prop := v = none ∧ Fr n0 L ∧ Keep h0 h [a0_] ∧ Exa Z h a0_ "java/lang/Double" ∧ Fld Z h a0_ "java/lang/Double" "value" "D" (.double d1)
set_option maxRecDepth 65536 in
set_option maxHeartbeats 40000000 in
theorem own_dinit (l : Launch) (Z : State) (a0 : Array Value) (hw : ∀ d ∈ tables_1, d.before a0 Z = true) (ws : List Jvm.Cond) (a0_ : Addr) (d1 : UInt64) (u0 : Value) (h0 : Heap) (n0 : Nat) (Z0 : n0 ≤ h0.size) (E_a : Exa Z h0 a0_ "java/lang/Double") (F_a : Fld Z h0 a0_ "java/lang/Double" "value" "D" u0) (g_a : n0 ≤ a0_) :
    MetFree l (⟨"java/lang/Double", "<init>", "(D)V"⟩ : MethodName) (head1 (Jvm.Cond.code (⟨"java/lang/Double", "<init>", "(D)V"⟩ : MethodName) jdk_117_method_9_code 3 none :: ws) ({ frames := 2, cells := 0, slots := 0, locals := 24 } : Room)) (fun a U => a = #[(.ref a0_), (.double d1)] ∧ Z.Warmed39 U.vm ∧ U.heap = h0) (fun _ _ _ _ _ => True) (fun _ U o U' => ∃ v L, o = .returned v ∧ own_Q_own_dinit Z a0_ d1 u0 h0 n0 v U'.heap L ∧ FrameEnd U o U' L ({ frames := 2, cells := 0, slots := 0, locals := 24 } : Room).cells ({ frames := 2, cells := 0, slots := 0, locals := 24 } : Room).slots) := by
  refine MetFree.of_bodySF (plainFor_of_name own_pn5) hisR ?_
  intro p e s m args below meth c s₁ Bd hml0 hP hK
  obtain ⟨rfl, hZ, hh⟩ := hP
  have hx := Bd.exec
  have hby := Bd.bytes
  have hml : c.maxLocals = 3 := hml0
  have hown : s.vm.findClass "java/lang/Double" = some m.cls := findClass_of_methodNamed Bd.named
  have hnm := (name_of_methodNamed Bd.named Bd.method).1
  have X0 : Stand p l e ({ frames := 2, cells := 0, slots := 0, locals := 24 } : Room) s m #[(.ref a0_), (.double d1)] below meth c s₁ [] 0 0 := Stand.of_body Bd
  have e0 : s₁.heap = h0 := by rw [← hh, Bd.state]; rfl
  have N0 := Fr.nil n0
  refine own_open ?_
  intro R hR
  rw [own_ef_own_dinit m a0_ d1]
  show own_W p e below R (s₁.setTop (mkF m 0 #[.val (.ref a0_), .val (.double d1), .second] []))
  refine own_go (A' := (s₁.setTop (mkF m 1 #[.val (.ref a0_), .val (.double d1), .second] [(.ref a0_)]))) (fun _ k => XS.aloadN X0.here hx rfl (hb hby own_d5_0) rfl rfl k) ?_
  obtain ⟨_, _, ⟨T1, L1, k1, n1⟩, -, X1, ⟨Lc1, hQ1, l1, y1, z1⟩, st1⟩ := X0.specialBack hx (y := (⟨"java/lang/Number", "<init>", "()V"⟩ : MethodName)) rfl hown (mvT hZ (hw _ (List.mem_of_getElem? (i := 25) rfl))) (mvT hZ (hw _ (List.mem_of_getElem? (i := 26) rfl))) (mvT hZ (hw _ (List.mem_of_getElem? (i := 30) rfl))) (by decide) (backOf (W := 0) (own_number l Z a0 hw [] a0_ h0 n0 Z0) hZ (hw _ (List.mem_of_getElem? (i := 30) rfl)) (hw _ (List.mem_of_getElem? (i := 29) rfl)) (by decide) (by decide)) (g := (mkF m 1 #[.val (.ref a0_), .val (.double d1), .second] [(.ref a0_)])) rfl (by rw [hml]; rfl) (Steps.refl _) (a := a0_) (argsL := []) (rest := []) (lenOf own_pd0 rfl) rfl (by show 2 * 0 + _ ≤ _; exact Nat.le_of_eq rfl) (hb hby own_d5_1) (fun _ _ => ⟨rfl, e0, (by decide : 0 + 0 ≤ _), (by decide : 0 + 0 ≤ _)⟩)
  dsimp only [Pt.U, Pt.locs, Pt.cells, Pt.slots] at X1 l1 y1 z1 st1 hQ1
  subst l1 y1 z1
  obtain ⟨rfl, N1q, hh1⟩ := hQ1
  have N1 := Fr.app N0 N1q
  refine own_go (A' := (T1.setTop (mkF m 4 #[.val (.ref a0_), .val (.double d1), .second] []))) (fun _ k => st1.trans k) ?_
  have K_a : Keep h0 h0 [a0_] := Keep.refl _ _
  refine own_go (A' := (T1.setTop (mkF m 5 #[.val (.ref a0_), .val (.double d1), .second] [(.ref a0_)]))) (fun _ k => XS.aloadN X1.here hx rfl (hb hby own_d5_4) rfl rfl k) ?_
  refine own_go (A' := (T1.setTop (mkF m 6 #[.val (.ref a0_), .val (.double d1), .second] [(.double d1), (.ref a0_)]))) (fun _ k => XS.dloadN X1.here hx rfl (hb hby own_d5_5) rfl k) ?_
  obtain ⟨_, Fo⟩ := own_any F_a E_a (hw _ (List.mem_of_getElem? (i := 20) rfl)) (Or.inr (hw _ (List.mem_of_getElem? (i := 33) rfl)))
  obtain ⟨T2, h2, X2, e2, W2, st2⟩ := putF X1 hx hZ hown (host := "") (Or.inl (hw _ (List.mem_of_getElem? (i := 32) rfl))) Via.refl hh1 Fo E_a (Or.inr ⟨(hw _ (List.mem_of_getElem? (i := 33) rfl)), rfl, hnm⟩) (hw _ (List.mem_of_getElem? (i := 20) rfl)) (ty := .double) (by decide) rfl rfl (g := (mkF m 6 #[.val (.ref a0_), .val (.double d1), .second] [(.double d1), (.ref a0_)])) rfl rfl (hb hby own_d5_6)
  refine own_go (A' := (T2.setTop (mkF m 9 #[.val (.ref a0_), .val (.double d1), .second] []))) (fun _ k => st2 _ k) ?_
  have N2 := Fr.snoc X2 N1 g_a
  have K_a := K_a.wr W2 (Or.inl (List.mem_of_getElem? (i := 0) rfl))
  have E_a := E_a.wr W2
  have F1 := Fo.same W2
  obtain ⟨fs, hr, hrun, hended, hW, hsame⟩ := X2.leave (v := none) (fun _ => rfl)
  refine ⟨_, _, X2.returnOut hx Bd.returns (hb hby own_d5_9) hr, hR _ _ ⟨hrun, hended, _, _, rfl, ?_, ⟨_, rfl⟩, hW, hsame.mono (by decide) (by decide)⟩⟩
  show own_Q_own_dinit Z a0_ d1 u0 h0 n0 _ T2.heap _
  rw [e2]
  exact ⟨rfl, N2, K_a, E_a, F1⟩
theorem own_ef_own_dvalueOf (m : MethodId) (d1 : UInt64) : entryFrame m #[(.double d1)] 2 = mkF m 0 #[.val (.double d1), .second] [] := by first | (simp [entryFrame, mkF, argsToLocals, Value.category]; done) | rfl
def own_Q_own_dvalueOf (Z : State) (d1 : UInt64) (h0 : Heap) (n0 : Nat) (v : Option Value) (h : Heap) (L : List Loc) : Prop := ∃ b : Addr, v = some (.ref b) ∧ Fr n0 L ∧ Keep h0 h [] ∧ Exa Z h b "java/lang/Double" ∧ Fld Z h b "java/lang/Double" "value" "D" (.double d1) ∧ h0.size ≤ b
set_option maxRecDepth 65536 in
set_option maxHeartbeats 40000000 in
theorem own_dvalueOf (l : Launch) (Z : State) (a0 : Array Value) (hw : ∀ d ∈ tables_1, d.before a0 Z = true) (ws : List Jvm.Cond) (d1 : UInt64) (h0 : Heap) (n0 : Nat) (Z0 : n0 ≤ h0.size)  :
    MetFree l (⟨"java/lang/Double", "valueOf", "(D)Ljava/lang/Double;"⟩ : MethodName) (head1 (Jvm.Cond.code (⟨"java/lang/Double", "valueOf", "(D)Ljava/lang/Double;"⟩ : MethodName) jdk_117_method_4_code 2 (some (.object "java/lang/Double")) :: ws) ({ frames := 3, cells := 1, slots := 1, locals := 39 } : Room)) (fun a U => a = #[(.double d1)] ∧ Z.Warmed39 U.vm ∧ U.heap = h0) (fun _ _ _ _ _ => True) (fun _ U o U' => ∃ v L, o = .returned v ∧ own_Q_own_dvalueOf Z d1 h0 n0 v U'.heap L ∧ FrameEnd U o U' L ({ frames := 3, cells := 1, slots := 1, locals := 39 } : Room).cells ({ frames := 3, cells := 1, slots := 1, locals := 39 } : Room).slots) := by
  refine MetFree.of_bodySF (plainFor_of_name own_pn4) hisR ?_
  intro p e s m args below meth c s₁ Bd hml0 hP hK
  obtain ⟨rfl, hZ, hh⟩ := hP
  have hx := Bd.exec
  have hby := Bd.bytes
  have hml : c.maxLocals = 2 := hml0
  have hown : s.vm.findClass "java/lang/Double" = some m.cls := findClass_of_methodNamed Bd.named
  have hnm := (name_of_methodNamed Bd.named Bd.method).1
  have X0 : Stand p l e ({ frames := 3, cells := 1, slots := 1, locals := 39 } : Room) s m #[(.double d1)] below meth c s₁ [] 0 0 := Stand.of_body Bd
  have e0 : s₁.heap = h0 := by rw [← hh, Bd.state]; rfl
  have N0 := Fr.nil n0
  refine own_open ?_
  intro R hR
  rw [own_ef_own_dvalueOf m d1]
  show own_W p e below R (s₁.setTop (mkF m 0 #[.val (.double d1), .second] []))
  obtain ⟨T1, h1, X1, e1, E1, A1, D1, -, st1⟩ := newO X0 hx hZ hown (hw _ (List.mem_of_getElem? (i := 19) rfl)) (hw _ (List.mem_of_getElem? (i := 20) rfl)) (hw _ (List.mem_of_getElem? (i := 17) rfl)) e0 (g := (mkF m 0 #[.val (.double d1), .second] [])) rfl (hb hby own_d4_0) (by decide) (by decide)
  obtain ⟨b1, g1⟩ : ∃ z, z = h0.size := ⟨_, rfl⟩
  rw [← g1] at A1 D1 st1
  refine own_go (A' := (T1.setTop (mkF m 3 #[.val (.double d1), .second] [(.ref b1)]))) (fun _ k => st1 _ k) ?_
  have F1_value : Fld Z h1 b1 "java/lang/Double" "value" "D" (.double (0 : UInt64)) := D1 (Or.inr (hw _ (List.mem_of_getElem? (i := 33) rfl))) (ty := .double) (by decide)
  have sz_b : h0.size ≤ b1 := Nat.le_of_eq g1.symm
  have g_b : n0 ≤ b1 := Nat.le_trans Z0 sz_b
  have Zn : n0 ≤ h1.size := Nat.le_trans Z0 E1.1
  have K0 : Keep h0 h1 [] := (Keep.refl _ _).ext E1
  refine own_go (A' := (T1.setTop (mkF m 4 #[.val (.double d1), .second] [(.ref b1), (.ref b1)]))) (fun _ k => XS.dup X1.here hx rfl (hb hby own_d4_3) rfl rfl k) ?_
  refine own_go (A' := (T1.setTop (mkF m 5 #[.val (.double d1), .second] [(.double d1), (.ref b1), (.ref b1)]))) (fun _ k => XS.dloadN X1.here hx rfl (hb hby own_d4_4) rfl k) ?_
  obtain ⟨_, _, ⟨T2, L2, k2, n2⟩, -, X2, ⟨Lc2, hQ2, l2, y2, z2⟩, st2⟩ := X1.specialBack hx (y := (⟨"java/lang/Double", "<init>", "(D)V"⟩ : MethodName)) rfl hown (mvT hZ (hw _ (List.mem_of_getElem? (i := 21) rfl))) (mvT hZ (hw _ (List.mem_of_getElem? (i := 22) rfl))) (mvT hZ (hw _ (List.mem_of_getElem? (i := 24) rfl))) (by decide) (backOf (W := 1) (own_dinit l Z a0 hw [] b1 d1 _ h1 n0 Zn A1 F1_value g_b) hZ (hw _ (List.mem_of_getElem? (i := 24) rfl)) (hw _ (List.mem_of_getElem? (i := 17) rfl)) (by decide) (by decide)) (g := (mkF m 5 #[.val (.double d1), .second] [(.double d1), (.ref b1), (.ref b1)])) rfl (by rw [hml]; rfl) (Steps.refl _) (a := b1) (argsL := [(.double d1)]) (rest := [(.ref b1)]) (lenOf own_pd1 rfl) rfl (by show 2 * 0 + _ ≤ _; exact Nat.le_of_eq rfl) (hb hby own_d4_5) (fun _ _ => ⟨rfl, e1, (by decide : 1 + 0 ≤ _), (by decide : 1 + 0 ≤ _)⟩)
  dsimp only [Pt.U, Pt.locs, Pt.cells, Pt.slots] at X2 l2 y2 z2 st2 hQ2
  subst l2 y2 z2
  obtain ⟨rfl, N2q, K2, Ea, Fa⟩ := hQ2
  have N2 := Fr.app N0 N2q
  refine own_go (A' := (T2.setTop (mkF m 8 #[.val (.double d1), .second] [(.ref b1)]))) (fun _ k => st2.trans k) ?_
  have K1 := K0.trans K2 (allS (Or.inr sz_b) all0)
  obtain ⟨fs, hr, hrun, hended, hW, hsame⟩ := X2.leave (v := some (.ref b1)) (fun h => by rw [Bd.returns] at h; cases h)
  refine ⟨_, _, retOut X2 hx (t := (.object "java/lang/Double")) Bd.returns rfl (Or.inr (Or.inr (Or.inr (Or.inr ⟨rfl, rfl, rfl⟩)))) (hb hby own_d4_8) hr, hR _ _ ⟨hrun, hended, _, _, rfl, ?_, ⟨_, rfl⟩, hW, hsame.mono (by decide) (by decide)⟩⟩
  show own_Q_own_dvalueOf Z d1 h0 n0 _ T2.heap _
  exact ⟨b1, rfl, N2, K1, Ea, Fa, sz_b⟩
theorem own_ef_own_dval (m : MethodId) (a1 : Addr) : entryFrame m #[(.ref a1)] 1 = mkF m 0 #[.val (.ref a1)] [] := by first | (simp [entryFrame, mkF, argsToLocals, Value.category]; done) | rfl
def own_Q_own_dval (Z : State) (a1 : Addr) (d : UInt64) (h0 : Heap) (n0 : Nat) (v : Option Value) (h : Heap) (L : List Loc) : Prop := v = some (.double d) ∧ Fr n0 L ∧ h = h0
set_option maxRecDepth 65536 in
set_option maxHeartbeats 40000000 in
theorem own_dval (l : Launch) (Z : State) (a0 : Array Value) (hw : ∀ d ∈ tables_1, d.before a0 Z = true) (ws : List Jvm.Cond) (a1 : Addr) (d : UInt64) (h0 : Heap) (n0 : Nat) (Z0 : n0 ≤ h0.size) (F1 : Fld Z h0 a1 "java/lang/Double" "value" "D" (.double d)) :
    MetFree l (⟨"java/lang/Double", "doubleValue", "()D"⟩ : MethodName) (head1 (Jvm.Cond.code (⟨"java/lang/Double", "doubleValue", "()D"⟩ : MethodName) jdk_117_method_19_code 1 (some .double) :: ws) ({ frames := 0, cells := 0, slots := 0, locals := 0 } : Room)) (fun a U => a = #[(.ref a1)] ∧ Z.Warmed39 U.vm ∧ U.heap = h0) (fun _ _ _ _ _ => True) (fun _ U o U' => ∃ v L, o = .returned v ∧ own_Q_own_dval Z a1 d h0 n0 v U'.heap L ∧ FrameEnd U o U' L ({ frames := 0, cells := 0, slots := 0, locals := 0 } : Room).cells ({ frames := 0, cells := 0, slots := 0, locals := 0 } : Room).slots) := by
  refine MetFree.of_bodySF (plainFor_of_name own_pn20) hisR ?_
  intro p e s m args below meth c s₁ Bd hml0 hP hK
  obtain ⟨rfl, hZ, hh⟩ := hP
  have hx := Bd.exec
  have hby := Bd.bytes
  have hml : c.maxLocals = 1 := hml0
  have hown : s.vm.findClass "java/lang/Double" = some m.cls := findClass_of_methodNamed Bd.named
  have hnm := (name_of_methodNamed Bd.named Bd.method).1
  have X0 : Stand p l e ({ frames := 0, cells := 0, slots := 0, locals := 0 } : Room) s m #[(.ref a1)] below meth c s₁ [] 0 0 := Stand.of_body Bd
  have e0 : s₁.heap = h0 := by rw [← hh, Bd.state]; rfl
  have N0 := Fr.nil n0
  refine own_open ?_
  intro R hR
  rw [own_ef_own_dval m a1]
  show own_W p e below R (s₁.setTop (mkF m 0 #[.val (.ref a1)] []))
  refine own_go (A' := (s₁.setTop (mkF m 1 #[.val (.ref a1)] [(.ref a1)]))) (fun _ k => XS.aloadN X0.here hx rfl (hb hby own_d20_0) rfl rfl k) ?_
  obtain ⟨T1, X1, e1, st1⟩ := getF X0 hx hZ hown (host := "") (Or.inl (hw _ (List.mem_of_getElem? (i := 32) rfl))) Via.refl e0 F1 (g := (mkF m 1 #[.val (.ref a1)] [(.ref a1)])) rfl rfl (hb hby own_d20_1)
  refine own_go (A' := (T1.setTop (mkF m 4 #[.val (.ref a1)] [(.double d)]))) (fun _ k => st1 _ k) ?_
  obtain ⟨fs, hr, hrun, hended, hW, hsame⟩ := X1.leave (v := some (.double d)) (fun h => by rw [Bd.returns] at h; cases h)
  refine ⟨_, _, retOut X1 hx (t := .double) Bd.returns rfl (Or.inr (Or.inr (Or.inl ⟨rfl, rfl, _, rfl⟩))) (hb hby own_d20_4) hr, hR _ _ ⟨hrun, hended, _, _, rfl, ?_, ⟨_, rfl⟩, hW, hsame.mono (by decide) (by decide)⟩⟩
  show own_Q_own_dval Z a1 d h0 n0 _ T1.heap _
  rw [e1]
  exact ⟨rfl, N0, rfl⟩
theorem own_ef_own_isfin (m : MethodId) (d1 : UInt64) : entryFrame m #[(.double d1)] 2 = mkF m 0 #[.val (.double d1), .second] [] := by first | (simp [entryFrame, mkF, argsToLocals, Value.category]; done) | rfl
def own_Q_own_isfin (Z : State) (d1 : UInt64) (u : Int) (h0 : Heap) (n0 : Nat) (v : Option Value) (h : Heap) (L : List Loc) : Prop := v = some (.int 1) ∧ Fr n0 L ∧ h = h0
set_option maxRecDepth 65536 in
set_option maxHeartbeats 40000000 in
theorem own_isfin (l : Launch) (Z : State) (a0 : Array Value) (hw : ∀ d ∈ tables_1, d.before a0 Z = true) (ws : List Jvm.Cond) (d1 : UInt64) (u : Int) (h0 : Heap) (n0 : Nat) (Z0 : n0 ≤ h0.size) (U1 : own_Is d1 u) :
    MetFree l (⟨"java/lang/Double", "isFinite", "(D)Z"⟩ : MethodName) (head1 (Jvm.Cond.code (⟨"java/lang/Double", "isFinite", "(D)Z"⟩ : MethodName) jdk_117_method_8_code 2 (some .boolean) :: ws) ({ frames := 1, cells := 0, slots := 0, locals := 13 } : Room)) (fun a U => a = #[(.double d1)] ∧ Z.Warmed39 U.vm ∧ U.heap = h0) (fun _ _ _ _ _ => True) (fun _ U o U' => ∃ v L, o = .returned v ∧ own_Q_own_isfin Z d1 u h0 n0 v U'.heap L ∧ FrameEnd U o U' L ({ frames := 1, cells := 0, slots := 0, locals := 13 } : Room).cells ({ frames := 1, cells := 0, slots := 0, locals := 13 } : Room).slots) := by
  refine MetFree.of_bodySF (plainFor_of_name own_pn21) hisR ?_
  intro p e s m args below meth c s₁ Bd hml0 hP hK
  obtain ⟨rfl, hZ, hh⟩ := hP
  have hx := Bd.exec
  have hby := Bd.bytes
  have hml : c.maxLocals = 2 := hml0
  have hown : s.vm.findClass "java/lang/Double" = some m.cls := findClass_of_methodNamed Bd.named
  have hnm := (name_of_methodNamed Bd.named Bd.method).1
  have X0 : Stand p l e ({ frames := 1, cells := 0, slots := 0, locals := 13 } : Room) s m #[(.double d1)] below meth c s₁ [] 0 0 := Stand.of_body Bd
  have e0 : s₁.heap = h0 := by rw [← hh, Bd.state]; rfl
  have N0 := Fr.nil n0
  refine own_open ?_
  intro R hR
  rw [own_ef_own_isfin m d1]
  show own_W p e below R (s₁.setTop (mkF m 0 #[.val (.double d1), .second] []))
  refine own_go (A' := (s₁.setTop (mkF m 1 #[.val (.double d1), .second] [(.double d1)]))) (fun _ k => XS.dloadN X0.here hx rfl (hb hby own_d21_0) rfl k) ?_
  obtain ⟨T1, X1, e1, st1⟩ := natS X0 hx hZ (y := (⟨"java/lang/Math", "abs", "(D)D"⟩ : MethodName)) hown (hw _ (List.mem_of_getElem? (i := 145) rfl)) (hw _ (List.mem_of_getElem? (i := 146) rfl)) (hw _ (List.mem_of_getElem? (i := 147) rfl)) (hw _ (List.mem_of_getElem? (i := 148) rfl)) (by decide) e0 (W := 0) (F := fun a' => a' = #[.double d1] ∧ Jvm.Free.Fl.NoNaN64 d1) (val := .double (d1 &&& 0x7fffffffffffffff)) (val' := .double (d1 &&& 0x7fffffffffffffff)) (fun c4 => Jvm.Free.Fl.Abs.absD_pays d1 c4 (by decide) (by decide)) (g := (mkF m 1 #[.val (.double d1), .second] [(.double d1)])) rfl (by rw [hml]; rfl) (argsL := [.double d1]) (rest := []) (lenOf own_pd2 rfl) rfl (by show 2 * 0 + _ ≤ _; exact Nat.le_of_eq rfl) (hb hby own_d21_1) (by decide) (by decide) ⟨rfl, U1.nn⟩ rfl
  refine own_go (A' := (T1.setTop (mkF m 4 #[.val (.double d1), .second] [(.double (d1 &&& 0x7fffffffffffffff))]))) (fun _ k => st1 _ k) ?_
  refine own_go (A' := (T1.setTop (mkF m 7 #[.val (.double d1), .second] [(.double (9218868437227405311 : UInt64)), (.double (d1 &&& 0x7fffffffffffffff))]))) (fun _ k => X1.ldc2DoubleC hx hown (mvT hZ (hw _ (List.mem_of_getElem? (i := 149) rfl))) (g := (mkF m 4 #[.val (.double d1), .second] [(.double (d1 &&& 0x7fffffffffffffff))])) rfl (hb hby own_d21_4) _ k) ?_
  refine own_go (A' := (T1.setTop (mkF m 8 #[.val (.double d1), .second] [(.int (cmpValue (FP.dcmp (d1 &&& 0x7fffffffffffffff) (9218868437227405311 : UInt64)) .g))]))) (fun _ k => XS.dcmpS X1.here hx rfl (hb hby own_d21_7) rfl rfl k) ?_
  refine own_go (A' := (T1.setTop (mkF m 11 #[.val (.double d1), .second] []))) (fun _ k => XS.ifNo X1.here hx rfl (hb hby own_d21_8) rfl ((if0 _ _).trans (flt (own_abs_le U1)).2.2.1) k) ?_
  refine own_go (A' := (T1.setTop (mkF m 12 #[.val (.double d1), .second] [(.int (1 : Int32))]))) (fun _ k => XS.iconst X1.here hx rfl (hb hby own_d21_11) k) ?_
  refine own_go (A' := (T1.setTop (mkF m 16 #[.val (.double d1), .second] [(.int (1 : Int32))]))) (fun _ k => XS.goto X1.here hx rfl (pc0 := 12) (pc' := 16) rfl (hb hby own_d21_12) (by decide) (by decide) k) ?_
  obtain ⟨fs, hr, hrun, hended, hW, hsame⟩ := X1.leave (v := some (.int (1 : Int32))) (fun h => by rw [Bd.returns] at h; cases h)
  refine ⟨_, _, retN X1 hx (t := .boolean) Bd.returns (by simp) (hb hby own_d21_16) hr, hR _ _ ⟨hrun, hended, _, _, rfl, ?_, ⟨_, rfl⟩, hW, hsame.mono (by decide) (by decide)⟩⟩
  show own_Q_own_isfin Z d1 u h0 n0 _ T1.heap _
  rw [e1]
  exact ⟨rfl, N0, rfl⟩
theorem own_ef_own_rnn (m : MethodId) (a1 : Addr) : entryFrame m #[(.ref a1)] 1 = mkF m 0 #[.val (.ref a1)] [] := by first | (simp [entryFrame, mkF, argsToLocals, Value.category]; done) | rfl
def own_Q_own_rnn (Z : State) (a1 : Addr) (h0 : Heap) (n0 : Nat) (v : Option Value) (h : Heap) (L : List Loc) : Prop := v = some (.ref a1) ∧ Fr n0 L ∧ h = h0
set_option maxRecDepth 65536 in
set_option maxHeartbeats 40000000 in
theorem own_rnn (l : Launch) (Z : State) (a0 : Array Value) (hw : ∀ d ∈ tables_1, d.before a0 Z = true) (ws : List Jvm.Cond) (a1 : Addr) (h0 : Heap) (n0 : Nat) (Z0 : n0 ≤ h0.size)  :
    MetFree l (⟨"java/util/Objects", "requireNonNull", "(Ljava/lang/Object;)Ljava/lang/Object;"⟩ : MethodName) (head1 (Jvm.Cond.code (⟨"java/util/Objects", "requireNonNull", "(Ljava/lang/Object;)Ljava/lang/Object;"⟩ : MethodName) jdk_31_method_10_code 1 (some (.object "java/lang/Object")) :: ws) ({ frames := 0, cells := 0, slots := 0, locals := 0 } : Room)) (fun a U => a = #[(.ref a1)] ∧ Z.Warmed39 U.vm ∧ U.heap = h0) (fun _ _ _ _ _ => True) (fun _ U o U' => ∃ v L, o = .returned v ∧ own_Q_own_rnn Z a1 h0 n0 v U'.heap L ∧ FrameEnd U o U' L ({ frames := 0, cells := 0, slots := 0, locals := 0 } : Room).cells ({ frames := 0, cells := 0, slots := 0, locals := 0 } : Room).slots) := by
  refine MetFree.of_bodySF (plainFor_of_name own_pn9) hisR ?_
  intro p e s m args below meth c s₁ Bd hml0 hP hK
  obtain ⟨rfl, hZ, hh⟩ := hP
  have hx := Bd.exec
  have hby := Bd.bytes
  have hml : c.maxLocals = 1 := hml0
  have hown : s.vm.findClass "java/util/Objects" = some m.cls := findClass_of_methodNamed Bd.named
  have hnm := (name_of_methodNamed Bd.named Bd.method).1
  have X0 : Stand p l e ({ frames := 0, cells := 0, slots := 0, locals := 0 } : Room) s m #[(.ref a1)] below meth c s₁ [] 0 0 := Stand.of_body Bd
  have e0 : s₁.heap = h0 := by rw [← hh, Bd.state]; rfl
  have N0 := Fr.nil n0
  refine own_open ?_
  intro R hR
  rw [own_ef_own_rnn m a1]
  show own_W p e below R (s₁.setTop (mkF m 0 #[.val (.ref a1)] []))
  refine own_go (A' := (s₁.setTop (mkF m 1 #[.val (.ref a1)] [(.ref a1)]))) (fun _ k => XS.aloadN X0.here hx rfl (hb hby own_d9_0) rfl rfl k) ?_
  refine own_go (A' := (s₁.setTop (mkF m 12 #[.val (.ref a1)] []))) (fun _ k => XS.ifnonnullYes X0.here hx rfl (pc0 := 1) (pc' := 12) rfl (hb hby own_d9_1) rfl (by decide) (by decide) k) ?_
  refine own_go (A' := (s₁.setTop (mkF m 13 #[.val (.ref a1)] [(.ref a1)]))) (fun _ k => XS.aloadN X0.here hx rfl (hb hby own_d9_12) rfl rfl k) ?_
  obtain ⟨fs, hr, hrun, hended, hW, hsame⟩ := X0.leave (v := some (.ref a1)) (fun h => by rw [Bd.returns] at h; cases h)
  refine ⟨_, _, retOut X0 hx (t := (.object "java/lang/Object")) Bd.returns rfl (Or.inr (Or.inr (Or.inr (Or.inr ⟨rfl, rfl, rfl⟩)))) (hb hby own_d9_13) hr, hR _ _ ⟨hrun, hended, _, _, rfl, ?_, ⟨_, rfl⟩, hW, hsame.mono (by decide) (by decide)⟩⟩
  show own_Q_own_rnn Z a1 h0 n0 _ s₁.heap _
  rw [e0]
  exact ⟨rfl, N0, rfl⟩
theorem own_ef_own_lninit (m : MethodId) (a0_ : Addr) (o1 : Addr) : entryFrame m #[(.ref a0_), (.ref o1), (.int (0 : Int32))] 3 = mkF m 0 #[.val (.ref a0_), .val (.ref o1), .val (.int (0 : Int32))] [] := by first | (simp [entryFrame, mkF, argsToLocals, Value.category]; done) | rfl
def own_Q_own_lninit (Z : State) (a0_ : Addr) (o1 : Addr) (u0 : Value) (h0 : Heap) (n0 : Nat) (v : Option Value) (h : Heap) (L : List Loc) : Prop := v = none ∧ Fr n0 L ∧ Keep h0 h [a0_] ∧ Exa Z h a0_ "java/util/ImmutableCollections$ListN" ∧ Fld Z h a0_ "java/util/ImmutableCollections$ListN" "elements" "[Ljava/lang/Object;" (.ref o1)
set_option maxRecDepth 65536 in
set_option maxHeartbeats 40000000 in
theorem own_lninit (l : Launch) (Z : State) (a0 : Array Value) (hw : ∀ d ∈ tables_1, d.before a0 Z = true) (ws : List Jvm.Cond) (a0_ : Addr) (o1 : Addr) (u0 : Value) (h0 : Heap) (n0 : Nat) (Z0 : n0 ≤ h0.size) (E_a : Exa Z h0 a0_ "java/util/ImmutableCollections$ListN") (F_a : Fld Z h0 a0_ "java/util/ImmutableCollections$ListN" "elements" "[Ljava/lang/Object;" u0) (g_a : n0 ≤ a0_) :
    MetFree l (⟨"java/util/ImmutableCollections$ListN", "<init>", "([Ljava/lang/Object;Z)V"⟩ : MethodName) (head1 (Jvm.Cond.code (⟨"java/util/ImmutableCollections$ListN", "<init>", "([Ljava/lang/Object;Z)V"⟩ : MethodName) jdk_45_method_1_code 3 none :: ws) ({ frames := 4, cells := 0, slots := 0, locals := 48 } : Room)) (fun a U => a = #[(.ref a0_), (.ref o1), (.int (0 : Int32))] ∧ Z.Warmed39 U.vm ∧ U.heap = h0) (fun _ _ _ _ _ => True) (fun _ U o U' => ∃ v L, o = .returned v ∧ own_Q_own_lninit Z a0_ o1 u0 h0 n0 v U'.heap L ∧ FrameEnd U o U' L ({ frames := 4, cells := 0, slots := 0, locals := 48 } : Room).cells ({ frames := 4, cells := 0, slots := 0, locals := 48 } : Room).slots) := by
  refine MetFree.of_bodySF (plainFor_of_name own_pn10) hisR ?_
  intro p e s m args below meth c s₁ Bd hml0 hP hK
  obtain ⟨rfl, hZ, hh⟩ := hP
  have hx := Bd.exec
  have hby := Bd.bytes
  have hml : c.maxLocals = 3 := hml0
  have hown : s.vm.findClass "java/util/ImmutableCollections$ListN" = some m.cls := findClass_of_methodNamed Bd.named
  have hnm := (name_of_methodNamed Bd.named Bd.method).1
  have X0 : Stand p l e ({ frames := 4, cells := 0, slots := 0, locals := 48 } : Room) s m #[(.ref a0_), (.ref o1), (.int (0 : Int32))] below meth c s₁ [] 0 0 := Stand.of_body Bd
  have e0 : s₁.heap = h0 := by rw [← hh, Bd.state]; rfl
  have N0 := Fr.nil n0
  refine own_open ?_
  intro R hR
  rw [own_ef_own_lninit m a0_ o1]
  show own_W p e below R (s₁.setTop (mkF m 0 #[.val (.ref a0_), .val (.ref o1), .val (.int (0 : Int32))] []))
  refine own_go (A' := (s₁.setTop (mkF m 1 #[.val (.ref a0_), .val (.ref o1), .val (.int (0 : Int32))] [(.ref a0_)]))) (fun _ k => XS.aloadN X0.here hx rfl (hb hby own_d10_0) rfl rfl k) ?_
  obtain ⟨_, _, ⟨T1, L1, k1, n1⟩, -, X1, ⟨Lc1, hQ1, l1, y1, z1⟩, st1⟩ := X0.specialBack hx (y := (⟨"java/util/ImmutableCollections$AbstractImmutableList", "<init>", "()V"⟩ : MethodName)) rfl hown (mvT hZ (hw _ (List.mem_of_getElem? (i := 57) rfl))) (mvT hZ (hw _ (List.mem_of_getElem? (i := 58) rfl))) (mvT hZ (hw _ (List.mem_of_getElem? (i := 62) rfl))) (by decide) (backOf (W := 0) (own_ail l Z a0 hw [] a0_ h0 n0 Z0) hZ (hw _ (List.mem_of_getElem? (i := 62) rfl)) (hw _ (List.mem_of_getElem? (i := 61) rfl)) (by decide) (by decide)) (g := (mkF m 1 #[.val (.ref a0_), .val (.ref o1), .val (.int (0 : Int32))] [(.ref a0_)])) rfl (by rw [hml]; rfl) (Steps.refl _) (a := a0_) (argsL := []) (rest := []) (lenOf own_pd0 rfl) rfl (by show 2 * 0 + _ ≤ _; exact Nat.le_of_eq rfl) (hb hby own_d10_1) (fun _ _ => ⟨rfl, e0, (by decide : 0 + 0 ≤ _), (by decide : 0 + 0 ≤ _)⟩)
  dsimp only [Pt.U, Pt.locs, Pt.cells, Pt.slots] at X1 l1 y1 z1 st1 hQ1
  subst l1 y1 z1
  obtain ⟨rfl, N1q, hh1⟩ := hQ1
  have N1 := Fr.app N0 N1q
  refine own_go (A' := (T1.setTop (mkF m 4 #[.val (.ref a0_), .val (.ref o1), .val (.int (0 : Int32))] []))) (fun _ k => st1.trans k) ?_
  have K_a : Keep h0 h0 [a0_] := Keep.refl _ _
  refine own_go (A' := (T1.setTop (mkF m 5 #[.val (.ref a0_), .val (.ref o1), .val (.int (0 : Int32))] [(.ref a0_)]))) (fun _ k => XS.aloadN X1.here hx rfl (hb hby own_d10_4) rfl rfl k) ?_
  refine own_go (A' := (T1.setTop (mkF m 6 #[.val (.ref a0_), .val (.ref o1), .val (.int (0 : Int32))] [(.ref o1), (.ref a0_)]))) (fun _ k => XS.aloadN X1.here hx rfl (hb hby own_d10_5) rfl rfl k) ?_
  obtain ⟨_, Fo⟩ := own_any F_a E_a (hw _ (List.mem_of_getElem? (i := 51) rfl)) (Or.inr (hw _ (List.mem_of_getElem? (i := 77) rfl)))
  obtain ⟨T2, h2, X2, e2, W2, st2⟩ := putF X1 hx hZ hown (host := "") (Or.inl (hw _ (List.mem_of_getElem? (i := 76) rfl))) Via.refl hh1 Fo E_a (Or.inr ⟨(hw _ (List.mem_of_getElem? (i := 77) rfl)), rfl, hnm⟩) (hw _ (List.mem_of_getElem? (i := 51) rfl)) (ty := (.array (.object "java/lang/Object"))) (by decide) rfl rfl (g := (mkF m 6 #[.val (.ref a0_), .val (.ref o1), .val (.int (0 : Int32))] [(.ref o1), (.ref a0_)])) rfl rfl (hb hby own_d10_6)
  refine own_go (A' := (T2.setTop (mkF m 9 #[.val (.ref a0_), .val (.ref o1), .val (.int (0 : Int32))] []))) (fun _ k => st2 _ k) ?_
  have N2 := Fr.snoc X2 N1 g_a
  have K_a := K_a.wr W2 (Or.inl (List.mem_of_getElem? (i := 0) rfl))
  have E_a := E_a.wr W2
  have F1 := Fo.same W2
  refine own_go (A' := (T2.setTop (mkF m 10 #[.val (.ref a0_), .val (.ref o1), .val (.int (0 : Int32))] [(.ref a0_)]))) (fun _ k => XS.aloadN X2.here hx rfl (hb hby own_d10_9) rfl rfl k) ?_
  refine own_go (A' := (T2.setTop (mkF m 11 #[.val (.ref a0_), .val (.ref o1), .val (.int (0 : Int32))] [(.int (0 : Int32)), (.ref a0_)]))) (fun _ k => XS.iloadN X2.here hx rfl (hb hby own_d10_10) rfl k) ?_
  obtain ⟨_, Fo⟩ := own_any F1 E_a (hw _ (List.mem_of_getElem? (i := 51) rfl)) (Or.inr (hw _ (List.mem_of_getElem? (i := 79) rfl)))
  obtain ⟨T3, h3, X3, e3, W3, st3⟩ := putFN X2 hx hZ hown (hw _ (List.mem_of_getElem? (i := 78) rfl)) Via.refl e2 Fo E_a (Or.inr ⟨(hw _ (List.mem_of_getElem? (i := 79) rfl)), rfl, hnm⟩) (hw _ (List.mem_of_getElem? (i := 51) rfl)) (ty := .boolean) (v' := (.int (0 : Int32))) (by decide) rfl (by decide) (g := (mkF m 11 #[.val (.ref a0_), .val (.ref o1), .val (.int (0 : Int32))] [(.int (0 : Int32)), (.ref a0_)])) rfl rfl (hb hby own_d10_11)
  refine own_go (A' := (T3.setTop (mkF m 14 #[.val (.ref a0_), .val (.ref o1), .val (.int (0 : Int32))] []))) (fun _ k => st3 _ k) ?_
  have N3 := Fr.snoc X3 N2 g_a
  have K_a := K_a.wr W3 (Or.inl (List.mem_of_getElem? (i := 0) rfl))
  have E_a := E_a.wr W3
  have F1 := F1.other W3 (Or.inr (slot_ne (Or.inr (hw _ (List.mem_of_getElem? (i := 77) rfl))) (Or.inr (hw _ (List.mem_of_getElem? (i := 79) rfl))) (by decide) (t := (.array (.object "java/lang/Object"))) (t' := .boolean) (by decide) (by decide)))
  obtain ⟨fs, hr, hrun, hended, hW, hsame⟩ := X3.leave (v := none) (fun _ => rfl)
  refine ⟨_, _, X3.returnOut hx Bd.returns (hb hby own_d10_14) hr, hR _ _ ⟨hrun, hended, _, _, rfl, ?_, ⟨_, rfl⟩, hW, hsame.mono (by decide) (by decide)⟩⟩
  show own_Q_own_lninit Z a0_ o1 u0 h0 n0 _ T3.heap _
  rw [e3]
  exact ⟨rfl, N3, K_a, E_a, F1⟩
theorem own_ef_own_lnsize (m : MethodId) (a1 : Addr) : entryFrame m #[(.ref a1)] 1 = mkF m 0 #[.val (.ref a1)] [] := by first | (simp [entryFrame, mkF, argsToLocals, Value.category]; done) | rfl
def own_Q_own_lnsize (Z : State) (a1 : Addr) (arr : Addr) (ob : Nat → Addr) (h0 : Heap) (n0 : Nat) (v : Option Value) (h : Heap) (L : List Loc) : Prop := v = some (.int 4) ∧ Fr n0 L ∧ h = h0
set_option maxRecDepth 65536 in
set_option maxHeartbeats 40000000 in
theorem own_lnsize (l : Launch) (Z : State) (a0 : Array Value) (hw : ∀ d ∈ tables_1, d.before a0 Z = true) (ws : List Jvm.Cond) (a1 : Addr) (arr : Addr) (ob : Nat → Addr) (h0 : Heap) (n0 : Nat) (Z0 : n0 ≤ h0.size) (F1 : Fld Z h0 a1 "java/util/ImmutableCollections$ListN" "elements" "[Ljava/lang/Object;" (.ref arr)) (Ar : own_Ar Z h0 arr ob) :
    MetFree l (⟨"java/util/ImmutableCollections$ListN", "size", "()I"⟩ : MethodName) (head1 (Jvm.Cond.code (⟨"java/util/ImmutableCollections$ListN", "size", "()I"⟩ : MethodName) jdk_45_method_3_code 1 (some .int) :: ws) ({ frames := 0, cells := 0, slots := 0, locals := 0 } : Room)) (fun a U => a = #[(.ref a1)] ∧ Z.Warmed39 U.vm ∧ U.heap = h0) (fun _ _ _ _ _ => True) (fun _ U o U' => ∃ v L, o = .returned v ∧ own_Q_own_lnsize Z a1 arr ob h0 n0 v U'.heap L ∧ FrameEnd U o U' L ({ frames := 0, cells := 0, slots := 0, locals := 0 } : Room).cells ({ frames := 0, cells := 0, slots := 0, locals := 0 } : Room).slots) := by
  refine MetFree.of_bodySF (plainFor_of_name own_pn15) hisR ?_
  intro p e s m args below meth c s₁ Bd hml0 hP hK
  obtain ⟨rfl, hZ, hh⟩ := hP
  have hx := Bd.exec
  have hby := Bd.bytes
  have hml : c.maxLocals = 1 := hml0
  have hown : s.vm.findClass "java/util/ImmutableCollections$ListN" = some m.cls := findClass_of_methodNamed Bd.named
  have hnm := (name_of_methodNamed Bd.named Bd.method).1
  have X0 : Stand p l e ({ frames := 0, cells := 0, slots := 0, locals := 0 } : Room) s m #[(.ref a1)] below meth c s₁ [] 0 0 := Stand.of_body Bd
  have e0 : s₁.heap = h0 := by rw [← hh, Bd.state]; rfl
  have N0 := Fr.nil n0
  refine own_open ?_
  intro R hR
  rw [own_ef_own_lnsize m a1]
  show own_W p e below R (s₁.setTop (mkF m 0 #[.val (.ref a1)] []))
  refine own_go (A' := (s₁.setTop (mkF m 1 #[.val (.ref a1)] [(.ref a1)]))) (fun _ k => XS.aloadN X0.here hx rfl (hb hby own_d15_0) rfl rfl k) ?_
  obtain ⟨T1, X1, e1, st1⟩ := getF X0 hx hZ hown (host := "") (Or.inl (hw _ (List.mem_of_getElem? (i := 76) rfl))) Via.refl e0 F1 (g := (mkF m 1 #[.val (.ref a1)] [(.ref a1)])) rfl rfl (hb hby own_d15_1)
  refine own_go (A' := (T1.setTop (mkF m 4 #[.val (.ref a1)] [(.ref arr)]))) (fun _ k => st1 _ k) ?_
  obtain ⟨cl2, Ar2, sz2, ct2⟩ := id (Ar)
  refine own_go (A' := (T1.setTop (mkF m 5 #[.val (.ref a1)] [(.int (4 : Int32))]))) (fun _ k => X1.arraylength hx (own_hp e1 Ar2.1) (State.isArrayOf_alike hZ.alike Ar2.2.1) (g := (mkF m 4 #[.val (.ref a1)] [(.ref arr)])) rfl rfl (hb hby own_d15_4) _ (by rw [sz2]; exact k)) ?_
  obtain ⟨fs, hr, hrun, hended, hW, hsame⟩ := X1.leave (v := some (.int (4 : Int32))) (fun h => by rw [Bd.returns] at h; cases h)
  refine ⟨_, _, retI X1 hx Bd.returns (hb hby own_d15_5) hr, hR _ _ ⟨hrun, hended, _, _, rfl, ?_, ⟨_, rfl⟩, hW, hsame.mono (by decide) (by decide)⟩⟩
  show own_Q_own_lnsize Z a1 arr ob h0 n0 _ T1.heap _
  rw [e1]
  exact ⟨rfl, N0, rfl⟩
theorem own_ef_own_lnget (m : MethodId) (a1 : Addr) (i : Int32) : entryFrame m #[(.ref a1), (.int i)] 2 = mkF m 0 #[.val (.ref a1), .val (.int i)] [] := by first | (simp [entryFrame, mkF, argsToLocals, Value.category]; done) | rfl
def own_Q_own_lnget (Z : State) (a1 : Addr) (i : Int32) (arr : Addr) (ob : Nat → Addr) (n : Nat) (h0 : Heap) (n0 : Nat) (v : Option Value) (h : Heap) (L : List Loc) : Prop := v = some (.ref (ob n)) ∧ Fr n0 L ∧ h = h0
set_option maxRecDepth 65536 in
set_option maxHeartbeats 40000000 in
theorem own_lnget (l : Launch) (Z : State) (a0 : Array Value) (hw : ∀ d ∈ tables_1, d.before a0 Z = true) (ws : List Jvm.Cond) (a1 : Addr) (i : Int32) (arr : Addr) (ob : Nat → Addr) (n : Nat) (h0 : Heap) (n0 : Nat) (Z0 : n0 ≤ h0.size) (F1 : Fld Z h0 a1 "java/util/ImmutableCollections$ListN" "elements" "[Ljava/lang/Object;" (.ref arr)) (Ar : own_Ar Z h0 arr ob) (hi : i.toInt = n) (hn : n < 4) :
    MetFree l (⟨"java/util/ImmutableCollections$ListN", "get", "(I)Ljava/lang/Object;"⟩ : MethodName) (head1 (Jvm.Cond.code (⟨"java/util/ImmutableCollections$ListN", "get", "(I)Ljava/lang/Object;"⟩ : MethodName) jdk_45_method_4_code 2 (some (.object "java/lang/Object")) :: ws) ({ frames := 0, cells := 0, slots := 0, locals := 0 } : Room)) (fun a U => a = #[(.ref a1), (.int i)] ∧ Z.Warmed39 U.vm ∧ U.heap = h0) (fun _ _ _ _ _ => True) (fun _ U o U' => ∃ v L, o = .returned v ∧ own_Q_own_lnget Z a1 i arr ob n h0 n0 v U'.heap L ∧ FrameEnd U o U' L ({ frames := 0, cells := 0, slots := 0, locals := 0 } : Room).cells ({ frames := 0, cells := 0, slots := 0, locals := 0 } : Room).slots) := by
  refine MetFree.of_bodySF (plainFor_of_name own_pn19) hisR ?_
  intro p e s m args below meth c s₁ Bd hml0 hP hK
  obtain ⟨rfl, hZ, hh⟩ := hP
  have hx := Bd.exec
  have hby := Bd.bytes
  have hml : c.maxLocals = 2 := hml0
  have hown : s.vm.findClass "java/util/ImmutableCollections$ListN" = some m.cls := findClass_of_methodNamed Bd.named
  have hnm := (name_of_methodNamed Bd.named Bd.method).1
  have X0 : Stand p l e ({ frames := 0, cells := 0, slots := 0, locals := 0 } : Room) s m #[(.ref a1), (.int i)] below meth c s₁ [] 0 0 := Stand.of_body Bd
  have e0 : s₁.heap = h0 := by rw [← hh, Bd.state]; rfl
  have N0 := Fr.nil n0
  refine own_open ?_
  intro R hR
  rw [own_ef_own_lnget m a1 i]
  show own_W p e below R (s₁.setTop (mkF m 0 #[.val (.ref a1), .val (.int i)] []))
  refine own_go (A' := (s₁.setTop (mkF m 1 #[.val (.ref a1), .val (.int i)] [(.ref a1)]))) (fun _ k => XS.aloadN X0.here hx rfl (hb hby own_d19_0) rfl rfl k) ?_
  obtain ⟨T1, X1, e1, st1⟩ := getF X0 hx hZ hown (host := "") (Or.inl (hw _ (List.mem_of_getElem? (i := 76) rfl))) Via.refl e0 F1 (g := (mkF m 1 #[.val (.ref a1), .val (.int i)] [(.ref a1)])) rfl rfl (hb hby own_d19_1)
  refine own_go (A' := (T1.setTop (mkF m 4 #[.val (.ref a1), .val (.int i)] [(.ref arr)]))) (fun _ k => st1 _ k) ?_
  refine own_go (A' := (T1.setTop (mkF m 5 #[.val (.ref a1), .val (.int i)] [(.int i), (.ref arr)]))) (fun _ k => XS.iloadN X1.here hx rfl (hb hby own_d19_4) rfl k) ?_
  obtain ⟨cl2, Ar2, sz2, ct2⟩ := id (Ar)
  refine own_go (A' := (T1.setTop (mkF m 6 #[.val (.ref a1), .val (.int i)] [(.ref (ob n))]))) (fun _ k => X1.aaload hx (own_hp e1 Ar2.1) (State.isArrayOf_alike hZ.alike Ar2.2.1) rfl Ar2.2.2 (j := i) (own_in4 sz2 hi hn) (own_at4 ct2 hi hn) (g := (mkF m 5 #[.val (.ref a1), .val (.int i)] [(.int i), (.ref arr)])) rfl rfl (hb hby own_d19_5) _ k) ?_
  obtain ⟨fs, hr, hrun, hended, hW, hsame⟩ := X1.leave (v := some (.ref (ob n))) (fun h => by rw [Bd.returns] at h; cases h)
  refine ⟨_, _, retOut X1 hx (t := (.object "java/lang/Object")) Bd.returns rfl (Or.inr (Or.inr (Or.inr (Or.inr ⟨rfl, rfl, rfl⟩)))) (hb hby own_d19_6) hr, hR _ _ ⟨hrun, hended, _, _, rfl, ?_, ⟨_, rfl⟩, hW, hsame.mono (by decide) (by decide)⟩⟩
  show own_Q_own_lnget Z a1 i arr ob n h0 n0 _ T1.heap _
  rw [e1]
  exact ⟨rfl, N0, rfl⟩
theorem own_ef_own_lft (m : MethodId) (arr : Addr) : entryFrame m #[(.ref arr)] 5 = mkF m 0 #[.val (.ref arr), .unset, .unset, .unset, .unset] [] := by first | (simp [entryFrame, mkF, argsToLocals, Value.category]; done) | rfl
def own_Q_own_lft (Z : State) (arr : Addr) (ob : Nat → Addr) (h0 : Heap) (n0 : Nat) (v : Option Value) (h : Heap) (L : List Loc) : Prop := ∃ b : Addr, v = some (.ref b) ∧ Fr n0 L ∧ Keep h0 h [] ∧ Exa Z h b "java/util/ImmutableCollections$ListN" ∧ Fld Z h b "java/util/ImmutableCollections$ListN" "elements" "[Ljava/lang/Object;" (.ref arr) ∧ h0.size ≤ b
set_option maxRecDepth 65536 in
set_option maxHeartbeats 40000000 in
theorem own_lft (l : Launch) (Z : State) (a0 : Array Value) (hw : ∀ d ∈ tables_1, d.before a0 Z = true) (ws : List Jvm.Cond) (arr : Addr) (ob : Nat → Addr) (h0 : Heap) (n0 : Nat) (Z0 : n0 ≤ h0.size) (Ar : own_Ar Z h0 arr ob) (S1 : Sta Z h0 "java/util/ImmutableCollections" "$assertionsDisabled" "Z" (.int 1)) :
    MetFree l (⟨"java/util/ImmutableCollections", "listFromTrustedArray", "([Ljava/lang/Object;)Ljava/util/List;"⟩ : MethodName) (head1 (Jvm.Cond.code (⟨"java/util/ImmutableCollections", "listFromTrustedArray", "([Ljava/lang/Object;)Ljava/util/List;"⟩ : MethodName) jdk_56_method_5_code 5 (some (.object "java/util/List")) :: ws) ({ frames := 5, cells := 1, slots := 2, locals := 63 } : Room)) (fun a U => a = #[(.ref arr)] ∧ Z.Warmed39 U.vm ∧ U.heap = h0) (fun _ _ _ _ _ => True) (fun _ U o U' => ∃ v L, o = .returned v ∧ own_Q_own_lft Z arr ob h0 n0 v U'.heap L ∧ FrameEnd U o U' L ({ frames := 5, cells := 1, slots := 2, locals := 63 } : Room).cells ({ frames := 5, cells := 1, slots := 2, locals := 63 } : Room).slots) := by
  refine MetFree.of_bodySF (plainFor_of_name own_pn8) hisR ?_
  intro p e s m args below meth c s₁ Bd hml0 hP hK
  obtain ⟨rfl, hZ, hh⟩ := hP
  have hx := Bd.exec
  have hby := Bd.bytes
  have hml : c.maxLocals = 5 := hml0
  have hown : s.vm.findClass "java/util/ImmutableCollections" = some m.cls := findClass_of_methodNamed Bd.named
  have hnm := (name_of_methodNamed Bd.named Bd.method).1
  have X0 : Stand p l e ({ frames := 5, cells := 1, slots := 2, locals := 63 } : Room) s m #[(.ref arr)] below meth c s₁ [] 0 0 := Stand.of_body Bd
  have e0 : s₁.heap = h0 := by rw [← hh, Bd.state]; rfl
  have N0 := Fr.nil n0
  refine own_open ?_
  intro R hR
  rw [own_ef_own_lft m arr]
  show own_W p e below R (s₁.setTop (mkF m 0 #[.val (.ref arr), .unset, .unset, .unset, .unset] []))
  obtain ⟨T1, X1, e1, st1⟩ := getS2 X0 hx hZ hown (host := "") (Or.inl (hw _ (List.mem_of_getElem? (i := 45) rfl))) Via.refl e0 S1 (g := (mkF m 0 #[.val (.ref arr), .unset, .unset, .unset, .unset] [])) rfl (hb hby own_d8_0)
  refine own_go (A' := (T1.setTop (mkF m 3 #[.val (.ref arr), .unset, .unset, .unset, .unset] [(.int (1 : Int32))]))) (fun _ k => st1 _ k) ?_
  refine own_go (A' := (T1.setTop (mkF m 23 #[.val (.ref arr), .unset, .unset, .unset, .unset] []))) (fun _ k => XS.ifYes X1.here hx rfl (pc0 := 3) (pc' := 23) rfl (hb hby own_d8_3) rfl ((if0 _ _).trans (feq (by decide : ¬ (1 : Int32) = 0)).2) (by decide) (by decide) k) ?_
  refine own_go (A' := (T1.setTop (mkF m 24 #[.val (.ref arr), .unset, .unset, .unset, .unset] [(.ref arr)]))) (fun _ k => XS.aloadN X1.here hx rfl (hb hby own_d8_23) rfl rfl k) ?_
  refine own_go (A' := (T1.setTop (mkF m 25 #[.val (.ref arr), .val (.ref arr), .unset, .unset, .unset] []))) (fun _ k => XS.astoreN X1.here hx rfl (hb hby own_d8_24) rfl rfl (l' := #[.val (.ref arr), .val (.ref arr), .unset, .unset, .unset]) rfl k) ?_
  refine own_go (A' := (T1.setTop (mkF m 26 #[.val (.ref arr), .val (.ref arr), .unset, .unset, .unset] [(.ref arr)]))) (fun _ k => XS.aloadN X1.here hx rfl (hb hby own_d8_25) rfl rfl k) ?_
  obtain ⟨cl2, Ar2, sz2, ct2⟩ := id (Ar)
  refine own_go (A' := (T1.setTop (mkF m 27 #[.val (.ref arr), .val (.ref arr), .unset, .unset, .unset] [(.int (4 : Int32))]))) (fun _ k => X1.arraylength hx (own_hp e1 Ar2.1) (State.isArrayOf_alike hZ.alike Ar2.2.1) (g := (mkF m 26 #[.val (.ref arr), .val (.ref arr), .unset, .unset, .unset] [(.ref arr)])) rfl rfl (hb hby own_d8_26) _ (by rw [sz2]; exact k)) ?_
  refine own_go (A' := (T1.setTop (mkF m 28 #[.val (.ref arr), .val (.ref arr), .val (.int (4 : Int32)), .unset, .unset] []))) (fun _ k => XS.istoreN X1.here hx rfl (hb hby own_d8_27) rfl (l' := #[.val (.ref arr), .val (.ref arr), .val (.int (4 : Int32)), .unset, .unset]) rfl k) ?_
  refine own_go (A' := (T1.setTop (mkF m 29 #[.val (.ref arr), .val (.ref arr), .val (.int (4 : Int32)), .unset, .unset] [(.int (0 : Int32))]))) (fun _ k => XS.iconst X1.here hx rfl (hb hby own_d8_28) k) ?_
  refine own_go (A' := (T1.setTop (mkF m 30 #[.val (.ref arr), .val (.ref arr), .val (.int (4 : Int32)), .val (.int (0 : Int32)), .unset] []))) (fun _ k => XS.istoreN X1.here hx rfl (hb hby own_d8_29) rfl (l' := #[.val (.ref arr), .val (.ref arr), .val (.int (4 : Int32)), .val (.int (0 : Int32)), .unset]) rfl k) ?_
  refine own_go (A' := (T1.setTop (mkF m 31 #[.val (.ref arr), .val (.ref arr), .val (.int (4 : Int32)), .val (.int (0 : Int32)), .unset] [(.int (0 : Int32))]))) (fun _ k => XS.iloadN X1.here hx rfl (hb hby own_d8_30) rfl k) ?_
  refine own_go (A' := (T1.setTop (mkF m 32 #[.val (.ref arr), .val (.ref arr), .val (.int (4 : Int32)), .val (.int (0 : Int32)), .unset] [(.int (4 : Int32)), (.int (0 : Int32))]))) (fun _ k => XS.iloadN X1.here hx rfl (hb hby own_d8_31) rfl k) ?_
  refine own_go (A' := (T1.setTop (mkF m 35 #[.val (.ref arr), .val (.ref arr), .val (.int (4 : Int32)), .val (.int (0 : Int32)), .unset] []))) (fun _ k => XS.icmpNo X1.here hx rfl (hb hby own_d8_32) rfl (tlt (by decide : (0 : Int32) < (4 : Int32))).2.1 k) ?_
  refine own_go (A' := (T1.setTop (mkF m 36 #[.val (.ref arr), .val (.ref arr), .val (.int (4 : Int32)), .val (.int (0 : Int32)), .unset] [(.ref arr)]))) (fun _ k => XS.aloadN X1.here hx rfl (hb hby own_d8_35) rfl rfl k) ?_
  refine own_go (A' := (T1.setTop (mkF m 37 #[.val (.ref arr), .val (.ref arr), .val (.int (4 : Int32)), .val (.int (0 : Int32)), .unset] [(.int (0 : Int32)), (.ref arr)]))) (fun _ k => XS.iloadN X1.here hx rfl (hb hby own_d8_36) rfl k) ?_
  obtain ⟨cl3, Ar3, sz3, ct3⟩ := id (Ar)
  refine own_go (A' := (T1.setTop (mkF m 38 #[.val (.ref arr), .val (.ref arr), .val (.int (4 : Int32)), .val (.int (0 : Int32)), .unset] [(.ref (ob 0))]))) (fun _ k => X1.aaload hx (own_hp e1 Ar3.1) (State.isArrayOf_alike hZ.alike Ar3.2.1) rfl Ar3.2.2 (j := (0 : Int32)) (own_in4 sz3 (by decide : Int32.toInt (0 : Int32) = ((0 : Nat) : Int)) (by decide)) (own_at4 ct3 (by decide : Int32.toInt (0 : Int32) = ((0 : Nat) : Int)) (by decide)) (g := (mkF m 37 #[.val (.ref arr), .val (.ref arr), .val (.int (4 : Int32)), .val (.int (0 : Int32)), .unset] [(.int (0 : Int32)), (.ref arr)])) rfl rfl (hb hby own_d8_37) _ k) ?_
  refine own_go (A' := (T1.setTop (mkF m 40 #[.val (.ref arr), .val (.ref arr), .val (.int (4 : Int32)), .val (.int (0 : Int32)), .val (.ref (ob 0))] []))) (fun _ k => XS.astore X1.here hx rfl (hb hby own_d8_38) rfl rfl (l' := #[.val (.ref arr), .val (.ref arr), .val (.int (4 : Int32)), .val (.int (0 : Int32)), .val (.ref (ob 0))]) rfl k) ?_
  refine own_go (A' := (T1.setTop (mkF m 42 #[.val (.ref arr), .val (.ref arr), .val (.int (4 : Int32)), .val (.int (0 : Int32)), .val (.ref (ob 0))] [(.ref (ob 0))]))) (fun _ k => XS.aload X1.here hx rfl (hb hby own_d8_40) rfl rfl k) ?_
  obtain ⟨_, _, ⟨T4, L4, k4, n4⟩, -, X4, ⟨Lc4, hQ4, l4, y4, z4⟩, st4⟩ := Jvm.LawKit.callS X1 hx (y := (⟨"java/util/Objects", "requireNonNull", "(Ljava/lang/Object;)Ljava/lang/Object;"⟩ : MethodName)) hown (mvT hZ (hw _ (List.mem_of_getElem? (i := 46) rfl))) (mvT hZ (hw _ (List.mem_of_getElem? (i := 47) rfl))) (mvT hZ (hw _ (List.mem_of_getElem? (i := 48) rfl))) (mvT hZ (hw _ (List.mem_of_getElem? (i := 49) rfl))) (by decide) (backOf (W := 0) (own_rnn l Z a0 hw [] (ob 0) h0 n0 Z0) hZ (hw _ (List.mem_of_getElem? (i := 49) rfl)) (hw _ (List.mem_of_getElem? (i := 48) rfl)) (by decide) (by decide)) (g := (mkF m 42 #[.val (.ref arr), .val (.ref arr), .val (.int (4 : Int32)), .val (.int (0 : Int32)), .val (.ref (ob 0))] [(.ref (ob 0))])) rfl (by rw [hml]; rfl) (argsL := [(.ref (ob 0))]) (rest := []) (lenOf own_pd3 rfl) rfl (by show 2 * 0 + _ ≤ _; exact Nat.le_of_eq rfl) (hb hby own_d8_42) (fun _ _ => ⟨rfl, e1, (by decide : 0 + 0 ≤ _), (by decide : 0 + 0 ≤ _)⟩)
  dsimp only [Pt.U, Pt.locs, Pt.cells, Pt.slots] at X4 l4 y4 z4 st4 hQ4
  subst l4 y4 z4
  obtain ⟨rfl, N4q, hh4⟩ := hQ4
  have N4 := Fr.app N0 N4q
  refine own_go (A' := (T4.setTop (mkF m 45 #[.val (.ref arr), .val (.ref arr), .val (.int (4 : Int32)), .val (.int (0 : Int32)), .val (.ref (ob 0))] [(.ref (ob 0))]))) (fun _ k => st4 _ k) ?_
  refine own_go (A' := (T4.setTop (mkF m 46 #[.val (.ref arr), .val (.ref arr), .val (.int (4 : Int32)), .val (.int (0 : Int32)), .val (.ref (ob 0))] []))) (fun _ k => XS.pop X4.here hx rfl (hb hby own_d8_45) rfl rfl k) ?_
  refine own_go (A' := (T4.setTop (mkF m 49 #[.val (.ref arr), .val (.ref arr), .val (.int (4 : Int32)), .val (.int ((0 : Int32) + (1 : Int32))), .val (.ref (ob 0))] []))) (fun _ k => XS.iinc X4.here hx rfl (hb hby own_d8_46) rfl (l' := #[.val (.ref arr), .val (.ref arr), .val (.int (4 : Int32)), .val (.int ((0 : Int32) + (1 : Int32))), .val (.ref (ob 0))]) rfl k) ?_
  refine own_go (A' := (T4.setTop (mkF m 30 #[.val (.ref arr), .val (.ref arr), .val (.int (4 : Int32)), .val (.int ((0 : Int32) + (1 : Int32))), .val (.ref (ob 0))] []))) (fun _ k => XS.goto X4.here hx rfl (pc0 := 49) (pc' := 30) rfl (hb hby own_d8_49) (by decide) (by decide) k) ?_
  refine own_go (A' := (T4.setTop (mkF m 31 #[.val (.ref arr), .val (.ref arr), .val (.int (4 : Int32)), .val (.int ((0 : Int32) + (1 : Int32))), .val (.ref (ob 0))] [(.int ((0 : Int32) + (1 : Int32)))]))) (fun _ k => XS.iloadN X4.here hx rfl (hb hby own_d8_30) rfl k) ?_
  refine own_go (A' := (T4.setTop (mkF m 32 #[.val (.ref arr), .val (.ref arr), .val (.int (4 : Int32)), .val (.int ((0 : Int32) + (1 : Int32))), .val (.ref (ob 0))] [(.int (4 : Int32)), (.int ((0 : Int32) + (1 : Int32)))]))) (fun _ k => XS.iloadN X4.here hx rfl (hb hby own_d8_31) rfl k) ?_
  refine own_go (A' := (T4.setTop (mkF m 35 #[.val (.ref arr), .val (.ref arr), .val (.int (4 : Int32)), .val (.int ((0 : Int32) + (1 : Int32))), .val (.ref (ob 0))] []))) (fun _ k => XS.icmpNo X4.here hx rfl (hb hby own_d8_32) rfl (tlt (by decide : ((0 : Int32) + (1 : Int32)) < (4 : Int32))).2.1 k) ?_
  refine own_go (A' := (T4.setTop (mkF m 36 #[.val (.ref arr), .val (.ref arr), .val (.int (4 : Int32)), .val (.int ((0 : Int32) + (1 : Int32))), .val (.ref (ob 0))] [(.ref arr)]))) (fun _ k => XS.aloadN X4.here hx rfl (hb hby own_d8_35) rfl rfl k) ?_
  refine own_go (A' := (T4.setTop (mkF m 37 #[.val (.ref arr), .val (.ref arr), .val (.int (4 : Int32)), .val (.int ((0 : Int32) + (1 : Int32))), .val (.ref (ob 0))] [(.int ((0 : Int32) + (1 : Int32))), (.ref arr)]))) (fun _ k => XS.iloadN X4.here hx rfl (hb hby own_d8_36) rfl k) ?_
  obtain ⟨cl5, Ar5, sz5, ct5⟩ := id (Ar)
  refine own_go (A' := (T4.setTop (mkF m 38 #[.val (.ref arr), .val (.ref arr), .val (.int (4 : Int32)), .val (.int ((0 : Int32) + (1 : Int32))), .val (.ref (ob 0))] [(.ref (ob 1))]))) (fun _ k => X4.aaload hx (own_hp hh4 Ar5.1) (State.isArrayOf_alike hZ.alike Ar5.2.1) rfl Ar5.2.2 (j := ((0 : Int32) + (1 : Int32))) (own_in4 sz5 (by decide : Int32.toInt ((0 : Int32) + (1 : Int32)) = ((1 : Nat) : Int)) (by decide)) (own_at4 ct5 (by decide : Int32.toInt ((0 : Int32) + (1 : Int32)) = ((1 : Nat) : Int)) (by decide)) (g := (mkF m 37 #[.val (.ref arr), .val (.ref arr), .val (.int (4 : Int32)), .val (.int ((0 : Int32) + (1 : Int32))), .val (.ref (ob 0))] [(.int ((0 : Int32) + (1 : Int32))), (.ref arr)])) rfl rfl (hb hby own_d8_37) _ k) ?_
  refine own_go (A' := (T4.setTop (mkF m 40 #[.val (.ref arr), .val (.ref arr), .val (.int (4 : Int32)), .val (.int ((0 : Int32) + (1 : Int32))), .val (.ref (ob 1))] []))) (fun _ k => XS.astore X4.here hx rfl (hb hby own_d8_38) rfl rfl (l' := #[.val (.ref arr), .val (.ref arr), .val (.int (4 : Int32)), .val (.int ((0 : Int32) + (1 : Int32))), .val (.ref (ob 1))]) rfl k) ?_
  refine own_go (A' := (T4.setTop (mkF m 42 #[.val (.ref arr), .val (.ref arr), .val (.int (4 : Int32)), .val (.int ((0 : Int32) + (1 : Int32))), .val (.ref (ob 1))] [(.ref (ob 1))]))) (fun _ k => XS.aload X4.here hx rfl (hb hby own_d8_40) rfl rfl k) ?_
  obtain ⟨_, _, ⟨T6, L6, k6, n6⟩, -, X6, ⟨Lc6, hQ6, l6, y6, z6⟩, st6⟩ := Jvm.LawKit.callS X4 hx (y := (⟨"java/util/Objects", "requireNonNull", "(Ljava/lang/Object;)Ljava/lang/Object;"⟩ : MethodName)) hown (mvT hZ (hw _ (List.mem_of_getElem? (i := 46) rfl))) (mvT hZ (hw _ (List.mem_of_getElem? (i := 47) rfl))) (mvT hZ (hw _ (List.mem_of_getElem? (i := 48) rfl))) (mvT hZ (hw _ (List.mem_of_getElem? (i := 49) rfl))) (by decide) (backOf (W := 0) (own_rnn l Z a0 hw [] (ob 1) h0 n0 Z0) hZ (hw _ (List.mem_of_getElem? (i := 49) rfl)) (hw _ (List.mem_of_getElem? (i := 48) rfl)) (by decide) (by decide)) (g := (mkF m 42 #[.val (.ref arr), .val (.ref arr), .val (.int (4 : Int32)), .val (.int ((0 : Int32) + (1 : Int32))), .val (.ref (ob 1))] [(.ref (ob 1))])) rfl (by rw [hml]; rfl) (argsL := [(.ref (ob 1))]) (rest := []) (lenOf own_pd3 rfl) rfl (by show 2 * 0 + _ ≤ _; exact Nat.le_of_eq rfl) (hb hby own_d8_42) (fun _ _ => ⟨rfl, hh4, (by decide : 0 + 0 ≤ _), (by decide : 0 + 0 ≤ _)⟩)
  dsimp only [Pt.U, Pt.locs, Pt.cells, Pt.slots] at X6 l6 y6 z6 st6 hQ6
  subst l6 y6 z6
  obtain ⟨rfl, N6q, hh6⟩ := hQ6
  have N6 := Fr.app N4 N6q
  refine own_go (A' := (T6.setTop (mkF m 45 #[.val (.ref arr), .val (.ref arr), .val (.int (4 : Int32)), .val (.int ((0 : Int32) + (1 : Int32))), .val (.ref (ob 1))] [(.ref (ob 1))]))) (fun _ k => st6 _ k) ?_
  refine own_go (A' := (T6.setTop (mkF m 46 #[.val (.ref arr), .val (.ref arr), .val (.int (4 : Int32)), .val (.int ((0 : Int32) + (1 : Int32))), .val (.ref (ob 1))] []))) (fun _ k => XS.pop X6.here hx rfl (hb hby own_d8_45) rfl rfl k) ?_
  refine own_go (A' := (T6.setTop (mkF m 49 #[.val (.ref arr), .val (.ref arr), .val (.int (4 : Int32)), .val (.int (((0 : Int32) + (1 : Int32)) + (1 : Int32))), .val (.ref (ob 1))] []))) (fun _ k => XS.iinc X6.here hx rfl (hb hby own_d8_46) rfl (l' := #[.val (.ref arr), .val (.ref arr), .val (.int (4 : Int32)), .val (.int (((0 : Int32) + (1 : Int32)) + (1 : Int32))), .val (.ref (ob 1))]) rfl k) ?_
  refine own_go (A' := (T6.setTop (mkF m 30 #[.val (.ref arr), .val (.ref arr), .val (.int (4 : Int32)), .val (.int (((0 : Int32) + (1 : Int32)) + (1 : Int32))), .val (.ref (ob 1))] []))) (fun _ k => XS.goto X6.here hx rfl (pc0 := 49) (pc' := 30) rfl (hb hby own_d8_49) (by decide) (by decide) k) ?_
  refine own_go (A' := (T6.setTop (mkF m 31 #[.val (.ref arr), .val (.ref arr), .val (.int (4 : Int32)), .val (.int (((0 : Int32) + (1 : Int32)) + (1 : Int32))), .val (.ref (ob 1))] [(.int (((0 : Int32) + (1 : Int32)) + (1 : Int32)))]))) (fun _ k => XS.iloadN X6.here hx rfl (hb hby own_d8_30) rfl k) ?_
  refine own_go (A' := (T6.setTop (mkF m 32 #[.val (.ref arr), .val (.ref arr), .val (.int (4 : Int32)), .val (.int (((0 : Int32) + (1 : Int32)) + (1 : Int32))), .val (.ref (ob 1))] [(.int (4 : Int32)), (.int (((0 : Int32) + (1 : Int32)) + (1 : Int32)))]))) (fun _ k => XS.iloadN X6.here hx rfl (hb hby own_d8_31) rfl k) ?_
  refine own_go (A' := (T6.setTop (mkF m 35 #[.val (.ref arr), .val (.ref arr), .val (.int (4 : Int32)), .val (.int (((0 : Int32) + (1 : Int32)) + (1 : Int32))), .val (.ref (ob 1))] []))) (fun _ k => XS.icmpNo X6.here hx rfl (hb hby own_d8_32) rfl (tlt (by decide : (((0 : Int32) + (1 : Int32)) + (1 : Int32)) < (4 : Int32))).2.1 k) ?_
  refine own_go (A' := (T6.setTop (mkF m 36 #[.val (.ref arr), .val (.ref arr), .val (.int (4 : Int32)), .val (.int (((0 : Int32) + (1 : Int32)) + (1 : Int32))), .val (.ref (ob 1))] [(.ref arr)]))) (fun _ k => XS.aloadN X6.here hx rfl (hb hby own_d8_35) rfl rfl k) ?_
  refine own_go (A' := (T6.setTop (mkF m 37 #[.val (.ref arr), .val (.ref arr), .val (.int (4 : Int32)), .val (.int (((0 : Int32) + (1 : Int32)) + (1 : Int32))), .val (.ref (ob 1))] [(.int (((0 : Int32) + (1 : Int32)) + (1 : Int32))), (.ref arr)]))) (fun _ k => XS.iloadN X6.here hx rfl (hb hby own_d8_36) rfl k) ?_
  obtain ⟨cl7, Ar7, sz7, ct7⟩ := id (Ar)
  refine own_go (A' := (T6.setTop (mkF m 38 #[.val (.ref arr), .val (.ref arr), .val (.int (4 : Int32)), .val (.int (((0 : Int32) + (1 : Int32)) + (1 : Int32))), .val (.ref (ob 1))] [(.ref (ob 2))]))) (fun _ k => X6.aaload hx (own_hp hh6 Ar7.1) (State.isArrayOf_alike hZ.alike Ar7.2.1) rfl Ar7.2.2 (j := (((0 : Int32) + (1 : Int32)) + (1 : Int32))) (own_in4 sz7 (by decide : Int32.toInt (((0 : Int32) + (1 : Int32)) + (1 : Int32)) = ((2 : Nat) : Int)) (by decide)) (own_at4 ct7 (by decide : Int32.toInt (((0 : Int32) + (1 : Int32)) + (1 : Int32)) = ((2 : Nat) : Int)) (by decide)) (g := (mkF m 37 #[.val (.ref arr), .val (.ref arr), .val (.int (4 : Int32)), .val (.int (((0 : Int32) + (1 : Int32)) + (1 : Int32))), .val (.ref (ob 1))] [(.int (((0 : Int32) + (1 : Int32)) + (1 : Int32))), (.ref arr)])) rfl rfl (hb hby own_d8_37) _ k) ?_
  refine own_go (A' := (T6.setTop (mkF m 40 #[.val (.ref arr), .val (.ref arr), .val (.int (4 : Int32)), .val (.int (((0 : Int32) + (1 : Int32)) + (1 : Int32))), .val (.ref (ob 2))] []))) (fun _ k => XS.astore X6.here hx rfl (hb hby own_d8_38) rfl rfl (l' := #[.val (.ref arr), .val (.ref arr), .val (.int (4 : Int32)), .val (.int (((0 : Int32) + (1 : Int32)) + (1 : Int32))), .val (.ref (ob 2))]) rfl k) ?_
  refine own_go (A' := (T6.setTop (mkF m 42 #[.val (.ref arr), .val (.ref arr), .val (.int (4 : Int32)), .val (.int (((0 : Int32) + (1 : Int32)) + (1 : Int32))), .val (.ref (ob 2))] [(.ref (ob 2))]))) (fun _ k => XS.aload X6.here hx rfl (hb hby own_d8_40) rfl rfl k) ?_
  obtain ⟨_, _, ⟨T8, L8, k8, n8⟩, -, X8, ⟨Lc8, hQ8, l8, y8, z8⟩, st8⟩ := Jvm.LawKit.callS X6 hx (y := (⟨"java/util/Objects", "requireNonNull", "(Ljava/lang/Object;)Ljava/lang/Object;"⟩ : MethodName)) hown (mvT hZ (hw _ (List.mem_of_getElem? (i := 46) rfl))) (mvT hZ (hw _ (List.mem_of_getElem? (i := 47) rfl))) (mvT hZ (hw _ (List.mem_of_getElem? (i := 48) rfl))) (mvT hZ (hw _ (List.mem_of_getElem? (i := 49) rfl))) (by decide) (backOf (W := 0) (own_rnn l Z a0 hw [] (ob 2) h0 n0 Z0) hZ (hw _ (List.mem_of_getElem? (i := 49) rfl)) (hw _ (List.mem_of_getElem? (i := 48) rfl)) (by decide) (by decide)) (g := (mkF m 42 #[.val (.ref arr), .val (.ref arr), .val (.int (4 : Int32)), .val (.int (((0 : Int32) + (1 : Int32)) + (1 : Int32))), .val (.ref (ob 2))] [(.ref (ob 2))])) rfl (by rw [hml]; rfl) (argsL := [(.ref (ob 2))]) (rest := []) (lenOf own_pd3 rfl) rfl (by show 2 * 0 + _ ≤ _; exact Nat.le_of_eq rfl) (hb hby own_d8_42) (fun _ _ => ⟨rfl, hh6, (by decide : 0 + 0 ≤ _), (by decide : 0 + 0 ≤ _)⟩)
  dsimp only [Pt.U, Pt.locs, Pt.cells, Pt.slots] at X8 l8 y8 z8 st8 hQ8
  subst l8 y8 z8
  obtain ⟨rfl, N8q, hh8⟩ := hQ8
  have N8 := Fr.app N6 N8q
  refine own_go (A' := (T8.setTop (mkF m 45 #[.val (.ref arr), .val (.ref arr), .val (.int (4 : Int32)), .val (.int (((0 : Int32) + (1 : Int32)) + (1 : Int32))), .val (.ref (ob 2))] [(.ref (ob 2))]))) (fun _ k => st8 _ k) ?_
  refine own_go (A' := (T8.setTop (mkF m 46 #[.val (.ref arr), .val (.ref arr), .val (.int (4 : Int32)), .val (.int (((0 : Int32) + (1 : Int32)) + (1 : Int32))), .val (.ref (ob 2))] []))) (fun _ k => XS.pop X8.here hx rfl (hb hby own_d8_45) rfl rfl k) ?_
  refine own_go (A' := (T8.setTop (mkF m 49 #[.val (.ref arr), .val (.ref arr), .val (.int (4 : Int32)), .val (.int ((((0 : Int32) + (1 : Int32)) + (1 : Int32)) + (1 : Int32))), .val (.ref (ob 2))] []))) (fun _ k => XS.iinc X8.here hx rfl (hb hby own_d8_46) rfl (l' := #[.val (.ref arr), .val (.ref arr), .val (.int (4 : Int32)), .val (.int ((((0 : Int32) + (1 : Int32)) + (1 : Int32)) + (1 : Int32))), .val (.ref (ob 2))]) rfl k) ?_
  refine own_go (A' := (T8.setTop (mkF m 30 #[.val (.ref arr), .val (.ref arr), .val (.int (4 : Int32)), .val (.int ((((0 : Int32) + (1 : Int32)) + (1 : Int32)) + (1 : Int32))), .val (.ref (ob 2))] []))) (fun _ k => XS.goto X8.here hx rfl (pc0 := 49) (pc' := 30) rfl (hb hby own_d8_49) (by decide) (by decide) k) ?_
  refine own_go (A' := (T8.setTop (mkF m 31 #[.val (.ref arr), .val (.ref arr), .val (.int (4 : Int32)), .val (.int ((((0 : Int32) + (1 : Int32)) + (1 : Int32)) + (1 : Int32))), .val (.ref (ob 2))] [(.int ((((0 : Int32) + (1 : Int32)) + (1 : Int32)) + (1 : Int32)))]))) (fun _ k => XS.iloadN X8.here hx rfl (hb hby own_d8_30) rfl k) ?_
  refine own_go (A' := (T8.setTop (mkF m 32 #[.val (.ref arr), .val (.ref arr), .val (.int (4 : Int32)), .val (.int ((((0 : Int32) + (1 : Int32)) + (1 : Int32)) + (1 : Int32))), .val (.ref (ob 2))] [(.int (4 : Int32)), (.int ((((0 : Int32) + (1 : Int32)) + (1 : Int32)) + (1 : Int32)))]))) (fun _ k => XS.iloadN X8.here hx rfl (hb hby own_d8_31) rfl k) ?_
  refine own_go (A' := (T8.setTop (mkF m 35 #[.val (.ref arr), .val (.ref arr), .val (.int (4 : Int32)), .val (.int ((((0 : Int32) + (1 : Int32)) + (1 : Int32)) + (1 : Int32))), .val (.ref (ob 2))] []))) (fun _ k => XS.icmpNo X8.here hx rfl (hb hby own_d8_32) rfl (tlt (by decide : ((((0 : Int32) + (1 : Int32)) + (1 : Int32)) + (1 : Int32)) < (4 : Int32))).2.1 k) ?_
  refine own_go (A' := (T8.setTop (mkF m 36 #[.val (.ref arr), .val (.ref arr), .val (.int (4 : Int32)), .val (.int ((((0 : Int32) + (1 : Int32)) + (1 : Int32)) + (1 : Int32))), .val (.ref (ob 2))] [(.ref arr)]))) (fun _ k => XS.aloadN X8.here hx rfl (hb hby own_d8_35) rfl rfl k) ?_
  refine own_go (A' := (T8.setTop (mkF m 37 #[.val (.ref arr), .val (.ref arr), .val (.int (4 : Int32)), .val (.int ((((0 : Int32) + (1 : Int32)) + (1 : Int32)) + (1 : Int32))), .val (.ref (ob 2))] [(.int ((((0 : Int32) + (1 : Int32)) + (1 : Int32)) + (1 : Int32))), (.ref arr)]))) (fun _ k => XS.iloadN X8.here hx rfl (hb hby own_d8_36) rfl k) ?_
  obtain ⟨cl9, Ar9, sz9, ct9⟩ := id (Ar)
  refine own_go (A' := (T8.setTop (mkF m 38 #[.val (.ref arr), .val (.ref arr), .val (.int (4 : Int32)), .val (.int ((((0 : Int32) + (1 : Int32)) + (1 : Int32)) + (1 : Int32))), .val (.ref (ob 2))] [(.ref (ob 3))]))) (fun _ k => X8.aaload hx (own_hp hh8 Ar9.1) (State.isArrayOf_alike hZ.alike Ar9.2.1) rfl Ar9.2.2 (j := ((((0 : Int32) + (1 : Int32)) + (1 : Int32)) + (1 : Int32))) (own_in4 sz9 (by decide : Int32.toInt ((((0 : Int32) + (1 : Int32)) + (1 : Int32)) + (1 : Int32)) = ((3 : Nat) : Int)) (by decide)) (own_at4 ct9 (by decide : Int32.toInt ((((0 : Int32) + (1 : Int32)) + (1 : Int32)) + (1 : Int32)) = ((3 : Nat) : Int)) (by decide)) (g := (mkF m 37 #[.val (.ref arr), .val (.ref arr), .val (.int (4 : Int32)), .val (.int ((((0 : Int32) + (1 : Int32)) + (1 : Int32)) + (1 : Int32))), .val (.ref (ob 2))] [(.int ((((0 : Int32) + (1 : Int32)) + (1 : Int32)) + (1 : Int32))), (.ref arr)])) rfl rfl (hb hby own_d8_37) _ k) ?_
  refine own_go (A' := (T8.setTop (mkF m 40 #[.val (.ref arr), .val (.ref arr), .val (.int (4 : Int32)), .val (.int ((((0 : Int32) + (1 : Int32)) + (1 : Int32)) + (1 : Int32))), .val (.ref (ob 3))] []))) (fun _ k => XS.astore X8.here hx rfl (hb hby own_d8_38) rfl rfl (l' := #[.val (.ref arr), .val (.ref arr), .val (.int (4 : Int32)), .val (.int ((((0 : Int32) + (1 : Int32)) + (1 : Int32)) + (1 : Int32))), .val (.ref (ob 3))]) rfl k) ?_
  refine own_go (A' := (T8.setTop (mkF m 42 #[.val (.ref arr), .val (.ref arr), .val (.int (4 : Int32)), .val (.int ((((0 : Int32) + (1 : Int32)) + (1 : Int32)) + (1 : Int32))), .val (.ref (ob 3))] [(.ref (ob 3))]))) (fun _ k => XS.aload X8.here hx rfl (hb hby own_d8_40) rfl rfl k) ?_
  obtain ⟨_, _, ⟨T10, L10, k10, n10⟩, -, X10, ⟨Lc10, hQ10, l10, y10, z10⟩, st10⟩ := Jvm.LawKit.callS X8 hx (y := (⟨"java/util/Objects", "requireNonNull", "(Ljava/lang/Object;)Ljava/lang/Object;"⟩ : MethodName)) hown (mvT hZ (hw _ (List.mem_of_getElem? (i := 46) rfl))) (mvT hZ (hw _ (List.mem_of_getElem? (i := 47) rfl))) (mvT hZ (hw _ (List.mem_of_getElem? (i := 48) rfl))) (mvT hZ (hw _ (List.mem_of_getElem? (i := 49) rfl))) (by decide) (backOf (W := 0) (own_rnn l Z a0 hw [] (ob 3) h0 n0 Z0) hZ (hw _ (List.mem_of_getElem? (i := 49) rfl)) (hw _ (List.mem_of_getElem? (i := 48) rfl)) (by decide) (by decide)) (g := (mkF m 42 #[.val (.ref arr), .val (.ref arr), .val (.int (4 : Int32)), .val (.int ((((0 : Int32) + (1 : Int32)) + (1 : Int32)) + (1 : Int32))), .val (.ref (ob 3))] [(.ref (ob 3))])) rfl (by rw [hml]; rfl) (argsL := [(.ref (ob 3))]) (rest := []) (lenOf own_pd3 rfl) rfl (by show 2 * 0 + _ ≤ _; exact Nat.le_of_eq rfl) (hb hby own_d8_42) (fun _ _ => ⟨rfl, hh8, (by decide : 0 + 0 ≤ _), (by decide : 0 + 0 ≤ _)⟩)
  dsimp only [Pt.U, Pt.locs, Pt.cells, Pt.slots] at X10 l10 y10 z10 st10 hQ10
  subst l10 y10 z10
  obtain ⟨rfl, N10q, hh10⟩ := hQ10
  have N10 := Fr.app N8 N10q
  refine own_go (A' := (T10.setTop (mkF m 45 #[.val (.ref arr), .val (.ref arr), .val (.int (4 : Int32)), .val (.int ((((0 : Int32) + (1 : Int32)) + (1 : Int32)) + (1 : Int32))), .val (.ref (ob 3))] [(.ref (ob 3))]))) (fun _ k => st10 _ k) ?_
  refine own_go (A' := (T10.setTop (mkF m 46 #[.val (.ref arr), .val (.ref arr), .val (.int (4 : Int32)), .val (.int ((((0 : Int32) + (1 : Int32)) + (1 : Int32)) + (1 : Int32))), .val (.ref (ob 3))] []))) (fun _ k => XS.pop X10.here hx rfl (hb hby own_d8_45) rfl rfl k) ?_
  refine own_go (A' := (T10.setTop (mkF m 49 #[.val (.ref arr), .val (.ref arr), .val (.int (4 : Int32)), .val (.int (((((0 : Int32) + (1 : Int32)) + (1 : Int32)) + (1 : Int32)) + (1 : Int32))), .val (.ref (ob 3))] []))) (fun _ k => XS.iinc X10.here hx rfl (hb hby own_d8_46) rfl (l' := #[.val (.ref arr), .val (.ref arr), .val (.int (4 : Int32)), .val (.int (((((0 : Int32) + (1 : Int32)) + (1 : Int32)) + (1 : Int32)) + (1 : Int32))), .val (.ref (ob 3))]) rfl k) ?_
  refine own_go (A' := (T10.setTop (mkF m 30 #[.val (.ref arr), .val (.ref arr), .val (.int (4 : Int32)), .val (.int (((((0 : Int32) + (1 : Int32)) + (1 : Int32)) + (1 : Int32)) + (1 : Int32))), .val (.ref (ob 3))] []))) (fun _ k => XS.goto X10.here hx rfl (pc0 := 49) (pc' := 30) rfl (hb hby own_d8_49) (by decide) (by decide) k) ?_
  refine own_go (A' := (T10.setTop (mkF m 31 #[.val (.ref arr), .val (.ref arr), .val (.int (4 : Int32)), .val (.int (((((0 : Int32) + (1 : Int32)) + (1 : Int32)) + (1 : Int32)) + (1 : Int32))), .val (.ref (ob 3))] [(.int (((((0 : Int32) + (1 : Int32)) + (1 : Int32)) + (1 : Int32)) + (1 : Int32)))]))) (fun _ k => XS.iloadN X10.here hx rfl (hb hby own_d8_30) rfl k) ?_
  refine own_go (A' := (T10.setTop (mkF m 32 #[.val (.ref arr), .val (.ref arr), .val (.int (4 : Int32)), .val (.int (((((0 : Int32) + (1 : Int32)) + (1 : Int32)) + (1 : Int32)) + (1 : Int32))), .val (.ref (ob 3))] [(.int (4 : Int32)), (.int (((((0 : Int32) + (1 : Int32)) + (1 : Int32)) + (1 : Int32)) + (1 : Int32)))]))) (fun _ k => XS.iloadN X10.here hx rfl (hb hby own_d8_31) rfl k) ?_
  refine own_go (A' := (T10.setTop (mkF m 52 #[.val (.ref arr), .val (.ref arr), .val (.int (4 : Int32)), .val (.int (((((0 : Int32) + (1 : Int32)) + (1 : Int32)) + (1 : Int32)) + (1 : Int32))), .val (.ref (ob 3))] []))) (fun _ k => XS.icmpYes X10.here hx rfl (pc0 := 32) (pc' := 52) rfl (hb hby own_d8_32) rfl (flt (by decide : ¬ (((((0 : Int32) + (1 : Int32)) + (1 : Int32)) + (1 : Int32)) + (1 : Int32)) < (4 : Int32))).2.1 (by decide) (by decide) k) ?_
  refine own_go (A' := (T10.setTop (mkF m 53 #[.val (.ref arr), .val (.ref arr), .val (.int (4 : Int32)), .val (.int (((((0 : Int32) + (1 : Int32)) + (1 : Int32)) + (1 : Int32)) + (1 : Int32))), .val (.ref (ob 3))] [(.ref arr)]))) (fun _ k => XS.aloadN X10.here hx rfl (hb hby own_d8_52) rfl rfl k) ?_
  obtain ⟨cl11, Ar11, sz11, ct11⟩ := id (Ar)
  refine own_go (A' := (T10.setTop (mkF m 54 #[.val (.ref arr), .val (.ref arr), .val (.int (4 : Int32)), .val (.int (((((0 : Int32) + (1 : Int32)) + (1 : Int32)) + (1 : Int32)) + (1 : Int32))), .val (.ref (ob 3))] [(.int (4 : Int32))]))) (fun _ k => X10.arraylength hx (own_hp hh10 Ar11.1) (State.isArrayOf_alike hZ.alike Ar11.2.1) (g := (mkF m 53 #[.val (.ref arr), .val (.ref arr), .val (.int (4 : Int32)), .val (.int (((((0 : Int32) + (1 : Int32)) + (1 : Int32)) + (1 : Int32)) + (1 : Int32))), .val (.ref (ob 3))] [(.ref arr)])) rfl rfl (hb hby own_d8_53) _ (by rw [sz11]; exact k)) ?_
  refine own_go (A' := (T10.setTop (mkF m 115 #[.val (.ref arr), .val (.ref arr), .val (.int (4 : Int32)), .val (.int (((((0 : Int32) + (1 : Int32)) + (1 : Int32)) + (1 : Int32)) + (1 : Int32))), .val (.ref (ob 3))] []))) (fun _ k => XS.tswOut X10.here hx rfl (pc0 := 54) (pc' := 115) rfl (hb hby own_d8_54) rfl (by decide) (by decide) (by decide) k) ?_
  obtain ⟨T12, h12, X12, e12, E12, A12, D12, -, st12⟩ := newO X10 hx hZ hown (hw _ (List.mem_of_getElem? (i := 50) rfl)) (hw _ (List.mem_of_getElem? (i := 51) rfl)) (hw _ (List.mem_of_getElem? (i := 52) rfl)) hh10 (g := (mkF m 115 #[.val (.ref arr), .val (.ref arr), .val (.int (4 : Int32)), .val (.int (((((0 : Int32) + (1 : Int32)) + (1 : Int32)) + (1 : Int32)) + (1 : Int32))), .val (.ref (ob 3))] [])) rfl (hb hby own_d8_115) (by decide) (by decide)
  obtain ⟨b12, g12⟩ : ∃ z, z = h0.size := ⟨_, rfl⟩
  rw [← g12] at A12 D12 st12
  refine own_go (A' := (T12.setTop (mkF m 118 #[.val (.ref arr), .val (.ref arr), .val (.int (4 : Int32)), .val (.int (((((0 : Int32) + (1 : Int32)) + (1 : Int32)) + (1 : Int32)) + (1 : Int32))), .val (.ref (ob 3))] [(.ref b12)]))) (fun _ k => st12 _ k) ?_
  have F12_elements : Fld Z h12 b12 "java/util/ImmutableCollections$ListN" "elements" "[Ljava/lang/Object;" .null := D12 (Or.inr (hw _ (List.mem_of_getElem? (i := 77) rfl))) (ty := (.array (.object "java/lang/Object"))) (by decide)
  have sz_b : h0.size ≤ b12 := Nat.le_of_eq g12.symm
  have g_b : n0 ≤ b12 := Nat.le_trans Z0 sz_b
  have Zn : n0 ≤ h12.size := Nat.le_trans Z0 E12.1
  have K0 : Keep h0 h12 [] := (Keep.refl _ _).ext E12
  refine own_go (A' := (T12.setTop (mkF m 119 #[.val (.ref arr), .val (.ref arr), .val (.int (4 : Int32)), .val (.int (((((0 : Int32) + (1 : Int32)) + (1 : Int32)) + (1 : Int32)) + (1 : Int32))), .val (.ref (ob 3))] [(.ref b12), (.ref b12)]))) (fun _ k => XS.dup X12.here hx rfl (hb hby own_d8_118) rfl rfl k) ?_
  refine own_go (A' := (T12.setTop (mkF m 120 #[.val (.ref arr), .val (.ref arr), .val (.int (4 : Int32)), .val (.int (((((0 : Int32) + (1 : Int32)) + (1 : Int32)) + (1 : Int32)) + (1 : Int32))), .val (.ref (ob 3))] [(.ref arr), (.ref b12), (.ref b12)]))) (fun _ k => XS.aloadN X12.here hx rfl (hb hby own_d8_119) rfl rfl k) ?_
  refine own_go (A' := (T12.setTop (mkF m 121 #[.val (.ref arr), .val (.ref arr), .val (.int (4 : Int32)), .val (.int (((((0 : Int32) + (1 : Int32)) + (1 : Int32)) + (1 : Int32)) + (1 : Int32))), .val (.ref (ob 3))] [(.int (0 : Int32)), (.ref arr), (.ref b12), (.ref b12)]))) (fun _ k => XS.iconst X12.here hx rfl (hb hby own_d8_120) k) ?_
  obtain ⟨_, _, ⟨T13, L13, k13, n13⟩, -, X13, ⟨Lc13, hQ13, l13, y13, z13⟩, st13⟩ := X12.specialBackNest hx (y := (⟨"java/util/ImmutableCollections$ListN", "<init>", "([Ljava/lang/Object;Z)V"⟩ : MethodName)) rfl hown (own_mvM hZ (hw _ (List.mem_of_getElem? (i := 53) rfl))) (mvT hZ (hw _ (List.mem_of_getElem? (i := 54) rfl))) (mvT hZ (hw _ (List.mem_of_getElem? (i := 56) rfl))) (by decide) (backOf (W := 1) (own_lninit l Z a0 hw [] b12 arr _ h12 n0 Zn A12 F12_elements g_b) hZ (hw _ (List.mem_of_getElem? (i := 56) rfl)) (hw _ (List.mem_of_getElem? (i := 52) rfl)) (by decide) (by decide)) (g := (mkF m 121 #[.val (.ref arr), .val (.ref arr), .val (.int (4 : Int32)), .val (.int (((((0 : Int32) + (1 : Int32)) + (1 : Int32)) + (1 : Int32)) + (1 : Int32))), .val (.ref (ob 3))] [(.int (0 : Int32)), (.ref arr), (.ref b12), (.ref b12)])) rfl (by rw [hml]; rfl) (Steps.refl _) (a := b12) (argsL := [(.ref arr), (.int (0 : Int32))]) (rest := [(.ref b12)]) (lenOf own_pd4 rfl) rfl (by show 2 * 0 + _ ≤ _; exact Nat.le_of_eq rfl) (hb hby own_d8_121) (fun _ _ => ⟨rfl, e12, (by decide : 1 + 0 ≤ _), (by decide : 2 + 0 ≤ _)⟩)
  dsimp only [Pt.U, Pt.locs, Pt.cells, Pt.slots] at X13 l13 y13 z13 st13 hQ13
  subst l13 y13 z13
  obtain ⟨rfl, N13q, K13, Ea, Fa⟩ := hQ13
  have N13 := Fr.app N10 N13q
  refine own_go (A' := (T13.setTop (mkF m 124 #[.val (.ref arr), .val (.ref arr), .val (.int (4 : Int32)), .val (.int (((((0 : Int32) + (1 : Int32)) + (1 : Int32)) + (1 : Int32)) + (1 : Int32))), .val (.ref (ob 3))] [(.ref b12)]))) (fun _ k => st13.trans k) ?_
  have K1 := K0.trans K13 (allS (Or.inr sz_b) all0)
  obtain ⟨fs, hr, hrun, hended, hW, hsame⟩ := X13.leave (v := some (.ref b12)) (fun h => by rw [Bd.returns] at h; cases h)
  refine ⟨_, _, retOut X13 hx (t := (.object "java/util/List")) Bd.returns rfl (Or.inr (Or.inr (Or.inr (Or.inr ⟨rfl, rfl, rfl⟩)))) (hb hby own_d8_124) hr, hR _ _ ⟨hrun, hended, _, _, rfl, ?_, ⟨_, rfl⟩, hW, hsame.mono (by decide) (by decide)⟩⟩
  show own_Q_own_lft Z arr ob h0 n0 _ T13.heap _
  exact ⟨b12, rfl, N13, K1, Ea, Fa, sz_b⟩
theorem own_ef_own_lof (m : MethodId) (o0 : Addr) (o1 : Addr) (o2 : Addr) (o3 : Addr) : entryFrame m #[(.ref o0), (.ref o1), (.ref o2), (.ref o3)] 4 = mkF m 0 #[.val (.ref o0), .val (.ref o1), .val (.ref o2), .val (.ref o3)] [] := by first | (simp [entryFrame, mkF, argsToLocals, Value.category]; done) | rfl
def own_Q_own_lof (Z : State) (o0 : Addr) (o1 : Addr) (o2 : Addr) (o3 : Addr) (h0 : Heap) (n0 : Nat) (v : Option Value) (h : Heap) (L : List Loc) : Prop := ∃ (b arr : Addr), v = some (.ref b) ∧ Fr n0 L ∧ Keep h0 h [] ∧ Exa Z h b "java/util/ImmutableCollections$ListN" ∧ Fld Z h b "java/util/ImmutableCollections$ListN" "elements" "[Ljava/lang/Object;" (.ref arr) ∧ own_Ar Z h arr (own_four o0 o1 o2 o3) ∧ h0.size ≤ b ∧ h0.size ≤ arr
set_option maxRecDepth 65536 in
set_option maxHeartbeats 40000000 in
theorem own_lof (l : Launch) (Z : State) (a0 : Array Value) (hw : ∀ d ∈ tables_1, d.before a0 Z = true) (ws : List Jvm.Cond) (o0 : Addr) (o1 : Addr) (o2 : Addr) (o3 : Addr) (h0 : Heap) (n0 : Nat) (Z0 : n0 ≤ h0.size) (E0 : Exa Z h0 o0 "java/lang/Double") (E1 : Exa Z h0 o1 "java/lang/Double") (E2 : Exa Z h0 o2 "java/lang/Double") (E3 : Exa Z h0 o3 "java/lang/Double") (S1 : Sta Z h0 "java/util/ImmutableCollections" "$assertionsDisabled" "Z" (.int 1)) :
    MetFree l (⟨"java/util/List", "of", "(Ljava/lang/Object;Ljava/lang/Object;Ljava/lang/Object;Ljava/lang/Object;)Ljava/util/List;"⟩ : MethodName) (head1 (Jvm.Cond.code (⟨"java/util/List", "of", "(Ljava/lang/Object;Ljava/lang/Object;Ljava/lang/Object;Ljava/lang/Object;)Ljava/util/List;"⟩ : MethodName) jdk_40_method_40_code 4 (some (.object "java/util/List")) :: ws) ({ frames := 6, cells := 2, slots := 6, locals := 79 } : Room)) (fun a U => a = #[(.ref o0), (.ref o1), (.ref o2), (.ref o3)] ∧ Z.Warmed39 U.vm ∧ U.heap = h0) (fun _ _ _ _ _ => True) (fun _ U o U' => ∃ v L, o = .returned v ∧ own_Q_own_lof Z o0 o1 o2 o3 h0 n0 v U'.heap L ∧ FrameEnd U o U' L ({ frames := 6, cells := 2, slots := 6, locals := 79 } : Room).cells ({ frames := 6, cells := 2, slots := 6, locals := 79 } : Room).slots) := by
  refine MetFree.of_bodySF (plainFor_of_name own_pn7) hisR ?_
  intro p e s m args below meth c s₁ Bd hml0 hP hK
  obtain ⟨rfl, hZ, hh⟩ := hP
  have hx := Bd.exec
  have hby := Bd.bytes
  have hml : c.maxLocals = 4 := hml0
  have hown : s.vm.findClass "java/util/List" = some m.cls := findClass_of_methodNamed Bd.named
  have hnm := (name_of_methodNamed Bd.named Bd.method).1
  have X0 : Stand p l e ({ frames := 6, cells := 2, slots := 6, locals := 79 } : Room) s m #[(.ref o0), (.ref o1), (.ref o2), (.ref o3)] below meth c s₁ [] 0 0 := Stand.of_body Bd
  have e0 : s₁.heap = h0 := by rw [← hh, Bd.state]; rfl
  have N0 := Fr.nil n0
  refine own_open ?_
  intro R hR
  rw [own_ef_own_lof m o0 o1 o2 o3]
  show own_W p e below R (s₁.setTop (mkF m 0 #[.val (.ref o0), .val (.ref o1), .val (.ref o2), .val (.ref o3)] []))
  refine own_go (A' := (s₁.setTop (mkF m 1 #[.val (.ref o0), .val (.ref o1), .val (.ref o2), .val (.ref o3)] [(.int (4 : Int32))]))) (fun _ k => XS.iconst X0.here hx rfl (hb hby own_d7_0) k) ?_
  obtain ⟨T11, h11, k11, X11, e11, E11, A11, O11, st11⟩ := newR X0 hx hZ hown (hw _ (List.mem_of_getElem? (i := 38) rfl)) (hw _ (List.mem_of_getElem? (i := 39) rfl)) e0 (g := (mkF m 1 #[.val (.ref o0), .val (.ref o1), .val (.ref o2), .val (.ref o3)] [(.int (4 : Int32))])) rfl (hb hby own_d7_1) rfl (by decide) (cap := 4) (by decide) (by decide) (by decide) (by decide)
  obtain ⟨arr, garr⟩ : ∃ z, z = h0.size := ⟨_, rfl⟩
  rw [← garr] at A11 st11
  refine own_go (A' := (T11.setTop (mkF m 4 #[.val (.ref o0), .val (.ref o1), .val (.ref o2), .val (.ref o3)] [(.ref arr)]))) (fun _ k => st11 _ k) ?_
  have sz_arr : h0.size ≤ arr := Nat.le_of_eq garr.symm
  have g_arr : n0 ≤ arr := Nat.le_trans Z0 sz_arr
  obtain ⟨c0, hc0⟩ : ∃ c0, c0 = newA k11 (.object "java/lang/Object") 4 := ⟨_, rfl⟩
  rw [← hc0] at A11
  have hcls : c0.cls = k11 := by rw [hc0]; rfl
  have hsz : c0.slots.size = 4 := by rw [hc0]; simp [newA]
  have K0 : Keep h0 h11 [] := (Keep.refl _ _).ext E11
  have S1 := S1.ext E11
  have E0 := E0.ext E11
  have E1 := E1.ext E11
  have E2 := E2.ext E11
  have E3 := E3.ext E11
  refine own_go (A' := (T11.setTop (mkF m 5 #[.val (.ref o0), .val (.ref o1), .val (.ref o2), .val (.ref o3)] [(.ref arr), (.ref arr)]))) (fun _ k => XS.dup X11.here hx rfl (hb hby own_d7_4) rfl rfl k) ?_
  refine own_go (A' := (T11.setTop (mkF m 6 #[.val (.ref o0), .val (.ref o1), .val (.ref o2), .val (.ref o3)] [(.int (0 : Int32)), (.ref arr), (.ref arr)]))) (fun _ k => XS.iconst X11.here hx rfl (hb hby own_d7_5) k) ?_
  refine own_go (A' := (T11.setTop (mkF m 7 #[.val (.ref o0), .val (.ref o1), .val (.ref o2), .val (.ref o3)] [(.ref o0), (.int (0 : Int32)), (.ref arr), (.ref arr)]))) (fun _ k => XS.aloadN X11.here hx rfl (hb hby own_d7_6) rfl rfl k) ?_
  have sz0 : (c0).slots.size = 4 := by simp [Cell.setSlot, hsz]
  obtain ⟨T12, h12, X12, e12, W12, st12⟩ := stR X11 hx hZ e11 A11 (j := (0 : Int32)) (own_in4 (n := 0) sz0 rfl (by decide)) rfl (Sto.ofV A11 hcls O11 (Ins.of_exa E0 (hw _ (List.mem_of_getElem? (i := 40) rfl)))) (g := (mkF m 7 #[.val (.ref o0), .val (.ref o1), .val (.ref o2), .val (.ref o3)] [(.ref o0), (.int (0 : Int32)), (.ref arr), (.ref arr)])) rfl rfl (hb hby own_d7_7)
  refine own_go (A' := (T12.setTop (mkF m 8 #[.val (.ref o0), .val (.ref o1), .val (.ref o2), .val (.ref o3)] [(.ref arr)]))) (fun _ k => st12 _ k) ?_
  have N12 := Fr.snoc X12 N0 g_arr
  have A12 := A11.same W12
  have K0 := K0.wr W12 (Or.inr sz_arr)
  have S1 := S1.wr W12
  have E0 := E0.wr W12
  have E1 := E1.wr W12
  have E2 := E2.wr W12
  have E3 := E3.wr W12
  refine own_go (A' := (T12.setTop (mkF m 9 #[.val (.ref o0), .val (.ref o1), .val (.ref o2), .val (.ref o3)] [(.ref arr), (.ref arr)]))) (fun _ k => XS.dup X12.here hx rfl (hb hby own_d7_8) rfl rfl k) ?_
  refine own_go (A' := (T12.setTop (mkF m 10 #[.val (.ref o0), .val (.ref o1), .val (.ref o2), .val (.ref o3)] [(.int (1 : Int32)), (.ref arr), (.ref arr)]))) (fun _ k => XS.iconst X12.here hx rfl (hb hby own_d7_9) k) ?_
  refine own_go (A' := (T12.setTop (mkF m 11 #[.val (.ref o0), .val (.ref o1), .val (.ref o2), .val (.ref o3)] [(.ref o1), (.int (1 : Int32)), (.ref arr), (.ref arr)]))) (fun _ k => XS.aloadN X12.here hx rfl (hb hby own_d7_10) rfl rfl k) ?_
  have sz1 : ((c0).setSlot 0 (.ref o0)).slots.size = 4 := by simp [Cell.setSlot, hsz]
  obtain ⟨T13, h13, X13, e13, W13, st13⟩ := stR X12 hx hZ e12 A12 (j := (1 : Int32)) (own_in4 (n := 1) sz1 rfl (by decide)) rfl (Sto.ofV A12 hcls O11 (Ins.of_exa E1 (hw _ (List.mem_of_getElem? (i := 40) rfl)))) (g := (mkF m 11 #[.val (.ref o0), .val (.ref o1), .val (.ref o2), .val (.ref o3)] [(.ref o1), (.int (1 : Int32)), (.ref arr), (.ref arr)])) rfl rfl (hb hby own_d7_11)
  refine own_go (A' := (T13.setTop (mkF m 12 #[.val (.ref o0), .val (.ref o1), .val (.ref o2), .val (.ref o3)] [(.ref arr)]))) (fun _ k => st13 _ k) ?_
  have N13 := Fr.snoc X13 N12 g_arr
  have A13 := A12.same W13
  have K0 := K0.wr W13 (Or.inr sz_arr)
  have S1 := S1.wr W13
  have E0 := E0.wr W13
  have E1 := E1.wr W13
  have E2 := E2.wr W13
  have E3 := E3.wr W13
  refine own_go (A' := (T13.setTop (mkF m 13 #[.val (.ref o0), .val (.ref o1), .val (.ref o2), .val (.ref o3)] [(.ref arr), (.ref arr)]))) (fun _ k => XS.dup X13.here hx rfl (hb hby own_d7_12) rfl rfl k) ?_
  refine own_go (A' := (T13.setTop (mkF m 14 #[.val (.ref o0), .val (.ref o1), .val (.ref o2), .val (.ref o3)] [(.int (2 : Int32)), (.ref arr), (.ref arr)]))) (fun _ k => XS.iconst X13.here hx rfl (hb hby own_d7_13) k) ?_
  refine own_go (A' := (T13.setTop (mkF m 15 #[.val (.ref o0), .val (.ref o1), .val (.ref o2), .val (.ref o3)] [(.ref o2), (.int (2 : Int32)), (.ref arr), (.ref arr)]))) (fun _ k => XS.aloadN X13.here hx rfl (hb hby own_d7_14) rfl rfl k) ?_
  have sz2 : (((c0).setSlot 0 (.ref o0)).setSlot 1 (.ref o1)).slots.size = 4 := by simp [Cell.setSlot, hsz]
  obtain ⟨T14, h14, X14, e14, W14, st14⟩ := stR X13 hx hZ e13 A13 (j := (2 : Int32)) (own_in4 (n := 2) sz2 rfl (by decide)) rfl (Sto.ofV A13 hcls O11 (Ins.of_exa E2 (hw _ (List.mem_of_getElem? (i := 40) rfl)))) (g := (mkF m 15 #[.val (.ref o0), .val (.ref o1), .val (.ref o2), .val (.ref o3)] [(.ref o2), (.int (2 : Int32)), (.ref arr), (.ref arr)])) rfl rfl (hb hby own_d7_15)
  refine own_go (A' := (T14.setTop (mkF m 16 #[.val (.ref o0), .val (.ref o1), .val (.ref o2), .val (.ref o3)] [(.ref arr)]))) (fun _ k => st14 _ k) ?_
  have N14 := Fr.snoc X14 N13 g_arr
  have A14 := A13.same W14
  have K0 := K0.wr W14 (Or.inr sz_arr)
  have S1 := S1.wr W14
  have E0 := E0.wr W14
  have E1 := E1.wr W14
  have E2 := E2.wr W14
  have E3 := E3.wr W14
  refine own_go (A' := (T14.setTop (mkF m 17 #[.val (.ref o0), .val (.ref o1), .val (.ref o2), .val (.ref o3)] [(.ref arr), (.ref arr)]))) (fun _ k => XS.dup X14.here hx rfl (hb hby own_d7_16) rfl rfl k) ?_
  refine own_go (A' := (T14.setTop (mkF m 18 #[.val (.ref o0), .val (.ref o1), .val (.ref o2), .val (.ref o3)] [(.int (3 : Int32)), (.ref arr), (.ref arr)]))) (fun _ k => XS.iconst X14.here hx rfl (hb hby own_d7_17) k) ?_
  refine own_go (A' := (T14.setTop (mkF m 19 #[.val (.ref o0), .val (.ref o1), .val (.ref o2), .val (.ref o3)] [(.ref o3), (.int (3 : Int32)), (.ref arr), (.ref arr)]))) (fun _ k => XS.aloadN X14.here hx rfl (hb hby own_d7_18) rfl rfl k) ?_
  have sz3 : ((((c0).setSlot 0 (.ref o0)).setSlot 1 (.ref o1)).setSlot 2 (.ref o2)).slots.size = 4 := by simp [Cell.setSlot, hsz]
  obtain ⟨T15, h15, X15, e15, W15, st15⟩ := stR X14 hx hZ e14 A14 (j := (3 : Int32)) (own_in4 (n := 3) sz3 rfl (by decide)) rfl (Sto.ofV A14 hcls O11 (Ins.of_exa E3 (hw _ (List.mem_of_getElem? (i := 40) rfl)))) (g := (mkF m 19 #[.val (.ref o0), .val (.ref o1), .val (.ref o2), .val (.ref o3)] [(.ref o3), (.int (3 : Int32)), (.ref arr), (.ref arr)])) rfl rfl (hb hby own_d7_19)
  refine own_go (A' := (T15.setTop (mkF m 20 #[.val (.ref o0), .val (.ref o1), .val (.ref o2), .val (.ref o3)] [(.ref arr)]))) (fun _ k => st15 _ k) ?_
  have N15 := Fr.snoc X15 N14 g_arr
  have A15 := A14.same W15
  have K0 := K0.wr W15 (Or.inr sz_arr)
  have S1 := S1.wr W15
  have E0 := E0.wr W15
  have E1 := E1.wr W15
  have E2 := E2.wr W15
  have E3 := E3.wr W15
  have Ar : own_Ar Z h15 arr (own_four o0 o1 o2 o3) := ⟨_, A15, by simp [Cell.setSlot, hsz], fun j hj => (own_cells hsz j hj).trans (congrArg some (own_four_ref o0 o1 o2 o3 j))⟩
  have Zn : n0 ≤ h15.size := Nat.le_trans Z0 K0.1
  obtain ⟨_, _, ⟨T16, L16, k16, n16⟩, -, X16, ⟨Lc16, hQ16, l16, y16, z16⟩, st16⟩ := Jvm.LawKit.callS X15 hx (y := (⟨"java/util/ImmutableCollections", "listFromTrustedArray", "([Ljava/lang/Object;)Ljava/util/List;"⟩ : MethodName)) hown (mvT hZ (hw _ (List.mem_of_getElem? (i := 41) rfl))) (mvT hZ (hw _ (List.mem_of_getElem? (i := 42) rfl))) (mvT hZ (hw _ (List.mem_of_getElem? (i := 43) rfl))) (mvT hZ (hw _ (List.mem_of_getElem? (i := 44) rfl))) (by decide) (backOf (W := 0) (own_lft l Z a0 hw [] arr (own_four o0 o1 o2 o3) h15 n0 Zn Ar S1) hZ (hw _ (List.mem_of_getElem? (i := 44) rfl)) (hw _ (List.mem_of_getElem? (i := 43) rfl)) (by decide) (by decide)) (g := (mkF m 20 #[.val (.ref o0), .val (.ref o1), .val (.ref o2), .val (.ref o3)] [(.ref arr)])) rfl (by rw [hml]; rfl) (argsL := [(.ref arr)]) (rest := []) (lenOf own_pd5 rfl) rfl (by show 2 * 0 + _ ≤ _; exact Nat.le_of_eq rfl) (hb hby own_d7_20) (fun _ _ => ⟨rfl, e15, (by decide : 1 + 1 ≤ _), (by decide : 4 + 2 ≤ _)⟩)
  dsimp only [Pt.U, Pt.locs, Pt.cells, Pt.slots] at X16 l16 y16 z16 st16 hQ16
  subst l16 y16 z16
  obtain ⟨b16, rfl, N16q, K16, Eb, Fb, szb⟩ := hQ16
  have N16 := Fr.app N15 N16q
  refine own_go (A' := (T16.setTop (mkF m 23 #[.val (.ref o0), .val (.ref o1), .val (.ref o2), .val (.ref o3)] [(.ref b16)]))) (fun _ k => st16 _ k) ?_
  have K1 := K0.trans K16 all0
  have Ar1 := Ar.keep K16 nin0
  obtain ⟨fs, hr, hrun, hended, hW, hsame⟩ := X16.leave (v := some (.ref b16)) (fun h => by rw [Bd.returns] at h; cases h)
  refine ⟨_, _, retOut X16 hx (t := (.object "java/util/List")) Bd.returns rfl (Or.inr (Or.inr (Or.inr (Or.inr ⟨rfl, rfl, rfl⟩)))) (hb hby own_d7_23) hr, hR _ _ ⟨hrun, hended, _, _, rfl, ?_, ⟨_, rfl⟩, hW, hsame.mono (by decide) (by decide)⟩⟩
  show own_Q_own_lof Z o0 o1 o2 o3 h0 n0 _ T16.heap _
  exact ⟨b16, arr, rfl, N16, K1, Eb, Fb, Ar1, Nat.le_trans K0.1 szb, sz_arr⟩
theorem own_ef_own_itinit (m : MethodId) (a0_ : Addr) (o1 : Addr) (p2 : Int32) : entryFrame m #[(.ref a0_), (.ref o1), (.int p2)] 3 = mkF m 0 #[.val (.ref a0_), .val (.ref o1), .val (.int p2)] [] := by first | (simp [entryFrame, mkF, argsToLocals, Value.category]; done) | rfl
def own_Q_own_itinit (Z : State) (a0_ : Addr) (o1 : Addr) (p2 : Int32) (u0 : Value) (h0 : Heap) (n0 : Nat) (v : Option Value) (h : Heap) (L : List Loc) : Prop := v = none ∧ Fr n0 L ∧ Keep h0 h [a0_] ∧ Exa Z h a0_ "java/util/ImmutableCollections$ListItr" ∧ Fld Z h a0_ "java/util/ImmutableCollections$ListItr" "list" "Ljava/util/List;" (.ref o1) ∧ Fld Z h a0_ "java/util/ImmutableCollections$ListItr" "size" "I" (.int p2) ∧ Fld Z h a0_ "java/util/ImmutableCollections$ListItr" "cursor" "I" (.int 0)
set_option maxRecDepth 65536 in
set_option maxHeartbeats 40000000 in
theorem own_itinit (l : Launch) (Z : State) (a0 : Array Value) (hw : ∀ d ∈ tables_1, d.before a0 Z = true) (ws : List Jvm.Cond) (a0_ : Addr) (o1 : Addr) (p2 : Int32) (u0 : Value) (h0 : Heap) (n0 : Nat) (Z0 : n0 ≤ h0.size) (E_a : Exa Z h0 a0_ "java/util/ImmutableCollections$ListItr") (F_a : Fld Z h0 a0_ "java/util/ImmutableCollections$ListItr" "list" "Ljava/util/List;" u0) (g_a : n0 ≤ a0_) :
    MetFree l (⟨"java/util/ImmutableCollections$ListItr", "<init>", "(Ljava/util/List;I)V"⟩ : MethodName) (head1 (Jvm.Cond.code (⟨"java/util/ImmutableCollections$ListItr", "<init>", "(Ljava/util/List;I)V"⟩ : MethodName) jdk_53_method_1_code 3 none :: ws) ({ frames := 1, cells := 0, slots := 0, locals := 12 } : Room)) (fun a U => a = #[(.ref a0_), (.ref o1), (.int p2)] ∧ Z.Warmed39 U.vm ∧ U.heap = h0) (fun _ _ _ _ _ => True) (fun _ U o U' => ∃ v L, o = .returned v ∧ own_Q_own_itinit Z a0_ o1 p2 u0 h0 n0 v U'.heap L ∧ FrameEnd U o U' L ({ frames := 1, cells := 0, slots := 0, locals := 12 } : Room).cells ({ frames := 1, cells := 0, slots := 0, locals := 12 } : Room).slots) := by
  refine MetFree.of_bodySF (plainFor_of_name own_pn16) hisR ?_
  intro p e s m args below meth c s₁ Bd hml0 hP hK
  obtain ⟨rfl, hZ, hh⟩ := hP
  have hx := Bd.exec
  have hby := Bd.bytes
  have hml : c.maxLocals = 3 := hml0
  have hown : s.vm.findClass "java/util/ImmutableCollections$ListItr" = some m.cls := findClass_of_methodNamed Bd.named
  have hnm := (name_of_methodNamed Bd.named Bd.method).1
  have X0 : Stand p l e ({ frames := 1, cells := 0, slots := 0, locals := 12 } : Room) s m #[(.ref a0_), (.ref o1), (.int p2)] below meth c s₁ [] 0 0 := Stand.of_body Bd
  have e0 : s₁.heap = h0 := by rw [← hh, Bd.state]; rfl
  have N0 := Fr.nil n0
  refine own_open ?_
  intro R hR
  rw [own_ef_own_itinit m a0_ o1 p2]
  show own_W p e below R (s₁.setTop (mkF m 0 #[.val (.ref a0_), .val (.ref o1), .val (.int p2)] []))
  refine own_go (A' := (s₁.setTop (mkF m 1 #[.val (.ref a0_), .val (.ref o1), .val (.int p2)] [(.ref a0_)]))) (fun _ k => XS.aloadN X0.here hx rfl (hb hby own_d16_0) rfl rfl k) ?_
  obtain ⟨T1, X1, e1, st1⟩ := initO X0 hx hZ hown (hw _ (List.mem_of_getElem? (i := 102) rfl)) (hw _ (List.mem_of_getElem? (i := 13) rfl)) (hw _ (List.mem_of_getElem? (i := 14) rfl)) e0 (g := (mkF m 1 #[.val (.ref a0_), .val (.ref o1), .val (.int p2)] [(.ref a0_)])) rfl (by rw [hml]; rfl) rfl (hb hby own_d16_1) (by decide) (W := 0) (by show 2 * 0 + _ ≤ _; exact Nat.le_of_eq rfl) (by decide)
  refine own_go (A' := (T1.setTop (mkF m 4 #[.val (.ref a0_), .val (.ref o1), .val (.int p2)] []))) (fun _ k => st1 _ k) ?_
  have K_a : Keep h0 h0 [a0_] := Keep.refl _ _
  refine own_go (A' := (T1.setTop (mkF m 5 #[.val (.ref a0_), .val (.ref o1), .val (.int p2)] [(.ref a0_)]))) (fun _ k => XS.aloadN X1.here hx rfl (hb hby own_d16_4) rfl rfl k) ?_
  refine own_go (A' := (T1.setTop (mkF m 6 #[.val (.ref a0_), .val (.ref o1), .val (.int p2)] [(.ref o1), (.ref a0_)]))) (fun _ k => XS.aloadN X1.here hx rfl (hb hby own_d16_5) rfl rfl k) ?_
  obtain ⟨_, Fo⟩ := own_any F_a E_a (hw _ (List.mem_of_getElem? (i := 90) rfl)) (Or.inr (hw _ (List.mem_of_getElem? (i := 104) rfl)))
  obtain ⟨T2, h2, X2, e2, W2, st2⟩ := putF X1 hx hZ hown (host := "") (Or.inl (hw _ (List.mem_of_getElem? (i := 103) rfl))) Via.refl e1 Fo E_a (Or.inr ⟨(hw _ (List.mem_of_getElem? (i := 104) rfl)), rfl, hnm⟩) (hw _ (List.mem_of_getElem? (i := 90) rfl)) (ty := (.object "java/util/List")) (by decide) rfl rfl (g := (mkF m 6 #[.val (.ref a0_), .val (.ref o1), .val (.int p2)] [(.ref o1), (.ref a0_)])) rfl rfl (hb hby own_d16_6)
  refine own_go (A' := (T2.setTop (mkF m 9 #[.val (.ref a0_), .val (.ref o1), .val (.int p2)] []))) (fun _ k => st2 _ k) ?_
  have N2 := Fr.snoc X2 N0 g_a
  have K_a := K_a.wr W2 (Or.inl (List.mem_of_getElem? (i := 0) rfl))
  have E_a := E_a.wr W2
  have F1 := Fo.same W2
  refine own_go (A' := (T2.setTop (mkF m 10 #[.val (.ref a0_), .val (.ref o1), .val (.int p2)] [(.ref a0_)]))) (fun _ k => XS.aloadN X2.here hx rfl (hb hby own_d16_9) rfl rfl k) ?_
  refine own_go (A' := (T2.setTop (mkF m 11 #[.val (.ref a0_), .val (.ref o1), .val (.int p2)] [(.int p2), (.ref a0_)]))) (fun _ k => XS.iloadN X2.here hx rfl (hb hby own_d16_10) rfl k) ?_
  obtain ⟨_, Fo⟩ := own_any F1 E_a (hw _ (List.mem_of_getElem? (i := 90) rfl)) (Or.inr (hw _ (List.mem_of_getElem? (i := 106) rfl)))
  obtain ⟨T3, h3, X3, e3, W3, st3⟩ := putF X2 hx hZ hown (host := "") (Or.inl (hw _ (List.mem_of_getElem? (i := 105) rfl))) Via.refl e2 Fo E_a (Or.inr ⟨(hw _ (List.mem_of_getElem? (i := 106) rfl)), rfl, hnm⟩) (hw _ (List.mem_of_getElem? (i := 90) rfl)) (ty := .int) (by decide) rfl rfl (g := (mkF m 11 #[.val (.ref a0_), .val (.ref o1), .val (.int p2)] [(.int p2), (.ref a0_)])) rfl rfl (hb hby own_d16_11)
  refine own_go (A' := (T3.setTop (mkF m 14 #[.val (.ref a0_), .val (.ref o1), .val (.int p2)] []))) (fun _ k => st3 _ k) ?_
  have N3 := Fr.snoc X3 N2 g_a
  have K_a := K_a.wr W3 (Or.inl (List.mem_of_getElem? (i := 0) rfl))
  have E_a := E_a.wr W3
  have F1 := F1.other W3 (Or.inr (slot_ne (Or.inr (hw _ (List.mem_of_getElem? (i := 104) rfl))) (Or.inr (hw _ (List.mem_of_getElem? (i := 106) rfl))) (by decide) (t := (.object "java/util/List")) (t' := .int) (by decide) (by decide)))
  have F2 := Fo.same W3
  refine own_go (A' := (T3.setTop (mkF m 15 #[.val (.ref a0_), .val (.ref o1), .val (.int p2)] [(.ref a0_)]))) (fun _ k => XS.aloadN X3.here hx rfl (hb hby own_d16_14) rfl rfl k) ?_
  refine own_go (A' := (T3.setTop (mkF m 16 #[.val (.ref a0_), .val (.ref o1), .val (.int p2)] [(.int (0 : Int32)), (.ref a0_)]))) (fun _ k => XS.iconst X3.here hx rfl (hb hby own_d16_15) k) ?_
  obtain ⟨_, Fo⟩ := own_any F1 E_a (hw _ (List.mem_of_getElem? (i := 90) rfl)) (Or.inl (hw _ (List.mem_of_getElem? (i := 108) rfl)))
  obtain ⟨T4, h4, X4, e4, W4, st4⟩ := putF X3 hx hZ hown (host := "") (Or.inl (hw _ (List.mem_of_getElem? (i := 107) rfl))) Via.refl e3 Fo E_a (Or.inl (hw _ (List.mem_of_getElem? (i := 108) rfl))) (hw _ (List.mem_of_getElem? (i := 90) rfl)) (ty := .int) (by decide) rfl rfl (g := (mkF m 16 #[.val (.ref a0_), .val (.ref o1), .val (.int p2)] [(.int (0 : Int32)), (.ref a0_)])) rfl rfl (hb hby own_d16_16)
  refine own_go (A' := (T4.setTop (mkF m 19 #[.val (.ref a0_), .val (.ref o1), .val (.int p2)] []))) (fun _ k => st4 _ k) ?_
  have N4 := Fr.snoc X4 N3 g_a
  have K_a := K_a.wr W4 (Or.inl (List.mem_of_getElem? (i := 0) rfl))
  have E_a := E_a.wr W4
  have F1 := F1.other W4 (Or.inr (slot_ne (Or.inr (hw _ (List.mem_of_getElem? (i := 104) rfl))) (Or.inl (hw _ (List.mem_of_getElem? (i := 108) rfl))) (by decide) (t := (.object "java/util/List")) (t' := .int) (by decide) (by decide)))
  have F2 := F2.other W4 (Or.inr (slot_ne (Or.inr (hw _ (List.mem_of_getElem? (i := 106) rfl))) (Or.inl (hw _ (List.mem_of_getElem? (i := 108) rfl))) (by decide) (t := .int) (t' := .int) (by decide) (by decide)))
  have F3 := Fo.same W4
  refine own_go (A' := (T4.setTop (mkF m 20 #[.val (.ref a0_), .val (.ref o1), .val (.int p2)] [(.ref a0_)]))) (fun _ k => XS.aloadN X4.here hx rfl (hb hby own_d16_19) rfl rfl k) ?_
  refine own_go (A' := (T4.setTop (mkF m 21 #[.val (.ref a0_), .val (.ref o1), .val (.int p2)] [(.int (0 : Int32)), (.ref a0_)]))) (fun _ k => XS.iconst X4.here hx rfl (hb hby own_d16_20) k) ?_
  obtain ⟨_, Fo⟩ := own_any F1 E_a (hw _ (List.mem_of_getElem? (i := 90) rfl)) (Or.inr (hw _ (List.mem_of_getElem? (i := 110) rfl)))
  obtain ⟨T5, h5, X5, e5, W5, st5⟩ := putFN X4 hx hZ hown (hw _ (List.mem_of_getElem? (i := 109) rfl)) Via.refl e4 Fo E_a (Or.inr ⟨(hw _ (List.mem_of_getElem? (i := 110) rfl)), rfl, hnm⟩) (hw _ (List.mem_of_getElem? (i := 90) rfl)) (ty := .boolean) (v' := (.int (0 : Int32))) (by decide) rfl (by decide) (g := (mkF m 21 #[.val (.ref a0_), .val (.ref o1), .val (.int p2)] [(.int (0 : Int32)), (.ref a0_)])) rfl rfl (hb hby own_d16_21)
  refine own_go (A' := (T5.setTop (mkF m 24 #[.val (.ref a0_), .val (.ref o1), .val (.int p2)] []))) (fun _ k => st5 _ k) ?_
  have N5 := Fr.snoc X5 N4 g_a
  have K_a := K_a.wr W5 (Or.inl (List.mem_of_getElem? (i := 0) rfl))
  have E_a := E_a.wr W5
  have F1 := F1.other W5 (Or.inr (slot_ne (Or.inr (hw _ (List.mem_of_getElem? (i := 104) rfl))) (Or.inr (hw _ (List.mem_of_getElem? (i := 110) rfl))) (by decide) (t := (.object "java/util/List")) (t' := .boolean) (by decide) (by decide)))
  have F2 := F2.other W5 (Or.inr (slot_ne (Or.inr (hw _ (List.mem_of_getElem? (i := 106) rfl))) (Or.inr (hw _ (List.mem_of_getElem? (i := 110) rfl))) (by decide) (t := .int) (t' := .boolean) (by decide) (by decide)))
  have F3 := F3.other W5 (Or.inr (slot_ne (Or.inl (hw _ (List.mem_of_getElem? (i := 108) rfl))) (Or.inr (hw _ (List.mem_of_getElem? (i := 110) rfl))) (by decide) (t := .int) (t' := .boolean) (by decide) (by decide)))
  obtain ⟨fs, hr, hrun, hended, hW, hsame⟩ := X5.leave (v := none) (fun _ => rfl)
  refine ⟨_, _, X5.returnOut hx Bd.returns (hb hby own_d16_24) hr, hR _ _ ⟨hrun, hended, _, _, rfl, ?_, ⟨_, rfl⟩, hW, hsame.mono (by decide) (by decide)⟩⟩
  show own_Q_own_itinit Z a0_ o1 p2 u0 h0 n0 _ T5.heap _
  rw [e5]
  exact ⟨rfl, N5, K_a, E_a, F1, F2, F3⟩
theorem own_ef_own_hasnext (m : MethodId) (a1 : Addr) : entryFrame m #[(.ref a1)] 1 = mkF m 0 #[.val (.ref a1)] [] := by first | (simp [entryFrame, mkF, argsToLocals, Value.category]; done) | rfl
def own_Q_own_hasnext (Z : State) (a1 : Addr) (c_ z_ : Int32) (h0 : Heap) (n0 : Nat) (v : Option Value) (h : Heap) (L : List Loc) : Prop := v = some (.int (if c_ = z_ then 0 else 1)) ∧ Fr n0 L ∧ h = h0
set_option maxRecDepth 65536 in
set_option maxHeartbeats 40000000 in
theorem own_hasnext (l : Launch) (Z : State) (a0 : Array Value) (hw : ∀ d ∈ tables_1, d.before a0 Z = true) (ws : List Jvm.Cond) (a1 : Addr) (c_ z_ : Int32) (h0 : Heap) (n0 : Nat) (Z0 : n0 ≤ h0.size) (F1 : Fld Z h0 a1 "java/util/ImmutableCollections$ListItr" "cursor" "I" (.int c_)) (F2 : Fld Z h0 a1 "java/util/ImmutableCollections$ListItr" "size" "I" (.int z_)) :
    MetFree l (⟨"java/util/ImmutableCollections$ListItr", "hasNext", "()Z"⟩ : MethodName) (head1 (Jvm.Cond.code (⟨"java/util/ImmutableCollections$ListItr", "hasNext", "()Z"⟩ : MethodName) jdk_53_method_3_code 1 (some .boolean) :: ws) ({ frames := 0, cells := 0, slots := 0, locals := 0 } : Room)) (fun a U => a = #[(.ref a1)] ∧ Z.Warmed39 U.vm ∧ U.heap = h0) (fun _ _ _ _ _ => True) (fun _ U o U' => ∃ v L, o = .returned v ∧ own_Q_own_hasnext Z a1 c_ z_ h0 n0 v U'.heap L ∧ FrameEnd U o U' L ({ frames := 0, cells := 0, slots := 0, locals := 0 } : Room).cells ({ frames := 0, cells := 0, slots := 0, locals := 0 } : Room).slots) := by
  refine MetFree.of_bodySF (plainFor_of_name own_pn17) hisR ?_
  intro p e s m args below meth c s₁ Bd hml0 hP hK
  obtain ⟨rfl, hZ, hh⟩ := hP
  have hx := Bd.exec
  have hby := Bd.bytes
  have hml : c.maxLocals = 1 := hml0
  have hown : s.vm.findClass "java/util/ImmutableCollections$ListItr" = some m.cls := findClass_of_methodNamed Bd.named
  have hnm := (name_of_methodNamed Bd.named Bd.method).1
  have X0 : Stand p l e ({ frames := 0, cells := 0, slots := 0, locals := 0 } : Room) s m #[(.ref a1)] below meth c s₁ [] 0 0 := Stand.of_body Bd
  have e0 : s₁.heap = h0 := by rw [← hh, Bd.state]; rfl
  have N0 := Fr.nil n0
  refine own_open ?_
  intro R hR
  rw [own_ef_own_hasnext m a1]
  show own_W p e below R (s₁.setTop (mkF m 0 #[.val (.ref a1)] []))
  refine own_go (A' := (s₁.setTop (mkF m 1 #[.val (.ref a1)] [(.ref a1)]))) (fun _ k => XS.aloadN X0.here hx rfl (hb hby own_d17_0) rfl rfl k) ?_
  obtain ⟨T1, X1, e1, st1⟩ := getF X0 hx hZ hown (host := "") (Or.inl (hw _ (List.mem_of_getElem? (i := 107) rfl))) Via.refl e0 F1 (g := (mkF m 1 #[.val (.ref a1)] [(.ref a1)])) rfl rfl (hb hby own_d17_1)
  refine own_go (A' := (T1.setTop (mkF m 4 #[.val (.ref a1)] [(.int c_)]))) (fun _ k => st1 _ k) ?_
  refine own_go (A' := (T1.setTop (mkF m 5 #[.val (.ref a1)] [(.ref a1), (.int c_)]))) (fun _ k => XS.aloadN X1.here hx rfl (hb hby own_d17_4) rfl rfl k) ?_
  obtain ⟨T2, X2, e2, st2⟩ := getF X1 hx hZ hown (host := "") (Or.inl (hw _ (List.mem_of_getElem? (i := 105) rfl))) Via.refl e1 F2 (g := (mkF m 5 #[.val (.ref a1)] [(.ref a1), (.int c_)])) rfl rfl (hb hby own_d17_5)
  refine own_go (A' := (T2.setTop (mkF m 8 #[.val (.ref a1)] [(.int z_), (.int c_)]))) (fun _ k => st2 _ k) ?_
  by_cases hc : c_ = z_
  · refine own_go (A' := (T2.setTop (mkF m 15 #[.val (.ref a1)] []))) (fun _ k => XS.icmpYes X2.here hx rfl (pc0 := 8) (pc' := 15) rfl (hb hby own_d17_8) rfl (teq hc).1 (by decide) (by decide) k) ?_
    refine own_go (A' := (T2.setTop (mkF m 16 #[.val (.ref a1)] [(.int (0 : Int32))]))) (fun _ k => XS.iconst X2.here hx rfl (hb hby own_d17_15) k) ?_
    obtain ⟨fs, hr, hrun, hended, hW, hsame⟩ := X2.leave (v := some (.int (0 : Int32))) (fun h => by rw [Bd.returns] at h; cases h)
    refine ⟨_, _, retN X2 hx (t := .boolean) Bd.returns (by simp) (hb hby own_d17_16) hr, hR _ _ ⟨hrun, hended, _, _, rfl, ?_, ⟨_, rfl⟩, hW, hsame.mono (by decide) (by decide)⟩⟩
    show own_Q_own_hasnext Z a1 c_ z_ h0 n0 _ T2.heap _
    rw [e2]
    exact ⟨by rw [if_pos hc], N0, rfl⟩
  · refine own_go (A' := (T2.setTop (mkF m 11 #[.val (.ref a1)] []))) (fun _ k => XS.icmpNo X2.here hx rfl (hb hby own_d17_8) rfl (feq hc).1 k) ?_
    refine own_go (A' := (T2.setTop (mkF m 12 #[.val (.ref a1)] [(.int (1 : Int32))]))) (fun _ k => XS.iconst X2.here hx rfl (hb hby own_d17_11) k) ?_
    refine own_go (A' := (T2.setTop (mkF m 16 #[.val (.ref a1)] [(.int (1 : Int32))]))) (fun _ k => XS.goto X2.here hx rfl (pc0 := 12) (pc' := 16) rfl (hb hby own_d17_12) (by decide) (by decide) k) ?_
    obtain ⟨fs, hr, hrun, hended, hW, hsame⟩ := X2.leave (v := some (.int (1 : Int32))) (fun h => by rw [Bd.returns] at h; cases h)
    refine ⟨_, _, retN X2 hx (t := .boolean) Bd.returns (by simp) (hb hby own_d17_16) hr, hR _ _ ⟨hrun, hended, _, _, rfl, ?_, ⟨_, rfl⟩, hW, hsame.mono (by decide) (by decide)⟩⟩
    show own_Q_own_hasnext Z a1 c_ z_ h0 n0 _ T2.heap _
    rw [e2]
    exact ⟨by rw [if_neg hc], N0, rfl⟩
theorem own_ef_own_next (m : MethodId) (a1 : Addr) : entryFrame m #[(.ref a1)] 3 = mkF m 0 #[.val (.ref a1), .unset, .unset] [] := by first | (simp [entryFrame, mkF, argsToLocals, Value.category]; done) | rfl
def own_Q_own_next (Z : State) (a1 : Addr) (c_ z_ : Int32) (ln arr : Addr) (ob : Nat → Addr) (n : Nat) (h0 : Heap) (n0 : Nat) (v : Option Value) (h : Heap) (L : List Loc) : Prop := v = some (.ref (ob n)) ∧ Fr n0 L ∧ Keep h0 h [a1] ∧ Exa Z h a1 "java/util/ImmutableCollections$ListItr" ∧ Fld Z h a1 "java/util/ImmutableCollections$ListItr" "cursor" "I" (.int (c_ + 1)) ∧ Fld Z h a1 "java/util/ImmutableCollections$ListItr" "size" "I" (.int z_) ∧ Fld Z h a1 "java/util/ImmutableCollections$ListItr" "list" "Ljava/util/List;" (.ref ln)
set_option maxRecDepth 65536 in
set_option maxHeartbeats 40000000 in
theorem own_next (l : Launch) (Z : State) (a0 : Array Value) (hw : ∀ d ∈ tables_1, d.before a0 Z = true) (ws : List Jvm.Cond) (a1 : Addr) (c_ z_ : Int32) (ln arr : Addr) (ob : Nat → Addr) (n : Nat) (h0 : Heap) (n0 : Nat) (Z0 : n0 ≤ h0.size) (E1 : Exa Z h0 a1 "java/util/ImmutableCollections$ListItr") (F1 : Fld Z h0 a1 "java/util/ImmutableCollections$ListItr" "cursor" "I" (.int c_)) (F2 : Fld Z h0 a1 "java/util/ImmutableCollections$ListItr" "size" "I" (.int z_)) (F3 : Fld Z h0 a1 "java/util/ImmutableCollections$ListItr" "list" "Ljava/util/List;" (.ref ln)) (E2 : Exa Z h0 ln "java/util/ImmutableCollections$ListN") (F4 : Fld Z h0 ln "java/util/ImmutableCollections$ListN" "elements" "[Ljava/lang/Object;" (.ref arr)) (Ar : own_Ar Z h0 arr ob) (hc : c_.toInt = n) (hn : n < 4) (g_a : n0 ≤ a1) :
    MetFree l (⟨"java/util/ImmutableCollections$ListItr", "next", "()Ljava/lang/Object;"⟩ : MethodName) (head1 (Jvm.Cond.codeWith (⟨"java/util/ImmutableCollections$ListItr", "next", "()Ljava/lang/Object;"⟩ : MethodName) jdk_53_method_4_code 3 (some (.object "java/lang/Object")) [((0 : Nat), (24 : Nat), (25 : Nat), (30 : Nat))] :: ws) ({ frames := 1, cells := 0, slots := 0, locals := 15 } : Room)) (fun a U => a = #[(.ref a1)] ∧ Z.Warmed39 U.vm ∧ U.heap = h0) (fun _ _ _ _ _ => True) (fun _ U o U' => ∃ v L, o = .returned v ∧ own_Q_own_next Z a1 c_ z_ ln arr ob n h0 n0 v U'.heap L ∧ FrameEnd U o U' L ({ frames := 1, cells := 0, slots := 0, locals := 15 } : Room).cells ({ frames := 1, cells := 0, slots := 0, locals := 15 } : Room).slots) := by
  refine MetFree.of_bodySF (plainFor_of_name own_pn18) hisWith ?_
  intro p e s m args below meth c s₁ Bd hml0 hP hK
  obtain ⟨rfl, hZ, hh⟩ := hP
  have hx := Bd.exec
  have hby := Bd.bytes
  have hml : c.maxLocals = 3 := hml0
  have hown : s.vm.findClass "java/util/ImmutableCollections$ListItr" = some m.cls := findClass_of_methodNamed Bd.named
  have hnm := (name_of_methodNamed Bd.named Bd.method).1
  have X0 : Stand p l e ({ frames := 1, cells := 0, slots := 0, locals := 15 } : Room) s m #[(.ref a1)] below meth c s₁ [] 0 0 := Stand.of_body Bd
  have e0 : s₁.heap = h0 := by rw [← hh, Bd.state]; rfl
  have N0 := Fr.nil n0
  refine own_open ?_
  intro R hR
  rw [own_ef_own_next m a1]
  show own_W p e below R (s₁.setTop (mkF m 0 #[.val (.ref a1), .unset, .unset] []))
  refine own_go (A' := (s₁.setTop (mkF m 1 #[.val (.ref a1), .unset, .unset] [(.ref a1)]))) (fun _ k => XS.aloadN X0.here hx rfl (hb hby own_d18_0) rfl rfl k) ?_
  obtain ⟨T11, X11, e11, st11⟩ := getF X0 hx hZ hown (host := "") (Or.inl (hw _ (List.mem_of_getElem? (i := 107) rfl))) Via.refl e0 F1 (g := (mkF m 1 #[.val (.ref a1), .unset, .unset] [(.ref a1)])) rfl rfl (hb hby own_d18_1)
  refine own_go (A' := (T11.setTop (mkF m 4 #[.val (.ref a1), .unset, .unset] [(.int c_)]))) (fun _ k => st11 _ k) ?_
  refine own_go (A' := (T11.setTop (mkF m 5 #[.val (.ref a1), .val (.int c_), .unset] []))) (fun _ k => XS.istoreN X11.here hx rfl (hb hby own_d18_4) rfl (l' := #[.val (.ref a1), .val (.int c_), .unset]) rfl k) ?_
  refine own_go (A' := (T11.setTop (mkF m 6 #[.val (.ref a1), .val (.int c_), .unset] [(.ref a1)]))) (fun _ k => XS.aloadN X11.here hx rfl (hb hby own_d18_5) rfl rfl k) ?_
  obtain ⟨T12, X12, e12, st12⟩ := getF X11 hx hZ hown (host := "") (Or.inl (hw _ (List.mem_of_getElem? (i := 103) rfl))) Via.refl e11 F3 (g := (mkF m 6 #[.val (.ref a1), .val (.int c_), .unset] [(.ref a1)])) rfl rfl (hb hby own_d18_6)
  refine own_go (A' := (T12.setTop (mkF m 9 #[.val (.ref a1), .val (.int c_), .unset] [(.ref ln)]))) (fun _ k => st12 _ k) ?_
  refine own_go (A' := (T12.setTop (mkF m 10 #[.val (.ref a1), .val (.int c_), .unset] [(.int c_), (.ref ln)]))) (fun _ k => XS.iloadN X12.here hx rfl (hb hby own_d18_9) rfl k) ?_
  obtain ⟨cq13, kq13, q13a, q13b, q13c⟩ := isOf hZ e12 E2
  obtain ⟨_, _, ⟨T13, L13, k13, n13⟩, -, X13, ⟨Lc13, hQ13, l13, y13, z13⟩, st13⟩ := X12.interfaceBack hx (xi := (⟨"java/util/List", "get", "(I)Ljava/lang/Object;"⟩ : MethodName)) (y := (⟨"java/util/ImmutableCollections$ListN", "get", "(I)Ljava/lang/Object;"⟩ : MethodName)) hown (mvT hZ (hw _ (List.mem_of_getElem? (i := 128) rfl))) (mvT hZ (hw _ (List.mem_of_getElem? (i := 129) rfl))) (mvT hZ (hw _ (List.mem_of_getElem? (i := 130) rfl))) (mvT hZ (hw _ (List.mem_of_getElem? (i := 131) rfl))) (mvT hZ (hw _ (List.mem_of_getElem? (i := 132) rfl))) (mvT hZ (hw _ (List.mem_of_getElem? (i := 133) rfl))) (mvT hZ (hw _ (List.mem_of_getElem? (i := 134) rfl))) (mvT hZ (hw _ (List.mem_of_getElem? (i := 87) rfl))) (by decide) (backOf (W := 0) (own_lnget l Z a0 hw [] ln c_ arr ob n h0 n0 Z0 F4 Ar hc hn) hZ (hw _ (List.mem_of_getElem? (i := 135) rfl)) (hw _ (List.mem_of_getElem? (i := 52) rfl)) (by decide) (by decide)) q13a q13b q13c (g := (mkF m 10 #[.val (.ref a1), .val (.int c_), .unset] [(.int c_), (.ref ln)])) rfl (by rw [hml]; rfl) (Steps.refl _) (argsL := [(.int c_)]) (rest := []) (lenOf own_pd6 rfl) rfl (by show 2 * 0 + _ ≤ _; exact Nat.le_of_eq rfl) (hb hby own_d18_10) (fun _ _ => ⟨rfl, e12, (by decide : 0 + 0 ≤ _), (by decide : 0 + 0 ≤ _)⟩)
  dsimp only [Pt.U, Pt.locs, Pt.cells, Pt.slots] at X13 l13 y13 z13 st13 hQ13
  subst l13 y13 z13
  obtain ⟨rfl, N13q, hh13⟩ := hQ13
  have N13 := Fr.app N0 N13q
  refine own_go (A' := (T13.setTop (mkF m 15 #[.val (.ref a1), .val (.int c_), .unset] [(.ref (ob n))]))) (fun _ k => st13.trans k) ?_
  refine own_go (A' := (T13.setTop (mkF m 16 #[.val (.ref a1), .val (.int c_), .val (.ref (ob n))] []))) (fun _ k => XS.astoreN X13.here hx rfl (hb hby own_d18_15) rfl rfl (l' := #[.val (.ref a1), .val (.int c_), .val (.ref (ob n))]) rfl k) ?_
  refine own_go (A' := (T13.setTop (mkF m 17 #[.val (.ref a1), .val (.int c_), .val (.ref (ob n))] [(.ref a1)]))) (fun _ k => XS.aloadN X13.here hx rfl (hb hby own_d18_16) rfl rfl k) ?_
  refine own_go (A' := (T13.setTop (mkF m 18 #[.val (.ref a1), .val (.int c_), .val (.ref (ob n))] [(.int c_), (.ref a1)]))) (fun _ k => XS.iloadN X13.here hx rfl (hb hby own_d18_17) rfl k) ?_
  refine own_go (A' := (T13.setTop (mkF m 19 #[.val (.ref a1), .val (.int c_), .val (.ref (ob n))] [(.int (1 : Int32)), (.int c_), (.ref a1)]))) (fun _ k => XS.iconst X13.here hx rfl (hb hby own_d18_18) k) ?_
  refine own_go (A' := (T13.setTop (mkF m 20 #[.val (.ref a1), .val (.int c_), .val (.ref (ob n))] [(.int (c_ + (1 : Int32))), (.ref a1)]))) (fun _ k => XS.iadd X13.here hx rfl (hb hby own_d18_19) rfl k) ?_
  have K_a : Keep h0 h0 [a1] := Keep.refl _ _
  obtain ⟨T14, h14, X14, e14, W14, st14⟩ := putF X13 hx hZ hown (host := "") (Or.inl (hw _ (List.mem_of_getElem? (i := 107) rfl))) Via.refl hh13 F1 E1 (Or.inl (hw _ (List.mem_of_getElem? (i := 108) rfl))) (hw _ (List.mem_of_getElem? (i := 90) rfl)) (ty := .int) (by decide) rfl rfl (g := (mkF m 20 #[.val (.ref a1), .val (.int c_), .val (.ref (ob n))] [(.int (c_ + (1 : Int32))), (.ref a1)])) rfl rfl (hb hby own_d18_20)
  refine own_go (A' := (T14.setTop (mkF m 23 #[.val (.ref a1), .val (.int c_), .val (.ref (ob n))] []))) (fun _ k => st14 _ k) ?_
  have N14 := Fr.snoc X14 N13 g_a
  have K_a := K_a.wr W14 (Or.inl (List.mem_of_getElem? (i := 0) rfl))
  have E1 := E1.wr W14
  have F1 := F1.same W14
  have F2 := F2.other W14 (Or.inr (slot_ne (Or.inr (hw _ (List.mem_of_getElem? (i := 106) rfl))) (Or.inl (hw _ (List.mem_of_getElem? (i := 108) rfl))) (by decide) (t := .int) (t' := .int) (by decide) (by decide)))
  have F3 := F3.other W14 (Or.inr (slot_ne (Or.inr (hw _ (List.mem_of_getElem? (i := 104) rfl))) (Or.inl (hw _ (List.mem_of_getElem? (i := 108) rfl))) (by decide) (t := (.object "java/util/List")) (t' := .int) (by decide) (by decide)))
  refine own_go (A' := (T14.setTop (mkF m 24 #[.val (.ref a1), .val (.int c_), .val (.ref (ob n))] [(.ref (ob n))]))) (fun _ k => XS.aloadN X14.here hx rfl (hb hby own_d18_23) rfl rfl k) ?_
  obtain ⟨fs, hr, hrun, hended, hW, hsame⟩ := X14.leave (v := some (.ref (ob n))) (fun h => by rw [Bd.returns] at h; cases h)
  refine ⟨_, _, retOut X14 hx (t := (.object "java/lang/Object")) Bd.returns rfl (Or.inr (Or.inr (Or.inr (Or.inr ⟨rfl, rfl, rfl⟩)))) (hb hby own_d18_24) hr, hR _ _ ⟨hrun, hended, _, _, rfl, ?_, ⟨_, rfl⟩, hW, hsame.mono (by decide) (by decide)⟩⟩
  show own_Q_own_next Z a1 c_ z_ ln arr ob n h0 n0 _ T14.heap _
  rw [e14]
  exact ⟨rfl, N14, K_a, E1, F1, F2, F3⟩
theorem own_ef_own_iter (m : MethodId) (ln : Addr) : entryFrame m #[(.ref ln)] 1 = mkF m 0 #[.val (.ref ln)] [] := by first | (simp [entryFrame, mkF, argsToLocals, Value.category]; done) | rfl
def own_Q_own_iter (Z : State) (ln : Addr) (arr : Addr) (ob : Nat → Addr) (h0 : Heap) (n0 : Nat) (v : Option Value) (h : Heap) (L : List Loc) : Prop := ∃ b : Addr, v = some (.ref b) ∧ Fr n0 L ∧ Keep h0 h [] ∧ Exa Z h b "java/util/ImmutableCollections$ListItr" ∧ Fld Z h b "java/util/ImmutableCollections$ListItr" "list" "Ljava/util/List;" (.ref ln) ∧ Fld Z h b "java/util/ImmutableCollections$ListItr" "size" "I" (.int 4) ∧ Fld Z h b "java/util/ImmutableCollections$ListItr" "cursor" "I" (.int 0) ∧ h0.size ≤ b
set_option maxRecDepth 65536 in
set_option maxHeartbeats 40000000 in
theorem own_iter (l : Launch) (Z : State) (a0 : Array Value) (hw : ∀ d ∈ tables_1, d.before a0 Z = true) (ws : List Jvm.Cond) (ln : Addr) (arr : Addr) (ob : Nat → Addr) (h0 : Heap) (n0 : Nat) (Z0 : n0 ≤ h0.size) (E1 : Exa Z h0 ln "java/util/ImmutableCollections$ListN") (F1 : Fld Z h0 ln "java/util/ImmutableCollections$ListN" "elements" "[Ljava/lang/Object;" (.ref arr)) (Ar : own_Ar Z h0 arr ob) :
    MetFree l (⟨"java/util/ImmutableCollections$AbstractImmutableList", "iterator", "()Ljava/util/Iterator;"⟩ : MethodName) (head1 (Jvm.Cond.code (⟨"java/util/ImmutableCollections$AbstractImmutableList", "iterator", "()Ljava/util/Iterator;"⟩ : MethodName) jdk_46_method_10_code 1 (some (.object "java/util/Iterator")) :: ws) ({ frames := 2, cells := 1, slots := 4, locals := 27 } : Room)) (fun a U => a = #[(.ref ln)] ∧ Z.Warmed39 U.vm ∧ U.heap = h0) (fun _ _ _ _ _ => True) (fun _ U o U' => ∃ v L, o = .returned v ∧ own_Q_own_iter Z ln arr ob h0 n0 v U'.heap L ∧ FrameEnd U o U' L ({ frames := 2, cells := 1, slots := 4, locals := 27 } : Room).cells ({ frames := 2, cells := 1, slots := 4, locals := 27 } : Room).slots) := by
  refine MetFree.of_bodySF (plainFor_of_name own_pn14) hisR ?_
  intro p e s m args below meth c s₁ Bd hml0 hP hK
  obtain ⟨rfl, hZ, hh⟩ := hP
  have hx := Bd.exec
  have hby := Bd.bytes
  have hml : c.maxLocals = 1 := hml0
  have hown : s.vm.findClass "java/util/ImmutableCollections$AbstractImmutableList" = some m.cls := findClass_of_methodNamed Bd.named
  have hnm := (name_of_methodNamed Bd.named Bd.method).1
  have X0 : Stand p l e ({ frames := 2, cells := 1, slots := 4, locals := 27 } : Room) s m #[(.ref ln)] below meth c s₁ [] 0 0 := Stand.of_body Bd
  have e0 : s₁.heap = h0 := by rw [← hh, Bd.state]; rfl
  have N0 := Fr.nil n0
  refine own_open ?_
  intro R hR
  rw [own_ef_own_iter m ln]
  show own_W p e below R (s₁.setTop (mkF m 0 #[.val (.ref ln)] []))
  obtain ⟨T11, h11, X11, e11, E11, A11, D11, -, st11⟩ := newO X0 hx hZ hown (hw _ (List.mem_of_getElem? (i := 89) rfl)) (hw _ (List.mem_of_getElem? (i := 90) rfl)) (hw _ (List.mem_of_getElem? (i := 91) rfl)) e0 (g := (mkF m 0 #[.val (.ref ln)] [])) rfl (hb hby own_d14_0) (by decide) (by decide)
  obtain ⟨b11, g11⟩ : ∃ z, z = h0.size := ⟨_, rfl⟩
  rw [← g11] at A11 D11 st11
  refine own_go (A' := (T11.setTop (mkF m 3 #[.val (.ref ln)] [(.ref b11)]))) (fun _ k => st11 _ k) ?_
  have F11_list : Fld Z h11 b11 "java/util/ImmutableCollections$ListItr" "list" "Ljava/util/List;" .null := D11 (Or.inr (hw _ (List.mem_of_getElem? (i := 104) rfl))) (ty := (.object "java/util/List")) (by decide)
  have sz_b : h0.size ≤ b11 := Nat.le_of_eq g11.symm
  have g_b : n0 ≤ b11 := Nat.le_trans Z0 sz_b
  have Zn : n0 ≤ h11.size := Nat.le_trans Z0 E11.1
  have K0 : Keep h0 h11 [] := (Keep.refl _ _).ext E11
  have E1 := E1.ext E11
  have F1 := F1.ext E11
  have Ar := Ar.ext E11
  refine own_go (A' := (T11.setTop (mkF m 4 #[.val (.ref ln)] [(.ref b11), (.ref b11)]))) (fun _ k => XS.dup X11.here hx rfl (hb hby own_d14_3) rfl rfl k) ?_
  refine own_go (A' := (T11.setTop (mkF m 5 #[.val (.ref ln)] [(.ref ln), (.ref b11), (.ref b11)]))) (fun _ k => XS.aloadN X11.here hx rfl (hb hby own_d14_4) rfl rfl k) ?_
  refine own_go (A' := (T11.setTop (mkF m 6 #[.val (.ref ln)] [(.ref ln), (.ref ln), (.ref b11), (.ref b11)]))) (fun _ k => XS.aloadN X11.here hx rfl (hb hby own_d14_5) rfl rfl k) ?_
  obtain ⟨cq12, kq12, q12a, q12b, q12c⟩ := isOf hZ e11 E1
  obtain ⟨_, _, ⟨T12, L12, k12, n12⟩, -, X12, ⟨Lc12, hQ12, l12, y12, z12⟩, st12⟩ := X11.virtualBackUp hx (owner := "java/util/AbstractCollection") (x := (⟨"java/util/ImmutableCollections$AbstractImmutableList", "size", "()I"⟩ : MethodName)) (y := (⟨"java/util/ImmutableCollections$ListN", "size", "()I"⟩ : MethodName)) hown (mvT hZ (hw _ (List.mem_of_getElem? (i := 92) rfl))) (mvT hZ (hw _ (List.mem_of_getElem? (i := 93) rfl))) (mvT hZ (hw _ (List.mem_of_getElem? (i := 94) rfl))) (by decide) (mvT hZ (hw _ (List.mem_of_getElem? (i := 95) rfl))) (mvT hZ (hw _ (List.mem_of_getElem? (i := 96) rfl))) (backOf (W := 3) (own_lnsize l Z a0 hw [] ln arr ob h11 n0 Zn F1 Ar) hZ (hw _ (List.mem_of_getElem? (i := 97) rfl)) (hw _ (List.mem_of_getElem? (i := 52) rfl)) (by decide) (by decide)) q12a q12c (g := (mkF m 6 #[.val (.ref ln)] [(.ref ln), (.ref ln), (.ref b11), (.ref b11)])) rfl (by rw [hml]; rfl) (Steps.refl _) (argsL := []) (rest := [(.ref ln), (.ref b11), (.ref b11)]) (lenOf own_pd7 rfl) rfl (by show 2 * 0 + _ ≤ _; exact Nat.le_of_eq rfl) (hb hby own_d14_6) (fun _ _ => ⟨rfl, e11, (by decide : 1 + 0 ≤ _), (by decide : 4 + 0 ≤ _)⟩)
  dsimp only [Pt.U, Pt.locs, Pt.cells, Pt.slots] at X12 l12 y12 z12 st12 hQ12
  subst l12 y12 z12
  obtain ⟨rfl, N12q, hh12⟩ := hQ12
  have N12 := Fr.app N0 N12q
  refine own_go (A' := (T12.setTop (mkF m 9 #[.val (.ref ln)] [(.int (4 : Int32)), (.ref ln), (.ref b11), (.ref b11)]))) (fun _ k => st12.trans k) ?_
  obtain ⟨_, _, ⟨T13, L13, k13, n13⟩, -, X13, ⟨Lc13, hQ13, l13, y13, z13⟩, st13⟩ := X12.specialBack hx (y := (⟨"java/util/ImmutableCollections$ListItr", "<init>", "(Ljava/util/List;I)V"⟩ : MethodName)) rfl hown (mvT hZ (hw _ (List.mem_of_getElem? (i := 98) rfl))) (mvT hZ (hw _ (List.mem_of_getElem? (i := 99) rfl))) (mvT hZ (hw _ (List.mem_of_getElem? (i := 101) rfl))) (by decide) (backOf (W := 1) (own_itinit l Z a0 hw [] b11 ln 4 _ h11 n0 Zn A11 F11_list g_b) hZ (hw _ (List.mem_of_getElem? (i := 101) rfl)) (hw _ (List.mem_of_getElem? (i := 91) rfl)) (by decide) (by decide)) (g := (mkF m 9 #[.val (.ref ln)] [(.int (4 : Int32)), (.ref ln), (.ref b11), (.ref b11)])) rfl (by rw [hml]; rfl) (Steps.refl _) (a := b11) (argsL := [(.ref ln), (.int (4 : Int32))]) (rest := [(.ref b11)]) (lenOf own_pd8 rfl) rfl (by show 2 * 0 + _ ≤ _; exact Nat.le_of_eq rfl) (hb hby own_d14_9) (fun _ _ => ⟨rfl, hh12, (by decide : 1 + 0 ≤ _), (by decide : 4 + 0 ≤ _)⟩)
  dsimp only [Pt.U, Pt.locs, Pt.cells, Pt.slots] at X13 l13 y13 z13 st13 hQ13
  subst l13 y13 z13
  obtain ⟨rfl, N13q, K13, Ea, Fa, Fb, Fc⟩ := hQ13
  have N13 := Fr.app N12 N13q
  refine own_go (A' := (T13.setTop (mkF m 12 #[.val (.ref ln)] [(.ref b11)]))) (fun _ k => st13.trans k) ?_
  have K1 := K0.trans K13 (allS (Or.inr sz_b) all0)
  obtain ⟨fs, hr, hrun, hended, hW, hsame⟩ := X13.leave (v := some (.ref b11)) (fun h => by rw [Bd.returns] at h; cases h)
  refine ⟨_, _, retOut X13 hx (t := (.object "java/util/Iterator")) Bd.returns rfl (Or.inr (Or.inr (Or.inr (Or.inr ⟨rfl, rfl, rfl⟩)))) (hb hby own_d14_12) hr, hR _ _ ⟨hrun, hended, _, _, rfl, ?_, ⟨_, rfl⟩, hW, hsame.mono (by decide) (by decide)⟩⟩
  show own_Q_own_iter Z ln arr ob h0 n0 _ T13.heap _
  exact ⟨b11, rfl, N13, K1, Ea, Fa, Fb, Fc, sz_b⟩
theorem own_ef_own_contM (m : MethodId) (a1 : Addr) (x : UInt64) (y : UInt64) : entryFrame m #[(.ref a1), (.double x), (.double y)] 5 = mkF m 0 #[.val (.ref a1), .val (.double x), .second, .val (.double y), .second] [] := by first | (simp [entryFrame, mkF, argsToLocals, Value.category]; done) | rfl
def own_Q_own_contM (Z : State) (a1 : Addr) (x : UInt64) (y : UInt64) (d1 d2 d3 d4 : UInt64) (z1 z2 z3 z4 zx zy : Int) (h0 : Heap) (n0 : Nat) (v : Option Value) (h : Heap) (L : List Loc) : Prop := v = some (.int (own_cont z1 z3 zx z2 z4 zy)) ∧ Fr n0 L ∧ h = h0
set_option maxRecDepth 65536 in
set_option maxHeartbeats 40000000 in
theorem own_contM (l : Launch) (Z : State) (a0 : Array Value) (hw : ∀ d ∈ tables_1, d.before a0 Z = true) (ws : List Jvm.Cond) (a1 : Addr) (x : UInt64) (y : UInt64) (d1 d2 d3 d4 : UInt64) (z1 z2 z3 z4 zx zy : Int) (h0 : Heap) (n0 : Nat) (Z0 : n0 ≤ h0.size) (H1 : own_At 1074 d1 z1) (H2 : own_At 1074 d2 z2) (H3 : own_At 1074 d3 z3) (H4 : own_At 1074 d4 z4) (HX : own_At 1074 x zx) (HY : own_At 1074 y zy) (F1 : Fld Z h0 a1 "com/example/cairntree/cairntree/Window" "minX" "D" (.double d1)) (F2 : Fld Z h0 a1 "com/example/cairntree/cairntree/Window" "minY" "D" (.double d2)) (F3 : Fld Z h0 a1 "com/example/cairntree/cairntree/Window" "maxX" "D" (.double d3)) (F4 : Fld Z h0 a1 "com/example/cairntree/cairntree/Window" "maxY" "D" (.double d4)) :
    MetFree l (⟨"com/example/cairntree/cairntree/Window", "contains", "(DD)Z"⟩ : MethodName) (head1 (Jvm.Cond.code (⟨"com/example/cairntree/cairntree/Window", "contains", "(DD)Z"⟩ : MethodName) prog_39_method_4_code 5 (some .boolean) :: ws) ({ frames := 0, cells := 0, slots := 0, locals := 0 } : Room)) (fun a U => a = #[(.ref a1), (.double x), (.double y)] ∧ Z.Warmed39 U.vm ∧ U.heap = h0) (fun _ _ _ _ _ => True) (fun _ U o U' => ∃ v L, o = .returned v ∧ own_Q_own_contM Z a1 x y d1 d2 d3 d4 z1 z2 z3 z4 zx zy h0 n0 v U'.heap L ∧ FrameEnd U o U' L ({ frames := 0, cells := 0, slots := 0, locals := 0 } : Room).cells ({ frames := 0, cells := 0, slots := 0, locals := 0 } : Room).slots) := by
  refine MetFree.of_bodySF (plainFor_of_name own_pn23) hisR ?_
  intro p e s m args below meth c s₁ Bd hml0 hP hK
  obtain ⟨rfl, hZ, hh⟩ := hP
  have hx := Bd.exec
  have hby := Bd.bytes
  have hml : c.maxLocals = 5 := hml0
  have hown : s.vm.findClass "com/example/cairntree/cairntree/Window" = some m.cls := findClass_of_methodNamed Bd.named
  have hnm := (name_of_methodNamed Bd.named Bd.method).1
  have X0 : Stand p l e ({ frames := 0, cells := 0, slots := 0, locals := 0 } : Room) s m #[(.ref a1), (.double x), (.double y)] below meth c s₁ [] 0 0 := Stand.of_body Bd
  have e0 : s₁.heap = h0 := by rw [← hh, Bd.state]; rfl
  have N0 := Fr.nil n0
  refine own_open ?_
  intro R hR
  rw [own_ef_own_contM m a1 x y]
  show own_W p e below R (s₁.setTop (mkF m 0 #[.val (.ref a1), .val (.double x), .second, .val (.double y), .second] []))
  refine own_go (A' := (s₁.setTop (mkF m 1 #[.val (.ref a1), .val (.double x), .second, .val (.double y), .second] [(.ref a1)]))) (fun _ k => XS.aloadN X0.here hx rfl (hb hby own_d23_0) rfl rfl k) ?_
  obtain ⟨T1, X1, e1, st1⟩ := getF X0 hx hZ hown (host := "") (Or.inl (hw _ (List.mem_of_getElem? (i := 150) rfl))) Via.refl e0 F1 (g := (mkF m 1 #[.val (.ref a1), .val (.double x), .second, .val (.double y), .second] [(.ref a1)])) rfl rfl (hb hby own_d23_1)
  refine own_go (A' := (T1.setTop (mkF m 4 #[.val (.ref a1), .val (.double x), .second, .val (.double y), .second] [(.double d1)]))) (fun _ k => st1 _ k) ?_
  refine own_go (A' := (T1.setTop (mkF m 5 #[.val (.ref a1), .val (.double x), .second, .val (.double y), .second] [(.double x), (.double d1)]))) (fun _ k => XS.dloadN X1.here hx rfl (hb hby own_d23_4) rfl k) ?_
  refine own_go (A' := (T1.setTop (mkF m 6 #[.val (.ref a1), .val (.double x), .second, .val (.double y), .second] [(.int (cmpValue (FP.dcmp d1 x) .g))]))) (fun _ k => XS.dcmpS X1.here hx rfl (hb hby own_d23_5) rfl rfl k) ?_
  have q0 := own_ca_gt H1 HX .g
  by_cases hc0 : (0 : Int32) < (cmpValue (FP.dcmp d1 x) .g)
  · refine own_go (A' := (T1.setTop (mkF m 40 #[.val (.ref a1), .val (.double x), .second, .val (.double y), .second] []))) (fun _ k => XS.ifYes X1.here hx rfl (pc0 := 6) (pc' := 40) rfl (hb hby own_d23_6) rfl ((if0 _ _).trans (tlt hc0).2.2.1) (by decide) (by decide) k) ?_
    refine own_go (A' := (T1.setTop (mkF m 41 #[.val (.ref a1), .val (.double x), .second, .val (.double y), .second] [(.int (0 : Int32))]))) (fun _ k => XS.iconst X1.here hx rfl (hb hby own_d23_40) k) ?_
    obtain ⟨fs, hr, hrun, hended, hW, hsame⟩ := X1.leave (v := some (.int (0 : Int32))) (fun h => by rw [Bd.returns] at h; cases h)
    refine ⟨_, _, retN X1 hx (t := .boolean) Bd.returns (by simp) (hb hby own_d23_41) hr, hR _ _ ⟨hrun, hended, _, _, rfl, ?_, ⟨_, rfl⟩, hW, hsame.mono (by decide) (by decide)⟩⟩
    show own_Q_own_contM Z a1 x y d1 d2 d3 d4 z1 z2 z3 z4 zx zy h0 n0 _ T1.heap _
    rw [e1]
    exact ⟨by rw [own_nand (Or.inl (q0.mp hc0))], N0, rfl⟩
  · refine own_go (A' := (T1.setTop (mkF m 9 #[.val (.ref a1), .val (.double x), .second, .val (.double y), .second] []))) (fun _ k => XS.ifNo X1.here hx rfl (hb hby own_d23_6) rfl ((if0 _ _).trans (flt hc0).2.2.1) k) ?_
    refine own_go (A' := (T1.setTop (mkF m 10 #[.val (.ref a1), .val (.double x), .second, .val (.double y), .second] [(.double x)]))) (fun _ k => XS.dloadN X1.here hx rfl (hb hby own_d23_9) rfl k) ?_
    refine own_go (A' := (T1.setTop (mkF m 11 #[.val (.ref a1), .val (.double x), .second, .val (.double y), .second] [(.ref a1), (.double x)]))) (fun _ k => XS.aloadN X1.here hx rfl (hb hby own_d23_10) rfl rfl k) ?_
    obtain ⟨T2, X2, e2, st2⟩ := getF X1 hx hZ hown (host := "") (Or.inl (hw _ (List.mem_of_getElem? (i := 154) rfl))) Via.refl e1 F3 (g := (mkF m 11 #[.val (.ref a1), .val (.double x), .second, .val (.double y), .second] [(.ref a1), (.double x)])) rfl rfl (hb hby own_d23_11)
    refine own_go (A' := (T2.setTop (mkF m 14 #[.val (.ref a1), .val (.double x), .second, .val (.double y), .second] [(.double d3), (.double x)]))) (fun _ k => st2 _ k) ?_
    refine own_go (A' := (T2.setTop (mkF m 15 #[.val (.ref a1), .val (.double x), .second, .val (.double y), .second] [(.int (cmpValue (FP.dcmp x d3) .g))]))) (fun _ k => XS.dcmpS X2.here hx rfl (hb hby own_d23_14) rfl rfl k) ?_
    have q1 := own_ca_gt HX H3 .g
    by_cases hc1 : (0 : Int32) < (cmpValue (FP.dcmp x d3) .g)
    · refine own_go (A' := (T2.setTop (mkF m 40 #[.val (.ref a1), .val (.double x), .second, .val (.double y), .second] []))) (fun _ k => XS.ifYes X2.here hx rfl (pc0 := 15) (pc' := 40) rfl (hb hby own_d23_15) rfl ((if0 _ _).trans (tlt hc1).2.2.1) (by decide) (by decide) k) ?_
      refine own_go (A' := (T2.setTop (mkF m 41 #[.val (.ref a1), .val (.double x), .second, .val (.double y), .second] [(.int (0 : Int32))]))) (fun _ k => XS.iconst X2.here hx rfl (hb hby own_d23_40) k) ?_
      obtain ⟨fs, hr, hrun, hended, hW, hsame⟩ := X2.leave (v := some (.int (0 : Int32))) (fun h => by rw [Bd.returns] at h; cases h)
      refine ⟨_, _, retN X2 hx (t := .boolean) Bd.returns (by simp) (hb hby own_d23_41) hr, hR _ _ ⟨hrun, hended, _, _, rfl, ?_, ⟨_, rfl⟩, hW, hsame.mono (by decide) (by decide)⟩⟩
      show own_Q_own_contM Z a1 x y d1 d2 d3 d4 z1 z2 z3 z4 zx zy h0 n0 _ T2.heap _
      rw [e2]
      exact ⟨by rw [own_nand (Or.inr (Or.inl (q1.mp hc1)))], N0, rfl⟩
    · refine own_go (A' := (T2.setTop (mkF m 18 #[.val (.ref a1), .val (.double x), .second, .val (.double y), .second] []))) (fun _ k => XS.ifNo X2.here hx rfl (hb hby own_d23_15) rfl ((if0 _ _).trans (flt hc1).2.2.1) k) ?_
      refine own_go (A' := (T2.setTop (mkF m 19 #[.val (.ref a1), .val (.double x), .second, .val (.double y), .second] [(.ref a1)]))) (fun _ k => XS.aloadN X2.here hx rfl (hb hby own_d23_18) rfl rfl k) ?_
      obtain ⟨T3, X3, e3, st3⟩ := getF X2 hx hZ hown (host := "") (Or.inl (hw _ (List.mem_of_getElem? (i := 152) rfl))) Via.refl e2 F2 (g := (mkF m 19 #[.val (.ref a1), .val (.double x), .second, .val (.double y), .second] [(.ref a1)])) rfl rfl (hb hby own_d23_19)
      refine own_go (A' := (T3.setTop (mkF m 22 #[.val (.ref a1), .val (.double x), .second, .val (.double y), .second] [(.double d2)]))) (fun _ k => st3 _ k) ?_
      refine own_go (A' := (T3.setTop (mkF m 23 #[.val (.ref a1), .val (.double x), .second, .val (.double y), .second] [(.double y), (.double d2)]))) (fun _ k => XS.dloadN X3.here hx rfl (hb hby own_d23_22) rfl k) ?_
      refine own_go (A' := (T3.setTop (mkF m 24 #[.val (.ref a1), .val (.double x), .second, .val (.double y), .second] [(.int (cmpValue (FP.dcmp d2 y) .g))]))) (fun _ k => XS.dcmpS X3.here hx rfl (hb hby own_d23_23) rfl rfl k) ?_
      have q2 := own_ca_gt H2 HY .g
      by_cases hc2 : (0 : Int32) < (cmpValue (FP.dcmp d2 y) .g)
      · refine own_go (A' := (T3.setTop (mkF m 40 #[.val (.ref a1), .val (.double x), .second, .val (.double y), .second] []))) (fun _ k => XS.ifYes X3.here hx rfl (pc0 := 24) (pc' := 40) rfl (hb hby own_d23_24) rfl ((if0 _ _).trans (tlt hc2).2.2.1) (by decide) (by decide) k) ?_
        refine own_go (A' := (T3.setTop (mkF m 41 #[.val (.ref a1), .val (.double x), .second, .val (.double y), .second] [(.int (0 : Int32))]))) (fun _ k => XS.iconst X3.here hx rfl (hb hby own_d23_40) k) ?_
        obtain ⟨fs, hr, hrun, hended, hW, hsame⟩ := X3.leave (v := some (.int (0 : Int32))) (fun h => by rw [Bd.returns] at h; cases h)
        refine ⟨_, _, retN X3 hx (t := .boolean) Bd.returns (by simp) (hb hby own_d23_41) hr, hR _ _ ⟨hrun, hended, _, _, rfl, ?_, ⟨_, rfl⟩, hW, hsame.mono (by decide) (by decide)⟩⟩
        show own_Q_own_contM Z a1 x y d1 d2 d3 d4 z1 z2 z3 z4 zx zy h0 n0 _ T3.heap _
        rw [e3]
        exact ⟨by rw [own_nand (Or.inr (Or.inr (Or.inl (q2.mp hc2))))], N0, rfl⟩
      · refine own_go (A' := (T3.setTop (mkF m 27 #[.val (.ref a1), .val (.double x), .second, .val (.double y), .second] []))) (fun _ k => XS.ifNo X3.here hx rfl (hb hby own_d23_24) rfl ((if0 _ _).trans (flt hc2).2.2.1) k) ?_
        refine own_go (A' := (T3.setTop (mkF m 28 #[.val (.ref a1), .val (.double x), .second, .val (.double y), .second] [(.double y)]))) (fun _ k => XS.dloadN X3.here hx rfl (hb hby own_d23_27) rfl k) ?_
        refine own_go (A' := (T3.setTop (mkF m 29 #[.val (.ref a1), .val (.double x), .second, .val (.double y), .second] [(.ref a1), (.double y)]))) (fun _ k => XS.aloadN X3.here hx rfl (hb hby own_d23_28) rfl rfl k) ?_
        obtain ⟨T4, X4, e4, st4⟩ := getF X3 hx hZ hown (host := "") (Or.inl (hw _ (List.mem_of_getElem? (i := 156) rfl))) Via.refl e3 F4 (g := (mkF m 29 #[.val (.ref a1), .val (.double x), .second, .val (.double y), .second] [(.ref a1), (.double y)])) rfl rfl (hb hby own_d23_29)
        refine own_go (A' := (T4.setTop (mkF m 32 #[.val (.ref a1), .val (.double x), .second, .val (.double y), .second] [(.double d4), (.double y)]))) (fun _ k => st4 _ k) ?_
        refine own_go (A' := (T4.setTop (mkF m 33 #[.val (.ref a1), .val (.double x), .second, .val (.double y), .second] [(.int (cmpValue (FP.dcmp y d4) .g))]))) (fun _ k => XS.dcmpS X4.here hx rfl (hb hby own_d23_32) rfl rfl k) ?_
        have q3 := own_ca_gt HY H4 .g
        by_cases hc3 : (0 : Int32) < (cmpValue (FP.dcmp y d4) .g)
        · refine own_go (A' := (T4.setTop (mkF m 40 #[.val (.ref a1), .val (.double x), .second, .val (.double y), .second] []))) (fun _ k => XS.ifYes X4.here hx rfl (pc0 := 33) (pc' := 40) rfl (hb hby own_d23_33) rfl ((if0 _ _).trans (tlt hc3).2.2.1) (by decide) (by decide) k) ?_
          refine own_go (A' := (T4.setTop (mkF m 41 #[.val (.ref a1), .val (.double x), .second, .val (.double y), .second] [(.int (0 : Int32))]))) (fun _ k => XS.iconst X4.here hx rfl (hb hby own_d23_40) k) ?_
          obtain ⟨fs, hr, hrun, hended, hW, hsame⟩ := X4.leave (v := some (.int (0 : Int32))) (fun h => by rw [Bd.returns] at h; cases h)
          refine ⟨_, _, retN X4 hx (t := .boolean) Bd.returns (by simp) (hb hby own_d23_41) hr, hR _ _ ⟨hrun, hended, _, _, rfl, ?_, ⟨_, rfl⟩, hW, hsame.mono (by decide) (by decide)⟩⟩
          show own_Q_own_contM Z a1 x y d1 d2 d3 d4 z1 z2 z3 z4 zx zy h0 n0 _ T4.heap _
          rw [e4]
          exact ⟨by rw [own_nand (Or.inr (Or.inr (Or.inr (q3.mp hc3))))], N0, rfl⟩
        · refine own_go (A' := (T4.setTop (mkF m 36 #[.val (.ref a1), .val (.double x), .second, .val (.double y), .second] []))) (fun _ k => XS.ifNo X4.here hx rfl (hb hby own_d23_33) rfl ((if0 _ _).trans (flt hc3).2.2.1) k) ?_
          refine own_go (A' := (T4.setTop (mkF m 37 #[.val (.ref a1), .val (.double x), .second, .val (.double y), .second] [(.int (1 : Int32))]))) (fun _ k => XS.iconst X4.here hx rfl (hb hby own_d23_36) k) ?_
          refine own_go (A' := (T4.setTop (mkF m 41 #[.val (.ref a1), .val (.double x), .second, .val (.double y), .second] [(.int (1 : Int32))]))) (fun _ k => XS.goto X4.here hx rfl (pc0 := 37) (pc' := 41) rfl (hb hby own_d23_37) (by decide) (by decide) k) ?_
          obtain ⟨fs, hr, hrun, hended, hW, hsame⟩ := X4.leave (v := some (.int (1 : Int32))) (fun h => by rw [Bd.returns] at h; cases h)
          refine ⟨_, _, retN X4 hx (t := .boolean) Bd.returns (by simp) (hb hby own_d23_41) hr, hR _ _ ⟨hrun, hended, _, _, rfl, ?_, ⟨_, rfl⟩, hW, hsame.mono (by decide) (by decide)⟩⟩
          show own_Q_own_contM Z a1 x y d1 d2 d3 d4 z1 z2 z3 z4 zx zy h0 n0 _ T4.heap _
          rw [e4]
          exact ⟨by rw [own_and (by have := mt q0.mpr hc0; omega) (by have := mt q1.mpr hc1; omega) (by have := mt q2.mpr hc2; omega) (by have := mt q3.mpr hc3; omega)], N0, rfl⟩
theorem own_ef_own_winit (m : MethodId) (a0_ : Addr) (d1 : UInt64) (d2 : UInt64) (d3 : UInt64) (d4 : UInt64) : entryFrame m #[(.ref a0_), (.double d1), (.double d2), (.double d3), (.double d4)] 12 = mkF m 0 #[.val (.ref a0_), .val (.double d1), .second, .val (.double d2), .second, .val (.double d3), .second, .val (.double d4), .second, .unset, .unset, .unset] [] := by first | (simp [entryFrame, mkF, argsToLocals, Value.category]; done) | rfl
def own_Q_own_winit (Z : State) (a0_ : Addr) (d1 : UInt64) (d2 : UInt64) (d3 : UInt64) (d4 : UInt64) (u0 : Value) (z1 z2 z3 z4 : Int) (h0 : Heap) (n0 : Nat) (v : Option Value) (h : Heap) (L : List Loc) : Prop := v = none ∧ Fr n0 L ∧ Keep h0 h [a0_] ∧ Exa Z h a0_ "com/example/cairntree/cairntree/Window" ∧ Fld Z h a0_ "com/example/cairntree/cairntree/Window" "minX" "D" (.double d1) ∧ Fld Z h a0_ "com/example/cairntree/cairntree/Window" "minY" "D" (.double d2) ∧ Fld Z h a0_ "com/example/cairntree/cairntree/Window" "maxX" "D" (.double d3) ∧ Fld Z h a0_ "com/example/cairntree/cairntree/Window" "maxY" "D" (.double d4)
set_option maxRecDepth 65536 in
set_option maxHeartbeats 40000000 in
theorem own_winit (l : Launch) (Z : State) (a0 : Array Value) (hw : ∀ d ∈ tables_1, d.before a0 Z = true) (ws : List Jvm.Cond) (a0_ : Addr) (d1 : UInt64) (d2 : UInt64) (d3 : UInt64) (d4 : UInt64) (u0 : Value) (z1 z2 z3 z4 : Int) (h0 : Heap) (n0 : Nat) (Z0 : n0 ≤ h0.size) (H1 : own_At 1074 d1 z1) (H2 : own_At 1074 d2 z2) (H3 : own_At 1074 d3 z3) (H4 : own_At 1074 d4 z4) (hle1 : z1 ≤ z3) (hle2 : z2 ≤ z4) (E_a : Exa Z h0 a0_ "com/example/cairntree/cairntree/Window") (F_a : Fld Z h0 a0_ "com/example/cairntree/cairntree/Window" "minX" "D" u0) (g_a : n0 ≤ a0_) (S1 : Sta Z h0 "java/util/ImmutableCollections" "$assertionsDisabled" "Z" (.int 1)) :
    MetFree l (⟨"com/example/cairntree/cairntree/Window", "<init>", "(DDDD)V"⟩ : MethodName) (head1 (Jvm.Cond.code (⟨"com/example/cairntree/cairntree/Window", "<init>", "(DDDD)V"⟩ : MethodName) prog_39_method_1_code 12 none :: ws) ({ frames := 7, cells := 7, slots := 14, locals := 94 } : Room)) (fun a U => a = #[(.ref a0_), (.double d1), (.double d2), (.double d3), (.double d4)] ∧ Z.Warmed39 U.vm ∧ U.heap = h0) (fun _ _ _ _ _ => True) (fun _ U o U' => ∃ v L, o = .returned v ∧ own_Q_own_winit Z a0_ d1 d2 d3 d4 u0 z1 z2 z3 z4 h0 n0 v U'.heap L ∧ FrameEnd U o U' L ({ frames := 7, cells := 7, slots := 14, locals := 94 } : Room).cells ({ frames := 7, cells := 7, slots := 14, locals := 94 } : Room).slots) := by
  refine MetFree.of_bodySF (plainFor_of_name own_pn1) hisR ?_
  intro p e s m args below meth c s₁ Bd hml0 hP hK
  obtain ⟨rfl, hZ, hh⟩ := hP
  have hx := Bd.exec
  have hby := Bd.bytes
  have hml : c.maxLocals = 12 := hml0
  have hown : s.vm.findClass "com/example/cairntree/cairntree/Window" = some m.cls := findClass_of_methodNamed Bd.named
  have hnm := (name_of_methodNamed Bd.named Bd.method).1
  have X0 : Stand p l e ({ frames := 7, cells := 7, slots := 14, locals := 94 } : Room) s m #[(.ref a0_), (.double d1), (.double d2), (.double d3), (.double d4)] below meth c s₁ [] 0 0 := Stand.of_body Bd
  have e0 : s₁.heap = h0 := by rw [← hh, Bd.state]; rfl
  have N0 := Fr.nil n0
  refine own_open ?_
  intro R hR
  rw [own_ef_own_winit m a0_ d1 d2 d3 d4]
  show own_W p e below R (s₁.setTop (mkF m 0 #[.val (.ref a0_), .val (.double d1), .second, .val (.double d2), .second, .val (.double d3), .second, .val (.double d4), .second, .unset, .unset, .unset] []))
  have J83 : ∀ (it : Addr) (sA sB : Slot) (T : State) (locs : List Loc) (hp : Heap) (X : Stand p l e ({ frames := 7, cells := 7, slots := 14, locals := 94 } : Room) s m #[(.ref a0_), (.double d1), (.double d2), (.double d3), (.double d4)] below meth c T locs 7 14) (N : Fr n0 locs) (eT : T.heap = hp) (K_a : Keep h0 hp [a0_]) (E_a : Exa Z hp a0_ "com/example/cairntree/cairntree/Window") (F_a : Fld Z hp a0_ "com/example/cairntree/cairntree/Window" "minX" "D" u0), own_W p e below R (T.setTop (mkF m 83 #[.val (.ref a0_), .val (.double d1), .second, .val (.double d2), .second, .val (.double d3), .second, .val (.double d4), .second, .val (.ref it), sA, sB] [])) := by
    intro it sA sB T locs hp X N eT K_a E_a F_a
    refine own_go (A' := (T.setTop (mkF m 84 #[.val (.ref a0_), .val (.double d1), .second, .val (.double d2), .second, .val (.double d3), .second, .val (.double d4), .second, .val (.ref it), sA, sB] [(.double d1)]))) (fun _ k => XS.dloadN X.here hx rfl (hb hby own_d1_83) rfl k) ?_
    refine own_go (A' := (T.setTop (mkF m 86 #[.val (.ref a0_), .val (.double d1), .second, .val (.double d2), .second, .val (.double d3), .second, .val (.double d4), .second, .val (.ref it), sA, sB] [(.double d3), (.double d1)]))) (fun _ k => XS.dload X.here hx rfl (hb hby own_d1_84) rfl k) ?_
    refine own_go (A' := (T.setTop (mkF m 87 #[.val (.ref a0_), .val (.double d1), .second, .val (.double d2), .second, .val (.double d3), .second, .val (.double d4), .second, .val (.ref it), sA, sB] [(.int (cmpValue (FP.dcmp d1 d3) .l))]))) (fun _ k => XS.dcmpS X.here hx rfl (hb hby own_d1_86) rfl rfl k) ?_
    have q1 := own_ca_gt H1 H3 .l
    have q2 := own_ca_gt H2 H4 .l
    refine own_go (A' := (T.setTop (mkF m 90 #[.val (.ref a0_), .val (.double d1), .second, .val (.double d2), .second, .val (.double d3), .second, .val (.double d4), .second, .val (.ref it), sA, sB] []))) (fun _ k => XS.ifNo X.here hx rfl (hb hby own_d1_87) rfl ((if0 _ _).trans (flt (fun q => by have := q1.mp q; omega)).2.2.1) k) ?_
    refine own_go (A' := (T.setTop (mkF m 91 #[.val (.ref a0_), .val (.double d1), .second, .val (.double d2), .second, .val (.double d3), .second, .val (.double d4), .second, .val (.ref it), sA, sB] [(.double d2)]))) (fun _ k => XS.dloadN X.here hx rfl (hb hby own_d1_90) rfl k) ?_
    refine own_go (A' := (T.setTop (mkF m 93 #[.val (.ref a0_), .val (.double d1), .second, .val (.double d2), .second, .val (.double d3), .second, .val (.double d4), .second, .val (.ref it), sA, sB] [(.double d4), (.double d2)]))) (fun _ k => XS.dload X.here hx rfl (hb hby own_d1_91) rfl k) ?_
    refine own_go (A' := (T.setTop (mkF m 94 #[.val (.ref a0_), .val (.double d1), .second, .val (.double d2), .second, .val (.double d3), .second, .val (.double d4), .second, .val (.ref it), sA, sB] [(.int (cmpValue (FP.dcmp d2 d4) .l))]))) (fun _ k => XS.dcmpS X.here hx rfl (hb hby own_d1_93) rfl rfl k) ?_
    refine own_go (A' := (T.setTop (mkF m 116 #[.val (.ref a0_), .val (.double d1), .second, .val (.double d2), .second, .val (.double d3), .second, .val (.double d4), .second, .val (.ref it), sA, sB] []))) (fun _ k => XS.ifYes X.here hx rfl (pc0 := 94) (pc' := 116) rfl (hb hby own_d1_94) rfl ((if0 _ _).trans (flt (fun q => by have := q2.mp q; omega)).2.2.2) (by decide) (by decide) k) ?_
    refine own_go (A' := (T.setTop (mkF m 117 #[.val (.ref a0_), .val (.double d1), .second, .val (.double d2), .second, .val (.double d3), .second, .val (.double d4), .second, .val (.ref it), sA, sB] [(.ref a0_)]))) (fun _ k => XS.aloadN X.here hx rfl (hb hby own_d1_116) rfl rfl k) ?_
    refine own_go (A' := (T.setTop (mkF m 118 #[.val (.ref a0_), .val (.double d1), .second, .val (.double d2), .second, .val (.double d3), .second, .val (.double d4), .second, .val (.ref it), sA, sB] [(.double d1), (.ref a0_)]))) (fun _ k => XS.dloadN X.here hx rfl (hb hby own_d1_117) rfl k) ?_
    obtain ⟨_, Fo⟩ := own_any F_a E_a (hw _ (List.mem_of_getElem? (i := 2) rfl)) (Or.inr (hw _ (List.mem_of_getElem? (i := 151) rfl)))
    obtain ⟨T21, h21, X21, e21, W21, st21⟩ := putF X hx hZ hown (host := "") (Or.inl (hw _ (List.mem_of_getElem? (i := 150) rfl))) Via.refl eT Fo E_a (Or.inr ⟨(hw _ (List.mem_of_getElem? (i := 151) rfl)), rfl, hnm⟩) (hw _ (List.mem_of_getElem? (i := 2) rfl)) (ty := .double) (by decide) rfl rfl (g := (mkF m 118 #[.val (.ref a0_), .val (.double d1), .second, .val (.double d2), .second, .val (.double d3), .second, .val (.double d4), .second, .val (.ref it), sA, sB] [(.double d1), (.ref a0_)])) rfl rfl (hb hby own_d1_118)
    refine own_go (A' := (T21.setTop (mkF m 121 #[.val (.ref a0_), .val (.double d1), .second, .val (.double d2), .second, .val (.double d3), .second, .val (.double d4), .second, .val (.ref it), sA, sB] []))) (fun _ k => st21 _ k) ?_
    have N21 := Fr.snoc X21 N g_a
    have K_a := K_a.wr W21 (Or.inl (List.mem_of_getElem? (i := 0) rfl))
    have E_a := E_a.wr W21
    have F1 := Fo.same W21
    refine own_go (A' := (T21.setTop (mkF m 122 #[.val (.ref a0_), .val (.double d1), .second, .val (.double d2), .second, .val (.double d3), .second, .val (.double d4), .second, .val (.ref it), sA, sB] [(.ref a0_)]))) (fun _ k => XS.aloadN X21.here hx rfl (hb hby own_d1_121) rfl rfl k) ?_
    refine own_go (A' := (T21.setTop (mkF m 123 #[.val (.ref a0_), .val (.double d1), .second, .val (.double d2), .second, .val (.double d3), .second, .val (.double d4), .second, .val (.ref it), sA, sB] [(.double d2), (.ref a0_)]))) (fun _ k => XS.dloadN X21.here hx rfl (hb hby own_d1_122) rfl k) ?_
    obtain ⟨_, Fo⟩ := own_any F1 E_a (hw _ (List.mem_of_getElem? (i := 2) rfl)) (Or.inr (hw _ (List.mem_of_getElem? (i := 153) rfl)))
    obtain ⟨T22, h22, X22, e22, W22, st22⟩ := putF X21 hx hZ hown (host := "") (Or.inl (hw _ (List.mem_of_getElem? (i := 152) rfl))) Via.refl e21 Fo E_a (Or.inr ⟨(hw _ (List.mem_of_getElem? (i := 153) rfl)), rfl, hnm⟩) (hw _ (List.mem_of_getElem? (i := 2) rfl)) (ty := .double) (by decide) rfl rfl (g := (mkF m 123 #[.val (.ref a0_), .val (.double d1), .second, .val (.double d2), .second, .val (.double d3), .second, .val (.double d4), .second, .val (.ref it), sA, sB] [(.double d2), (.ref a0_)])) rfl rfl (hb hby own_d1_123)
    refine own_go (A' := (T22.setTop (mkF m 126 #[.val (.ref a0_), .val (.double d1), .second, .val (.double d2), .second, .val (.double d3), .second, .val (.double d4), .second, .val (.ref it), sA, sB] []))) (fun _ k => st22 _ k) ?_
    have N22 := Fr.snoc X22 N21 g_a
    have K_a := K_a.wr W22 (Or.inl (List.mem_of_getElem? (i := 0) rfl))
    have E_a := E_a.wr W22
    have F1 := F1.other W22 (Or.inr (slot_ne (Or.inr (hw _ (List.mem_of_getElem? (i := 151) rfl))) (Or.inr (hw _ (List.mem_of_getElem? (i := 153) rfl))) (by decide) (t := .double) (t' := .double) (by decide) (by decide)))
    have F2 := Fo.same W22
    refine own_go (A' := (T22.setTop (mkF m 127 #[.val (.ref a0_), .val (.double d1), .second, .val (.double d2), .second, .val (.double d3), .second, .val (.double d4), .second, .val (.ref it), sA, sB] [(.ref a0_)]))) (fun _ k => XS.aloadN X22.here hx rfl (hb hby own_d1_126) rfl rfl k) ?_
    refine own_go (A' := (T22.setTop (mkF m 129 #[.val (.ref a0_), .val (.double d1), .second, .val (.double d2), .second, .val (.double d3), .second, .val (.double d4), .second, .val (.ref it), sA, sB] [(.double d3), (.ref a0_)]))) (fun _ k => XS.dload X22.here hx rfl (hb hby own_d1_127) rfl k) ?_
    obtain ⟨_, Fo⟩ := own_any F1 E_a (hw _ (List.mem_of_getElem? (i := 2) rfl)) (Or.inr (hw _ (List.mem_of_getElem? (i := 155) rfl)))
    obtain ⟨T23, h23, X23, e23, W23, st23⟩ := putF X22 hx hZ hown (host := "") (Or.inl (hw _ (List.mem_of_getElem? (i := 154) rfl))) Via.refl e22 Fo E_a (Or.inr ⟨(hw _ (List.mem_of_getElem? (i := 155) rfl)), rfl, hnm⟩) (hw _ (List.mem_of_getElem? (i := 2) rfl)) (ty := .double) (by decide) rfl rfl (g := (mkF m 129 #[.val (.ref a0_), .val (.double d1), .second, .val (.double d2), .second, .val (.double d3), .second, .val (.double d4), .second, .val (.ref it), sA, sB] [(.double d3), (.ref a0_)])) rfl rfl (hb hby own_d1_129)
    refine own_go (A' := (T23.setTop (mkF m 132 #[.val (.ref a0_), .val (.double d1), .second, .val (.double d2), .second, .val (.double d3), .second, .val (.double d4), .second, .val (.ref it), sA, sB] []))) (fun _ k => st23 _ k) ?_
    have N23 := Fr.snoc X23 N22 g_a
    have K_a := K_a.wr W23 (Or.inl (List.mem_of_getElem? (i := 0) rfl))
    have E_a := E_a.wr W23
    have F1 := F1.other W23 (Or.inr (slot_ne (Or.inr (hw _ (List.mem_of_getElem? (i := 151) rfl))) (Or.inr (hw _ (List.mem_of_getElem? (i := 155) rfl))) (by decide) (t := .double) (t' := .double) (by decide) (by decide)))
    have F2 := F2.other W23 (Or.inr (slot_ne (Or.inr (hw _ (List.mem_of_getElem? (i := 153) rfl))) (Or.inr (hw _ (List.mem_of_getElem? (i := 155) rfl))) (by decide) (t := .double) (t' := .double) (by decide) (by decide)))
    have F3 := Fo.same W23
    refine own_go (A' := (T23.setTop (mkF m 133 #[.val (.ref a0_), .val (.double d1), .second, .val (.double d2), .second, .val (.double d3), .second, .val (.double d4), .second, .val (.ref it), sA, sB] [(.ref a0_)]))) (fun _ k => XS.aloadN X23.here hx rfl (hb hby own_d1_132) rfl rfl k) ?_
    refine own_go (A' := (T23.setTop (mkF m 135 #[.val (.ref a0_), .val (.double d1), .second, .val (.double d2), .second, .val (.double d3), .second, .val (.double d4), .second, .val (.ref it), sA, sB] [(.double d4), (.ref a0_)]))) (fun _ k => XS.dload X23.here hx rfl (hb hby own_d1_133) rfl k) ?_
    obtain ⟨_, Fo⟩ := own_any F1 E_a (hw _ (List.mem_of_getElem? (i := 2) rfl)) (Or.inr (hw _ (List.mem_of_getElem? (i := 157) rfl)))
    obtain ⟨T24, h24, X24, e24, W24, st24⟩ := putF X23 hx hZ hown (host := "") (Or.inl (hw _ (List.mem_of_getElem? (i := 156) rfl))) Via.refl e23 Fo E_a (Or.inr ⟨(hw _ (List.mem_of_getElem? (i := 157) rfl)), rfl, hnm⟩) (hw _ (List.mem_of_getElem? (i := 2) rfl)) (ty := .double) (by decide) rfl rfl (g := (mkF m 135 #[.val (.ref a0_), .val (.double d1), .second, .val (.double d2), .second, .val (.double d3), .second, .val (.double d4), .second, .val (.ref it), sA, sB] [(.double d4), (.ref a0_)])) rfl rfl (hb hby own_d1_135)
    refine own_go (A' := (T24.setTop (mkF m 138 #[.val (.ref a0_), .val (.double d1), .second, .val (.double d2), .second, .val (.double d3), .second, .val (.double d4), .second, .val (.ref it), sA, sB] []))) (fun _ k => st24 _ k) ?_
    have N24 := Fr.snoc X24 N23 g_a
    have K_a := K_a.wr W24 (Or.inl (List.mem_of_getElem? (i := 0) rfl))
    have E_a := E_a.wr W24
    have F1 := F1.other W24 (Or.inr (slot_ne (Or.inr (hw _ (List.mem_of_getElem? (i := 151) rfl))) (Or.inr (hw _ (List.mem_of_getElem? (i := 157) rfl))) (by decide) (t := .double) (t' := .double) (by decide) (by decide)))
    have F2 := F2.other W24 (Or.inr (slot_ne (Or.inr (hw _ (List.mem_of_getElem? (i := 153) rfl))) (Or.inr (hw _ (List.mem_of_getElem? (i := 157) rfl))) (by decide) (t := .double) (t' := .double) (by decide) (by decide)))
    have F3 := F3.other W24 (Or.inr (slot_ne (Or.inr (hw _ (List.mem_of_getElem? (i := 155) rfl))) (Or.inr (hw _ (List.mem_of_getElem? (i := 157) rfl))) (by decide) (t := .double) (t' := .double) (by decide) (by decide)))
    have F4 := Fo.same W24
    obtain ⟨fs, hr, hrun, hended, hW, hsame⟩ := X24.leave (v := none) (fun _ => rfl)
    refine ⟨_, _, X24.returnOut hx Bd.returns (hb hby own_d1_138) hr, hR _ _ ⟨hrun, hended, _, _, rfl, ?_, ⟨_, rfl⟩, hW, hsame.mono (by decide) (by decide)⟩⟩
    show own_Q_own_winit Z a0_ d1 d2 d3 d4 u0 z1 z2 z3 z4 h0 n0 _ T24.heap _
    rw [e24]
    exact ⟨rfl, N24, K_a, E_a, F1, F2, F3, F4⟩
  have LOOP : ∀ (it ln arr : Addr) (o : Nat → Addr) (dv : Nat → UInt64) (hdv : ∀ j, j < 4 → ∃ u, own_Is (dv j) u) (g_it : n0 ≤ it) (hsz_it : h0.size ≤ it) (ne_a : a0_ ≠ it) (ne_l : ln ≠ it) (ne_r : arr ≠ it) (ne_o : ∀ j, j < 4 → o j ≠ it) (k n : Nat) (c_ : Int32) (sA sB : Slot) (T : State) (locs : List Loc) (hp : Heap) (X : Stand p l e ({ frames := 7, cells := 7, slots := 14, locals := 94 } : Room) s m #[(.ref a0_), (.double d1), (.double d2), (.double d3), (.double d4)] below meth c T locs 7 14) (N : Fr n0 locs) (eT : T.heap = hp) (K_a : Keep h0 hp [a0_]) (E_a : Exa Z hp a0_ "com/example/cairntree/cairntree/Window") (F_a : Fld Z hp a0_ "com/example/cairntree/cairntree/Window" "minX" "D" u0) (E_i : Exa Z hp it "java/util/ImmutableCollections$ListItr") (F_c : Fld Z hp it "java/util/ImmutableCollections$ListItr" "cursor" "I" (.int c_)) (F_s : Fld Z hp it "java/util/ImmutableCollections$ListItr" "size" "I" (.int 4)) (F_l : Fld Z hp it "java/util/ImmutableCollections$ListItr" "list" "Ljava/util/List;" (.ref ln)) (E_l : Exa Z hp ln "java/util/ImmutableCollections$ListN") (F_e : Fld Z hp ln "java/util/ImmutableCollections$ListN" "elements" "[Ljava/lang/Object;" (.ref arr)) (Ar : own_Ar Z hp arr o) (E_d : ∀ j, j < 4 → Exa Z hp (o j) "java/lang/Double") (F_d : ∀ j, j < 4 → Fld Z hp (o j) "java/lang/Double" "value" "D" (.double (dv j))) (hc : c_.toInt = n) (hk : n + k = 4) (hs : (sA = .unset ∧ sB = .unset) ∨ ∃ w : UInt64, sA = .val (.double w) ∧ sB = .second), own_W p e below R (T.setTop (mkF m 32 #[.val (.ref a0_), .val (.double d1), .second, .val (.double d2), .second, .val (.double d3), .second, .val (.double d4), .second, .val (.ref it), sA, sB] [])) := by
    intro it ln arr o dv hdv g_it hsz_it ne_a ne_l ne_r ne_o k
    induction k with
    | zero =>
      intro n c_ sA sB T locs hp X N eT K_a E_a F_a E_i F_c F_s F_l E_l F_e Ar E_d F_d hc hk hs
      have Zs : n0 ≤ hp.size := Nat.le_trans Z0 K_a.1
      refine own_go (A' := (T.setTop (mkF m 34 #[.val (.ref a0_), .val (.double d1), .second, .val (.double d2), .second, .val (.double d3), .second, .val (.double d4), .second, .val (.ref it), sA, sB] [(.ref it)]))) (fun _ k => XS.aload X.here hx rfl (hb hby own_d1_32) rfl rfl k) ?_
      obtain ⟨cq25, kq25, q25a, q25b, q25c⟩ := isOf hZ eT E_i
      obtain ⟨_, _, ⟨T25, L25, k25, n25⟩, -, X25, ⟨Lc25, hQ25, l25, y25, z25⟩, st25⟩ := X.interfaceBack hx (xi := (⟨"java/util/Iterator", "hasNext", "()Z"⟩ : MethodName)) (y := (⟨"java/util/ImmutableCollections$ListItr", "hasNext", "()Z"⟩ : MethodName)) hown (mvT hZ (hw _ (List.mem_of_getElem? (i := 111) rfl))) (mvT hZ (hw _ (List.mem_of_getElem? (i := 112) rfl))) (mvT hZ (hw _ (List.mem_of_getElem? (i := 113) rfl))) (mvT hZ (hw _ (List.mem_of_getElem? (i := 114) rfl))) (mvT hZ (hw _ (List.mem_of_getElem? (i := 115) rfl))) (mvT hZ (hw _ (List.mem_of_getElem? (i := 116) rfl))) (mvT hZ (hw _ (List.mem_of_getElem? (i := 117) rfl))) (mvT hZ (hw _ (List.mem_of_getElem? (i := 118) rfl))) (by decide) (backOf (W := 0) (own_hasnext l Z a0 hw [] it c_ 4 hp n0 Zs F_c F_s) hZ (hw _ (List.mem_of_getElem? (i := 119) rfl)) (hw _ (List.mem_of_getElem? (i := 91) rfl)) (by decide) (by decide)) q25a q25b q25c (g := (mkF m 34 #[.val (.ref a0_), .val (.double d1), .second, .val (.double d2), .second, .val (.double d3), .second, .val (.double d4), .second, .val (.ref it), sA, sB] [(.ref it)])) rfl (by rw [hml]; rfl) (Steps.refl _) (argsL := []) (rest := []) (lenOf own_pd9 rfl) rfl (by show 2 * 0 + _ ≤ _; exact Nat.le_of_eq rfl) (hb hby own_d1_34) (fun _ _ => ⟨rfl, eT, (by decide : 7 + 0 ≤ _), (by decide : 14 + 0 ≤ _)⟩)
      dsimp only [Pt.U, Pt.locs, Pt.cells, Pt.slots] at X25 l25 y25 z25 st25 hQ25
      subst l25 y25 z25
      obtain ⟨rfl, N25q, hh25⟩ := hQ25
      have N25 := Fr.app N N25q
      refine own_go (A' := (T25.setTop (mkF m 39 #[.val (.ref a0_), .val (.double d1), .second, .val (.double d2), .second, .val (.double d3), .second, .val (.double d4), .second, .val (.ref it), sA, sB] [(.int (if c_ = 4 then 0 else 1))]))) (fun _ k => st25.trans k) ?_
      have hc4 : c_ = 4 := Int32.toInt_inj.mp (by rw [hc]; show (n : Int) = 4; omega)
      refine own_go (A' := (T25.setTop (mkF m 83 #[.val (.ref a0_), .val (.double d1), .second, .val (.double d2), .second, .val (.double d3), .second, .val (.double d4), .second, .val (.ref it), sA, sB] []))) (fun _ k => XS.ifYes X25.here hx rfl (pc0 := 39) (pc' := 83) rfl (hb hby own_d1_39) rfl ((if0 _ _).trans (teq (if_pos hc4)).1) (by decide) (by decide) k) ?_
      exact J83 it sA sB _ _ _ X25 N25 hh25 K_a E_a F_a
    | succ k ih =>
      intro n c_ sA sB T locs hp X N eT K_a E_a F_a E_i F_c F_s F_l E_l F_e Ar E_d F_d hc hk hs
      have Zs : n0 ≤ hp.size := Nat.le_trans Z0 K_a.1
      refine own_go (A' := (T.setTop (mkF m 34 #[.val (.ref a0_), .val (.double d1), .second, .val (.double d2), .second, .val (.double d3), .second, .val (.double d4), .second, .val (.ref it), sA, sB] [(.ref it)]))) (fun _ k => XS.aload X.here hx rfl (hb hby own_d1_32) rfl rfl k) ?_
      obtain ⟨cq26, kq26, q26a, q26b, q26c⟩ := isOf hZ eT E_i
      obtain ⟨_, _, ⟨T26, L26, k26, n26⟩, -, X26, ⟨Lc26, hQ26, l26, y26, z26⟩, st26⟩ := X.interfaceBack hx (xi := (⟨"java/util/Iterator", "hasNext", "()Z"⟩ : MethodName)) (y := (⟨"java/util/ImmutableCollections$ListItr", "hasNext", "()Z"⟩ : MethodName)) hown (mvT hZ (hw _ (List.mem_of_getElem? (i := 111) rfl))) (mvT hZ (hw _ (List.mem_of_getElem? (i := 112) rfl))) (mvT hZ (hw _ (List.mem_of_getElem? (i := 113) rfl))) (mvT hZ (hw _ (List.mem_of_getElem? (i := 114) rfl))) (mvT hZ (hw _ (List.mem_of_getElem? (i := 115) rfl))) (mvT hZ (hw _ (List.mem_of_getElem? (i := 116) rfl))) (mvT hZ (hw _ (List.mem_of_getElem? (i := 117) rfl))) (mvT hZ (hw _ (List.mem_of_getElem? (i := 118) rfl))) (by decide) (backOf (W := 0) (own_hasnext l Z a0 hw [] it c_ 4 hp n0 Zs F_c F_s) hZ (hw _ (List.mem_of_getElem? (i := 119) rfl)) (hw _ (List.mem_of_getElem? (i := 91) rfl)) (by decide) (by decide)) q26a q26b q26c (g := (mkF m 34 #[.val (.ref a0_), .val (.double d1), .second, .val (.double d2), .second, .val (.double d3), .second, .val (.double d4), .second, .val (.ref it), sA, sB] [(.ref it)])) rfl (by rw [hml]; rfl) (Steps.refl _) (argsL := []) (rest := []) (lenOf own_pd9 rfl) rfl (by show 2 * 0 + _ ≤ _; exact Nat.le_of_eq rfl) (hb hby own_d1_34) (fun _ _ => ⟨rfl, eT, (by decide : 7 + 0 ≤ _), (by decide : 14 + 0 ≤ _)⟩)
      dsimp only [Pt.U, Pt.locs, Pt.cells, Pt.slots] at X26 l26 y26 z26 st26 hQ26
      subst l26 y26 z26
      obtain ⟨rfl, N26q, hh26⟩ := hQ26
      have N26 := Fr.app N N26q
      refine own_go (A' := (T26.setTop (mkF m 39 #[.val (.ref a0_), .val (.double d1), .second, .val (.double d2), .second, .val (.double d3), .second, .val (.double d4), .second, .val (.ref it), sA, sB] [(.int (if c_ = 4 then 0 else 1))]))) (fun _ k => st26.trans k) ?_
      have hc4 : ¬ c_ = 4 := by
        intro q
        rw [q] at hc
        have : (4 : Int) = n := hc
        omega
      refine own_go (A' := (T26.setTop (mkF m 42 #[.val (.ref a0_), .val (.double d1), .second, .val (.double d2), .second, .val (.double d3), .second, .val (.double d4), .second, .val (.ref it), sA, sB] []))) (fun _ k => XS.ifNo X26.here hx rfl (hb hby own_d1_39) rfl ((if0 _ _).trans (feq (by rw [if_neg hc4]; decide)).1) k) ?_
      refine own_go (A' := (T26.setTop (mkF m 44 #[.val (.ref a0_), .val (.double d1), .second, .val (.double d2), .second, .val (.double d3), .second, .val (.double d4), .second, .val (.ref it), sA, sB] [(.ref it)]))) (fun _ k => XS.aload X26.here hx rfl (hb hby own_d1_42) rfl rfl k) ?_
      obtain ⟨cq27, kq27, q27a, q27b, q27c⟩ := isOf hZ hh26 E_i
      obtain ⟨_, _, ⟨T27, L27, k27, n27⟩, -, X27, ⟨Lc27, hQ27, l27, y27, z27⟩, st27⟩ := X26.interfaceBack hx (xi := (⟨"java/util/Iterator", "next", "()Ljava/lang/Object;"⟩ : MethodName)) (y := (⟨"java/util/ImmutableCollections$ListItr", "next", "()Ljava/lang/Object;"⟩ : MethodName)) hown (mvT hZ (hw _ (List.mem_of_getElem? (i := 120) rfl))) (mvT hZ (hw _ (List.mem_of_getElem? (i := 121) rfl))) (mvT hZ (hw _ (List.mem_of_getElem? (i := 122) rfl))) (mvT hZ (hw _ (List.mem_of_getElem? (i := 123) rfl))) (mvT hZ (hw _ (List.mem_of_getElem? (i := 124) rfl))) (mvT hZ (hw _ (List.mem_of_getElem? (i := 125) rfl))) (mvT hZ (hw _ (List.mem_of_getElem? (i := 126) rfl))) (mvT hZ (hw _ (List.mem_of_getElem? (i := 118) rfl))) (by decide) (backOfWith (W := 0) (own_next l Z a0 hw [] it c_ 4 ln arr o n hp n0 Zs E_i F_c F_s F_l E_l F_e Ar hc (by omega) g_it) hZ (hw _ (List.mem_of_getElem? (i := 127) rfl)) (hw _ (List.mem_of_getElem? (i := 91) rfl)) (by decide) (by decide)) q27a q27b q27c (g := (mkF m 44 #[.val (.ref a0_), .val (.double d1), .second, .val (.double d2), .second, .val (.double d3), .second, .val (.double d4), .second, .val (.ref it), sA, sB] [(.ref it)])) rfl (by rw [hml]; rfl) (Steps.refl _) (argsL := []) (rest := []) (lenOf own_pd10 rfl) rfl (by show 2 * 0 + _ ≤ _; exact Nat.le_of_eq rfl) (hb hby own_d1_44) (fun _ _ => ⟨rfl, hh26, (by decide : 7 + 0 ≤ _), (by decide : 14 + 0 ≤ _)⟩)
      dsimp only [Pt.U, Pt.locs, Pt.cells, Pt.slots] at X27 l27 y27 z27 st27 hQ27
      subst l27 y27 z27
      obtain ⟨rfl, N27q, K27, E_i', F_c', F_s', F_l'⟩ := hQ27
      have N27 := Fr.app N26 N27q
      refine own_go (A' := (T27.setTop (mkF m 49 #[.val (.ref a0_), .val (.double d1), .second, .val (.double d2), .second, .val (.double d3), .second, .val (.double d4), .second, .val (.ref it), sA, sB] [(.ref (o n))]))) (fun _ k => st27.trans k) ?_
      have sz_it : h0.size ≤ it := hsz_it
      have K_a := K_a.trans K27 (allS (Or.inr sz_it) all0)
      have E_a := E_a.keep K27
      have F_a := F_a.keep K27 (ninS ne_a nin0)
      have E_l := E_l.keep K27
      have F_e := F_e.keep K27 (ninS ne_l nin0)
      have Ar := Ar.keep K27 (ninS ne_r nin0)
      have E_d := fun j hj => (E_d j hj).keep K27
      have F_d := fun j hj => (F_d j hj).keep K27 (ninS (ne_o j hj) nin0)
      have Zs : n0 ≤ T27.heap.size := Nat.le_trans Zs K27.1
      obtain ⟨T28, X28, e28, st28⟩ := castY X27 hx hZ hown (hw _ (List.mem_of_getElem? (i := 136) rfl)) rfl (Ins.self (E_d n (by omega))) (g := (mkF m 49 #[.val (.ref a0_), .val (.double d1), .second, .val (.double d2), .second, .val (.double d3), .second, .val (.double d4), .second, .val (.ref it), sA, sB] [(.ref (o n))])) rfl rfl (hb hby own_d1_49)
      refine own_go (A' := (T28.setTop (mkF m 52 #[.val (.ref a0_), .val (.double d1), .second, .val (.double d2), .second, .val (.double d3), .second, .val (.double d4), .second, .val (.ref it), sA, sB] [(.ref (o n))]))) (fun _ k => st28 _ k) ?_
      obtain ⟨cq29, kq29, q29a, q29b, q29c⟩ := isOf hZ e28 (E_d n (by omega))
      obtain ⟨_, _, ⟨T29, L29, k29, n29⟩, -, X29, ⟨Lc29, hQ29, l29, y29, z29⟩, st29⟩ := X28.virtualBack hx (y := (⟨"java/lang/Double", "doubleValue", "()D"⟩ : MethodName)) (z := (⟨"java/lang/Double", "doubleValue", "()D"⟩ : MethodName)) hown (mvT hZ (hw _ (List.mem_of_getElem? (i := 137) rfl))) (mvT hZ (hw _ (List.mem_of_getElem? (i := 138) rfl))) (notFace_of_selects (args := #[]) (mvT hZ (hw _ (List.mem_of_getElem? (i := 140) rfl)))) (mvT hZ (hw _ (List.mem_of_getElem? (i := 140) rfl))) (mvT hZ (hw _ (List.mem_of_getElem? (i := 139) rfl))) (by decide) (backOf (W := 0) (own_dval l Z a0 hw [] (o n) (dv n) T27.heap n0 Zs (F_d n (by omega))) hZ (hw _ (List.mem_of_getElem? (i := 141) rfl)) (hw _ (List.mem_of_getElem? (i := 17) rfl)) (by decide) (by decide)) q29a q29c (g := (mkF m 52 #[.val (.ref a0_), .val (.double d1), .second, .val (.double d2), .second, .val (.double d3), .second, .val (.double d4), .second, .val (.ref it), sA, sB] [(.ref (o n))])) rfl (by rw [hml]; rfl) (Steps.refl _) (argsL := []) (rest := []) (lenOf own_pd11 rfl) rfl (by show 2 * 0 + _ ≤ _; exact Nat.le_of_eq rfl) (hb hby own_d1_52) (fun _ _ => ⟨rfl, e28, (by decide : 7 + 0 ≤ _), (by decide : 14 + 0 ≤ _)⟩)
      dsimp only [Pt.U, Pt.locs, Pt.cells, Pt.slots] at X29 l29 y29 z29 st29 hQ29
      subst l29 y29 z29
      obtain ⟨rfl, N29q, hh29⟩ := hQ29
      have N29 := Fr.app N27 N29q
      refine own_go (A' := (T29.setTop (mkF m 55 #[.val (.ref a0_), .val (.double d1), .second, .val (.double d2), .second, .val (.double d3), .second, .val (.double d4), .second, .val (.ref it), sA, sB] [(.double (dv n))]))) (fun _ k => st29.trans k) ?_
      refine own_go (A' := (T29.setTop (mkF m 57 #[.val (.ref a0_), .val (.double d1), .second, .val (.double d2), .second, .val (.double d3), .second, .val (.double d4), .second, .val (.ref it), .val (.double (dv n)), .second] []))) (fun _ k => XS.dstore X29.here hx rfl (hb hby own_d1_55) rfl (l' := #[.val (.ref a0_), .val (.double d1), .second, .val (.double d2), .second, .val (.double d3), .second, .val (.double d4), .second, .val (.ref it), .val (.double (dv n)), .second]) (own_os10 hs) k) ?_
      refine own_go (A' := (T29.setTop (mkF m 59 #[.val (.ref a0_), .val (.double d1), .second, .val (.double d2), .second, .val (.double d3), .second, .val (.double d4), .second, .val (.ref it), .val (.double (dv n)), .second] [(.double (dv n))]))) (fun _ k => XS.dload X29.here hx rfl (hb hby own_d1_57) rfl k) ?_
      obtain ⟨u, hu⟩ := hdv n (by omega)
      obtain ⟨_, _, ⟨T30, L30, k30, n30⟩, -, X30, ⟨Lc30, hQ30, l30, y30, z30⟩, st30⟩ := Jvm.LawKit.callS X29 hx (y := (⟨"java/lang/Double", "isFinite", "(D)Z"⟩ : MethodName)) hown (mvT hZ (hw _ (List.mem_of_getElem? (i := 142) rfl))) (mvT hZ (hw _ (List.mem_of_getElem? (i := 143) rfl))) (mvT hZ (hw _ (List.mem_of_getElem? (i := 17) rfl))) (mvT hZ (hw _ (List.mem_of_getElem? (i := 144) rfl))) (by decide) (backOf (W := 0) (own_isfin l Z a0 hw [] (dv n) u T27.heap n0 Zs hu) hZ (hw _ (List.mem_of_getElem? (i := 144) rfl)) (hw _ (List.mem_of_getElem? (i := 17) rfl)) (by decide) (by decide)) (g := (mkF m 59 #[.val (.ref a0_), .val (.double d1), .second, .val (.double d2), .second, .val (.double d3), .second, .val (.double d4), .second, .val (.ref it), .val (.double (dv n)), .second] [(.double (dv n))])) rfl (by rw [hml]; rfl) (argsL := [(.double (dv n))]) (rest := []) (lenOf own_pd12 rfl) rfl (by show 2 * 0 + _ ≤ _; exact Nat.le_of_eq rfl) (hb hby own_d1_59) (fun _ _ => ⟨rfl, hh29, (by decide : 7 + 0 ≤ _), (by decide : 14 + 0 ≤ _)⟩)
      dsimp only [Pt.U, Pt.locs, Pt.cells, Pt.slots] at X30 l30 y30 z30 st30 hQ30
      subst l30 y30 z30
      obtain ⟨rfl, N30q, hh30⟩ := hQ30
      have N30 := Fr.app N29 N30q
      refine own_go (A' := (T30.setTop (mkF m 62 #[.val (.ref a0_), .val (.double d1), .second, .val (.double d2), .second, .val (.double d3), .second, .val (.double d4), .second, .val (.ref it), .val (.double (dv n)), .second] [(.int (1 : Int32))]))) (fun _ k => st30 _ k) ?_
      refine own_go (A' := (T30.setTop (mkF m 80 #[.val (.ref a0_), .val (.double d1), .second, .val (.double d2), .second, .val (.double d3), .second, .val (.double d4), .second, .val (.ref it), .val (.double (dv n)), .second] []))) (fun _ k => XS.ifYes X30.here hx rfl (pc0 := 62) (pc' := 80) rfl (hb hby own_d1_62) rfl ((if0 _ _).trans (feq (by decide : ¬ (1 : Int32) = 0)).2) (by decide) (by decide) k) ?_
      refine own_go (A' := (T30.setTop (mkF m 32 #[.val (.ref a0_), .val (.double d1), .second, .val (.double d2), .second, .val (.double d3), .second, .val (.double d4), .second, .val (.ref it), .val (.double (dv n)), .second] []))) (fun _ k => XS.goto X30.here hx rfl (pc0 := 80) (pc' := 32) rfl (hb hby own_d1_80) (by decide) (by decide) k) ?_
      have hc1 : (c_ + 1).toInt = ((n + 1 : Nat) : Int) := by rw [Int32.toInt_add, hc, show (1 : Int32).toInt = 1 from rfl, Int.bmod_eq_of_le (by omega) (by omega)]; omega
      exact ih (n + 1) (c_ + 1) _ _ _ _ _ X30 N30 hh30 K_a E_a F_a E_i' F_c' F_s' F_l' E_l F_e Ar E_d F_d hc1 (by omega) (Or.inr ⟨_, rfl, rfl⟩)
  refine own_go (A' := (s₁.setTop (mkF m 1 #[.val (.ref a0_), .val (.double d1), .second, .val (.double d2), .second, .val (.double d3), .second, .val (.double d4), .second, .unset, .unset, .unset] [(.ref a0_)]))) (fun _ k => XS.aloadN X0.here hx rfl (hb hby own_d1_0) rfl rfl k) ?_
  obtain ⟨_, _, ⟨T31, L31, k31, n31⟩, -, X31, ⟨Lc31, hQ31, l31, y31, z31⟩, st31⟩ := X0.specialBack hx (y := (⟨"java/lang/Record", "<init>", "()V"⟩ : MethodName)) rfl hown (mvT hZ (hw _ (List.mem_of_getElem? (i := 7) rfl))) (mvT hZ (hw _ (List.mem_of_getElem? (i := 8) rfl))) (mvT hZ (hw _ (List.mem_of_getElem? (i := 11) rfl))) (by decide) (backOf (W := 0) (own_record l Z a0 hw [] a0_ h0 n0 Z0) hZ (hw _ (List.mem_of_getElem? (i := 11) rfl)) (hw _ (List.mem_of_getElem? (i := 10) rfl)) (by decide) (by decide)) (g := (mkF m 1 #[.val (.ref a0_), .val (.double d1), .second, .val (.double d2), .second, .val (.double d3), .second, .val (.double d4), .second, .unset, .unset, .unset] [(.ref a0_)])) rfl (by rw [hml]; rfl) (Steps.refl _) (a := a0_) (argsL := []) (rest := []) (lenOf own_pd0 rfl) rfl (by show 2 * 0 + _ ≤ _; exact Nat.le_of_eq rfl) (hb hby own_d1_1) (fun _ _ => ⟨rfl, e0, (by decide : 0 + 0 ≤ _), (by decide : 0 + 0 ≤ _)⟩)
  dsimp only [Pt.U, Pt.locs, Pt.cells, Pt.slots] at X31 l31 y31 z31 st31 hQ31
  subst l31 y31 z31
  obtain ⟨rfl, N31q, hh31⟩ := hQ31
  have N31 := Fr.app N0 N31q
  refine own_go (A' := (T31.setTop (mkF m 4 #[.val (.ref a0_), .val (.double d1), .second, .val (.double d2), .second, .val (.double d3), .second, .val (.double d4), .second, .unset, .unset, .unset] []))) (fun _ k => st31.trans k) ?_
  have K_a : Keep h0 h0 [a0_] := Keep.refl _ _
  have Zs := Z0
  refine own_go (A' := (T31.setTop (mkF m 5 #[.val (.ref a0_), .val (.double d1), .second, .val (.double d2), .second, .val (.double d3), .second, .val (.double d4), .second, .unset, .unset, .unset] [(.double d1)]))) (fun _ k => XS.dloadN X31.here hx rfl (hb hby own_d1_4) rfl k) ?_
  obtain ⟨_, _, ⟨T32, L32, k32, n32⟩, -, X32, ⟨Lc32, hQ32, l32, y32, z32⟩, st32⟩ := Jvm.LawKit.callS X31 hx (y := (⟨"java/lang/Double", "valueOf", "(D)Ljava/lang/Double;"⟩ : MethodName)) hown (mvT hZ (hw _ (List.mem_of_getElem? (i := 15) rfl))) (mvT hZ (hw _ (List.mem_of_getElem? (i := 16) rfl))) (mvT hZ (hw _ (List.mem_of_getElem? (i := 17) rfl))) (mvT hZ (hw _ (List.mem_of_getElem? (i := 18) rfl))) (by decide) (backOf (W := 0) (own_dvalueOf l Z a0 hw [] d1 h0 n0 Zs) hZ (hw _ (List.mem_of_getElem? (i := 18) rfl)) (hw _ (List.mem_of_getElem? (i := 17) rfl)) (by decide) (by decide)) (g := (mkF m 5 #[.val (.ref a0_), .val (.double d1), .second, .val (.double d2), .second, .val (.double d3), .second, .val (.double d4), .second, .unset, .unset, .unset] [(.double d1)])) rfl (by rw [hml]; rfl) (argsL := [(.double d1)]) (rest := []) (lenOf own_pd13 rfl) rfl (by show 2 * 0 + _ ≤ _; exact Nat.le_of_eq rfl) (hb hby own_d1_5) (fun _ _ => ⟨rfl, hh31, (by decide : 0 + 1 ≤ _), (by decide : 0 + 1 ≤ _)⟩)
  dsimp only [Pt.U, Pt.locs, Pt.cells, Pt.slots] at X32 l32 y32 z32 st32 hQ32
  subst l32 y32 z32
  obtain ⟨o32, rfl, N32q, K32, Eo0, Fo0, so0⟩ := hQ32
  have N32 := Fr.app N31 N32q
  refine own_go (A' := (T32.setTop (mkF m 8 #[.val (.ref a0_), .val (.double d1), .second, .val (.double d2), .second, .val (.double d3), .second, .val (.double d4), .second, .unset, .unset, .unset] [(.ref o32)]))) (fun _ k => st32 _ k) ?_
  have E_a := E_a.keep K32
  have F_a := F_a.keep K32 nin0
  have S1 := own_sta_keep S1 K32
  have so0 := Nat.le_trans K_a.1 so0
  have K_a := K_a.trans K32 all0
  have Zs : n0 ≤ T32.heap.size := Nat.le_trans Zs K32.1
  refine own_go (A' := (T32.setTop (mkF m 9 #[.val (.ref a0_), .val (.double d1), .second, .val (.double d2), .second, .val (.double d3), .second, .val (.double d4), .second, .unset, .unset, .unset] [(.double d2), (.ref o32)]))) (fun _ k => XS.dloadN X32.here hx rfl (hb hby own_d1_8) rfl k) ?_
  obtain ⟨_, _, ⟨T33, L33, k33, n33⟩, -, X33, ⟨Lc33, hQ33, l33, y33, z33⟩, st33⟩ := Jvm.LawKit.callS X32 hx (y := (⟨"java/lang/Double", "valueOf", "(D)Ljava/lang/Double;"⟩ : MethodName)) hown (mvT hZ (hw _ (List.mem_of_getElem? (i := 15) rfl))) (mvT hZ (hw _ (List.mem_of_getElem? (i := 16) rfl))) (mvT hZ (hw _ (List.mem_of_getElem? (i := 17) rfl))) (mvT hZ (hw _ (List.mem_of_getElem? (i := 18) rfl))) (by decide) (backOf (W := 1) (own_dvalueOf l Z a0 hw [] d2 T32.heap n0 Zs) hZ (hw _ (List.mem_of_getElem? (i := 18) rfl)) (hw _ (List.mem_of_getElem? (i := 17) rfl)) (by decide) (by decide)) (g := (mkF m 9 #[.val (.ref a0_), .val (.double d1), .second, .val (.double d2), .second, .val (.double d3), .second, .val (.double d4), .second, .unset, .unset, .unset] [(.double d2), (.ref o32)])) rfl (by rw [hml]; rfl) (argsL := [(.double d2)]) (rest := [(.ref o32)]) (lenOf own_pd13 rfl) rfl (by show 2 * 0 + _ ≤ _; exact Nat.le_of_eq rfl) (hb hby own_d1_9) (fun _ _ => ⟨rfl, rfl, (by decide : 1 + 1 ≤ _), (by decide : 1 + 1 ≤ _)⟩)
  dsimp only [Pt.U, Pt.locs, Pt.cells, Pt.slots] at X33 l33 y33 z33 st33 hQ33
  subst l33 y33 z33
  obtain ⟨o33, rfl, N33q, K33, Eo1, Fo1, so1⟩ := hQ33
  have N33 := Fr.app N32 N33q
  refine own_go (A' := (T33.setTop (mkF m 12 #[.val (.ref a0_), .val (.double d1), .second, .val (.double d2), .second, .val (.double d3), .second, .val (.double d4), .second, .unset, .unset, .unset] [(.ref o33), (.ref o32)]))) (fun _ k => st33 _ k) ?_
  have E_a := E_a.keep K33
  have F_a := F_a.keep K33 nin0
  have S1 := own_sta_keep S1 K33
  have so1 := Nat.le_trans K_a.1 so1
  have K_a := K_a.trans K33 all0
  have Zs : n0 ≤ T33.heap.size := Nat.le_trans Zs K33.1
  have Eo0 := Eo0.keep K33
  have Fo0 := Fo0.keep K33 nin0
  refine own_go (A' := (T33.setTop (mkF m 14 #[.val (.ref a0_), .val (.double d1), .second, .val (.double d2), .second, .val (.double d3), .second, .val (.double d4), .second, .unset, .unset, .unset] [(.double d3), (.ref o33), (.ref o32)]))) (fun _ k => XS.dload X33.here hx rfl (hb hby own_d1_12) rfl k) ?_
  obtain ⟨_, _, ⟨T34, L34, k34, n34⟩, -, X34, ⟨Lc34, hQ34, l34, y34, z34⟩, st34⟩ := Jvm.LawKit.callS X33 hx (y := (⟨"java/lang/Double", "valueOf", "(D)Ljava/lang/Double;"⟩ : MethodName)) hown (mvT hZ (hw _ (List.mem_of_getElem? (i := 15) rfl))) (mvT hZ (hw _ (List.mem_of_getElem? (i := 16) rfl))) (mvT hZ (hw _ (List.mem_of_getElem? (i := 17) rfl))) (mvT hZ (hw _ (List.mem_of_getElem? (i := 18) rfl))) (by decide) (backOf (W := 2) (own_dvalueOf l Z a0 hw [] d3 T33.heap n0 Zs) hZ (hw _ (List.mem_of_getElem? (i := 18) rfl)) (hw _ (List.mem_of_getElem? (i := 17) rfl)) (by decide) (by decide)) (g := (mkF m 14 #[.val (.ref a0_), .val (.double d1), .second, .val (.double d2), .second, .val (.double d3), .second, .val (.double d4), .second, .unset, .unset, .unset] [(.double d3), (.ref o33), (.ref o32)])) rfl (by rw [hml]; rfl) (argsL := [(.double d3)]) (rest := [(.ref o33), (.ref o32)]) (lenOf own_pd13 rfl) rfl (by show 2 * 0 + _ ≤ _; exact Nat.le_of_eq rfl) (hb hby own_d1_14) (fun _ _ => ⟨rfl, rfl, (by decide : 2 + 1 ≤ _), (by decide : 2 + 1 ≤ _)⟩)
  dsimp only [Pt.U, Pt.locs, Pt.cells, Pt.slots] at X34 l34 y34 z34 st34 hQ34
  subst l34 y34 z34
  obtain ⟨o34, rfl, N34q, K34, Eo2, Fo2, so2⟩ := hQ34
  have N34 := Fr.app N33 N34q
  refine own_go (A' := (T34.setTop (mkF m 17 #[.val (.ref a0_), .val (.double d1), .second, .val (.double d2), .second, .val (.double d3), .second, .val (.double d4), .second, .unset, .unset, .unset] [(.ref o34), (.ref o33), (.ref o32)]))) (fun _ k => st34 _ k) ?_
  have E_a := E_a.keep K34
  have F_a := F_a.keep K34 nin0
  have S1 := own_sta_keep S1 K34
  have so2 := Nat.le_trans K_a.1 so2
  have K_a := K_a.trans K34 all0
  have Zs : n0 ≤ T34.heap.size := Nat.le_trans Zs K34.1
  have Eo0 := Eo0.keep K34
  have Fo0 := Fo0.keep K34 nin0
  have Eo1 := Eo1.keep K34
  have Fo1 := Fo1.keep K34 nin0
  refine own_go (A' := (T34.setTop (mkF m 19 #[.val (.ref a0_), .val (.double d1), .second, .val (.double d2), .second, .val (.double d3), .second, .val (.double d4), .second, .unset, .unset, .unset] [(.double d4), (.ref o34), (.ref o33), (.ref o32)]))) (fun _ k => XS.dload X34.here hx rfl (hb hby own_d1_17) rfl k) ?_
  obtain ⟨_, _, ⟨T35, L35, k35, n35⟩, -, X35, ⟨Lc35, hQ35, l35, y35, z35⟩, st35⟩ := Jvm.LawKit.callS X34 hx (y := (⟨"java/lang/Double", "valueOf", "(D)Ljava/lang/Double;"⟩ : MethodName)) hown (mvT hZ (hw _ (List.mem_of_getElem? (i := 15) rfl))) (mvT hZ (hw _ (List.mem_of_getElem? (i := 16) rfl))) (mvT hZ (hw _ (List.mem_of_getElem? (i := 17) rfl))) (mvT hZ (hw _ (List.mem_of_getElem? (i := 18) rfl))) (by decide) (backOf (W := 3) (own_dvalueOf l Z a0 hw [] d4 T34.heap n0 Zs) hZ (hw _ (List.mem_of_getElem? (i := 18) rfl)) (hw _ (List.mem_of_getElem? (i := 17) rfl)) (by decide) (by decide)) (g := (mkF m 19 #[.val (.ref a0_), .val (.double d1), .second, .val (.double d2), .second, .val (.double d3), .second, .val (.double d4), .second, .unset, .unset, .unset] [(.double d4), (.ref o34), (.ref o33), (.ref o32)])) rfl (by rw [hml]; rfl) (argsL := [(.double d4)]) (rest := [(.ref o34), (.ref o33), (.ref o32)]) (lenOf own_pd13 rfl) rfl (by show 2 * 0 + _ ≤ _; exact Nat.le_of_eq rfl) (hb hby own_d1_19) (fun _ _ => ⟨rfl, rfl, (by decide : 3 + 1 ≤ _), (by decide : 3 + 1 ≤ _)⟩)
  dsimp only [Pt.U, Pt.locs, Pt.cells, Pt.slots] at X35 l35 y35 z35 st35 hQ35
  subst l35 y35 z35
  obtain ⟨o35, rfl, N35q, K35, Eo3, Fo3, so3⟩ := hQ35
  have N35 := Fr.app N34 N35q
  refine own_go (A' := (T35.setTop (mkF m 22 #[.val (.ref a0_), .val (.double d1), .second, .val (.double d2), .second, .val (.double d3), .second, .val (.double d4), .second, .unset, .unset, .unset] [(.ref o35), (.ref o34), (.ref o33), (.ref o32)]))) (fun _ k => st35 _ k) ?_
  have E_a := E_a.keep K35
  have F_a := F_a.keep K35 nin0
  have S1 := own_sta_keep S1 K35
  have so3 := Nat.le_trans K_a.1 so3
  have K_a := K_a.trans K35 all0
  have Zs : n0 ≤ T35.heap.size := Nat.le_trans Zs K35.1
  have Eo0 := Eo0.keep K35
  have Fo0 := Fo0.keep K35 nin0
  have Eo1 := Eo1.keep K35
  have Fo1 := Fo1.keep K35 nin0
  have Eo2 := Eo2.keep K35
  have Fo2 := Fo2.keep K35 nin0
  obtain ⟨_, _, ⟨T36, L36, k36, n36⟩, -, X36, ⟨Lc36, hQ36, l36, y36, z36⟩, st36⟩ := Jvm.LawKit.callS X35 hx (y := (⟨"java/util/List", "of", "(Ljava/lang/Object;Ljava/lang/Object;Ljava/lang/Object;Ljava/lang/Object;)Ljava/util/List;"⟩ : MethodName)) hown (mvT hZ (hw _ (List.mem_of_getElem? (i := 34) rfl))) (mvT hZ (hw _ (List.mem_of_getElem? (i := 35) rfl))) (mvT hZ (hw _ (List.mem_of_getElem? (i := 36) rfl))) (mvT hZ (hw _ (List.mem_of_getElem? (i := 37) rfl))) (by decide) (backOf (W := 0) (own_lof l Z a0 hw [] o32 o33 o34 o35 T35.heap n0 Zs Eo0 Eo1 Eo2 Eo3 S1) hZ (hw _ (List.mem_of_getElem? (i := 37) rfl)) (hw _ (List.mem_of_getElem? (i := 36) rfl)) (by decide) (by decide)) (g := (mkF m 22 #[.val (.ref a0_), .val (.double d1), .second, .val (.double d2), .second, .val (.double d3), .second, .val (.double d4), .second, .unset, .unset, .unset] [(.ref o35), (.ref o34), (.ref o33), (.ref o32)])) rfl (by rw [hml]; rfl) (argsL := [(.ref o32), (.ref o33), (.ref o34), (.ref o35)]) (rest := []) (lenOf own_pd14 rfl) rfl (by show 2 * 0 + _ ≤ _; exact Nat.le_of_eq rfl) (hb hby own_d1_22) (fun _ _ => ⟨rfl, rfl, (by decide : 4 + 2 ≤ _), (by decide : 4 + 6 ≤ _)⟩)
  dsimp only [Pt.U, Pt.locs, Pt.cells, Pt.slots] at X36 l36 y36 z36 st36 hQ36
  subst l36 y36 z36
  obtain ⟨ln, arr, rfl, N36q, K36, E_l, F_e, Ar, sln, sarr⟩ := hQ36
  have N36 := Fr.app N35 N36q
  refine own_go (A' := (T36.setTop (mkF m 25 #[.val (.ref a0_), .val (.double d1), .second, .val (.double d2), .second, .val (.double d3), .second, .val (.double d4), .second, .unset, .unset, .unset] [(.ref ln)]))) (fun _ k => st36 _ k) ?_
  have F_a := F_a.keep K36 nin0
  have Fo0 := Fo0.keep K36 nin0
  have Fo1 := Fo1.keep K36 nin0
  have Fo2 := Fo2.keep K36 nin0
  have Fo3 := Fo3.keep K36 nin0
  have E_a := E_a.keep K36
  have Eo0 := Eo0.keep K36
  have Eo1 := Eo1.keep K36
  have Eo2 := Eo2.keep K36
  have Eo3 := Eo3.keep K36
  have K_a := K_a.trans K36 all0
  have Zs : n0 ≤ T36.heap.size := Nat.le_trans Zs K36.1
  obtain ⟨cq37, kq37, q37a, q37b, q37c⟩ := isOf hZ rfl E_l
  obtain ⟨_, _, ⟨T37, L37, k37, n37⟩, -, X37, ⟨Lc37, hQ37, l37, y37, z37⟩, st37⟩ := X36.interfaceBack hx (xi := (⟨"java/util/List", "iterator", "()Ljava/util/Iterator;"⟩ : MethodName)) (y := (⟨"java/util/ImmutableCollections$AbstractImmutableList", "iterator", "()Ljava/util/Iterator;"⟩ : MethodName)) hown (mvT hZ (hw _ (List.mem_of_getElem? (i := 80) rfl))) (mvT hZ (hw _ (List.mem_of_getElem? (i := 81) rfl))) (mvT hZ (hw _ (List.mem_of_getElem? (i := 82) rfl))) (mvT hZ (hw _ (List.mem_of_getElem? (i := 83) rfl))) (mvT hZ (hw _ (List.mem_of_getElem? (i := 84) rfl))) (mvT hZ (hw _ (List.mem_of_getElem? (i := 85) rfl))) (mvT hZ (hw _ (List.mem_of_getElem? (i := 86) rfl))) (mvT hZ (hw _ (List.mem_of_getElem? (i := 87) rfl))) (by decide) (backOf (W := 0) (own_iter l Z a0 hw [] ln arr _ T36.heap n0 Zs E_l F_e Ar) hZ (hw _ (List.mem_of_getElem? (i := 88) rfl)) (hw _ (List.mem_of_getElem? (i := 61) rfl)) (by decide) (by decide)) q37a q37b q37c (g := (mkF m 25 #[.val (.ref a0_), .val (.double d1), .second, .val (.double d2), .second, .val (.double d3), .second, .val (.double d4), .second, .unset, .unset, .unset] [(.ref ln)])) rfl (by rw [hml]; rfl) (Steps.refl _) (argsL := []) (rest := []) (lenOf own_pd15 rfl) rfl (by show 2 * 0 + _ ≤ _; exact Nat.le_of_eq rfl) (hb hby own_d1_25) (fun _ _ => ⟨rfl, rfl, (by decide : 6 + 1 ≤ _), (by decide : 10 + 4 ≤ _)⟩)
  dsimp only [Pt.U, Pt.locs, Pt.cells, Pt.slots] at X37 l37 y37 z37 st37 hQ37
  subst l37 y37 z37
  obtain ⟨it, rfl, N37q, K37, E_i, F_l, F_s, F_c, sit⟩ := hQ37
  have N37 := Fr.app N36 N37q
  refine own_go (A' := (T37.setTop (mkF m 30 #[.val (.ref a0_), .val (.double d1), .second, .val (.double d2), .second, .val (.double d3), .second, .val (.double d4), .second, .unset, .unset, .unset] [(.ref it)]))) (fun _ k => st37.trans k) ?_
  have ne_a : a0_ ≠ it := Nat.ne_of_lt (Nat.lt_of_lt_of_le E_a.lt sit)
  have ne_l : ln ≠ it := Nat.ne_of_lt (Nat.lt_of_lt_of_le E_l.lt sit)
  have ne_r : arr ≠ it := Nat.ne_of_lt (Nat.lt_of_lt_of_le Ar.lt sit)
  have ne_0 : o32 ≠ it := Nat.ne_of_lt (Nat.lt_of_lt_of_le Eo0.lt sit)
  have ne_1 : o33 ≠ it := Nat.ne_of_lt (Nat.lt_of_lt_of_le Eo1.lt sit)
  have ne_2 : o34 ≠ it := Nat.ne_of_lt (Nat.lt_of_lt_of_le Eo2.lt sit)
  have ne_3 : o35 ≠ it := Nat.ne_of_lt (Nat.lt_of_lt_of_le Eo3.lt sit)
  have hsz_it : h0.size ≤ it := Nat.le_trans K_a.1 sit
  have g_it : n0 ≤ it := Nat.le_trans Z0 hsz_it
  have F_a := F_a.keep K37 nin0
  have Fo0 := Fo0.keep K37 nin0
  have Fo1 := Fo1.keep K37 nin0
  have Fo2 := Fo2.keep K37 nin0
  have Fo3 := Fo3.keep K37 nin0
  have F_e := F_e.keep K37 nin0
  have E_a := E_a.keep K37
  have Eo0 := Eo0.keep K37
  have Eo1 := Eo1.keep K37
  have Eo2 := Eo2.keep K37
  have Eo3 := Eo3.keep K37
  have E_l := E_l.keep K37
  have Ar := Ar.keep K37 nin0
  have K_a := K_a.trans K37 all0
  refine own_go (A' := (T37.setTop (mkF m 32 #[.val (.ref a0_), .val (.double d1), .second, .val (.double d2), .second, .val (.double d3), .second, .val (.double d4), .second, .val (.ref it), .unset, .unset] []))) (fun _ k => XS.astore X37.here hx rfl (hb hby own_d1_30) rfl rfl (l' := #[.val (.ref a0_), .val (.double d1), .second, .val (.double d2), .second, .val (.double d3), .second, .val (.double d4), .second, .val (.ref it), .unset, .unset]) rfl k) ?_
  exact LOOP it ln arr (own_four o32 o33 o34 o35) (own_four d1 d2 d3 d4) (own_four_all (P := fun _ d => ∃ u, own_Is d u) ⟨_, H1⟩ ⟨_, H2⟩ ⟨_, H3⟩ ⟨_, H4⟩) g_it hsz_it ne_a ne_l ne_r (own_four_all (P := fun _ q => q ≠ it) ne_0 ne_1 ne_2 ne_3) 4 0 0 _ _ _ _ _ X37 N37 rfl K_a E_a F_a E_i F_c F_s F_l E_l F_e Ar
    (own_four_all (P := fun _ q => Exa Z _ q "java/lang/Double") Eo0 Eo1 Eo2 Eo3) (fun j hj => by
      have : j = 0 ∨ j = 1 ∨ j = 2 ∨ j = 3 := by omega
      rcases this with rfl | rfl | rfl | rfl
      · exact Fo0
      · exact Fo1
      · exact Fo2
      · exact Fo3) rfl rfl (Or.inl ⟨rfl, rfl⟩)
theorem own_ef_own_rm0 (m : MethodId) (p1 : Int32) (p2 : Int32) (p3 : Int32) (p4 : Int32) (p5 : Int32) (p6 : Int32) : entryFrame m #[(.int p1), (.int p2), (.int p3), (.int p4), (.int p5), (.int p6)] maxLocals = mkF m 0 #[.val (.int p1), .val (.int p2), .val (.int p3), .val (.int p4), .val (.int p5), .val (.int p6), .unset, .unset, .unset, .unset, .unset, .unset, .unset, .unset, .unset, .unset, .unset, .unset, .unset, .unset, .unset, .unset, .unset, .unset, .unset, .unset] [] := by first | (simp [entryFrame, mkF, argsToLocals, Value.category, maxLocals]; done) | rfl
def own_Q_own_rm0 (Z : State) (p1 : Int32) (p2 : Int32) (p3 : Int32) (p4 : Int32) (p5 : Int32) (p6 : Int32) (h0 : Heap) (n0 : Nat) (v : Option Value) (h : Heap) (L : List Loc) : Prop := v = some (.int 1) ∧ Fr n0 L
set_option maxRecDepth 65536 in
set_option maxHeartbeats 40000000 in
theorem own_rm0 (l : Launch) (Z : State) (a0 : Array Value) (hw : ∀ d ∈ tables_1, d.before a0 Z = true) (ws : List Jvm.Cond) (p1 : Int32) (p2 : Int32) (p3 : Int32) (p4 : Int32) (p5 : Int32) (p6 : Int32) (h0 : Heap) (n0 : Nat) (Z0 : n0 ≤ h0.size) (S1 : Sta Z h0 "java/util/ImmutableCollections" "$assertionsDisabled" "Z" (.int 1)) :
    MetFree l x (head1 (Jvm.Cond.code x code maxLocals ret :: ws) room_1) (fun a U => a = #[(.int p1), (.int p2), (.int p3), (.int p4), (.int p5), (.int p6)] ∧ Z.Warmed39 U.vm ∧ U.heap = h0) (fun _ _ _ _ _ => True) (fun _ U o U' => ∃ v L, o = .returned v ∧ own_Q_own_rm0 Z p1 p2 p3 p4 p5 p6 h0 n0 v U'.heap L ∧ FrameEnd U o U' L room_1.cells room_1.slots) := by
  refine MetFree.of_bodySF (plainFor_of_name own_pn0) hisR ?_
  intro p e s m args below meth c s₁ Bd hml0 hP hK
  obtain ⟨rfl, hZ, hh⟩ := hP
  have hx := Bd.exec
  have hby := Bd.bytes
  have hml : c.maxLocals = 26 := hml0
  have hown : s.vm.findClass "com/example/cairntree/cairntree/WindowContainsPinLaw" = some m.cls := findClass_of_methodNamed Bd.named
  have hnm := (name_of_methodNamed Bd.named Bd.method).1
  have X0 : Stand p l e room_1 s m #[(.int p1), (.int p2), (.int p3), (.int p4), (.int p5), (.int p6)] below meth c s₁ [] 0 0 := Stand.of_body Bd
  have e0 : s₁.heap = h0 := by rw [← hh, Bd.state]; rfl
  have N0 := Fr.nil n0
  refine own_open ?_
  intro R hR
  rw [own_ef_own_rm0 m p1 p2 p3 p4 p5 p6]
  show own_W p e below R (s₁.setTop (mkF m 0 #[.val (.int p1), .val (.int p2), .val (.int p3), .val (.int p4), .val (.int p5), .val (.int p6), .unset, .unset, .unset, .unset, .unset, .unset, .unset, .unset, .unset, .unset, .unset, .unset, .unset, .unset, .unset, .unset, .unset, .unset, .unset, .unset] []))
  have k3 := own_mask_bd p3 2147483647 31 (by decide) (by decide)
  have k4 := own_mask_bd p4 2147483647 31 (by decide) (by decide)
  have l1 := own_i32_lo p1
  have u1 := own_i32_hi p1
  have t1 := own_i2l p1
  have l2 := own_i32_lo p2
  have u2 := own_i32_hi p2
  have t2 := own_i2l p2
  have l5 := own_i32_lo p5
  have u5 := own_i32_hi p5
  have t5 := own_i2l p5
  have l6 := own_i32_lo p6
  have u6 := own_i32_hi p6
  have t6 := own_i2l p6
  have t3 := own_i2l (p3 &&& 2147483647)
  have t4 := own_i2l (p4 &&& 2147483647)
  have ex : (p1.toInt64 + (p3 &&& 2147483647).toInt64).toInt = p1.toInt + (p3 &&& 2147483647).toInt := by rw [Jvm.FP.Core.int64_add (by rw [t1, t3]; omega) (by rw [t1, t3]; omega), t1, t3]
  have ey : (p2.toInt64 + (p4 &&& 2147483647).toInt64).toInt = p2.toInt + (p4 &&& 2147483647).toInt := by rw [Jvm.FP.Core.int64_add (by rw [t2, t4]; omega) (by rw [t2, t4]; omega), t2, t4]
  have edx : (p5.toInt64 - p1.toInt64).toInt = p5.toInt - p1.toInt := by rw [Jvm.FP.Core.int64_sub (by rw [t5, t1]; omega) (by rw [t5, t1]; omega), t5, t1]
  have edy : (p6.toInt64 - p2.toInt64).toInt = p6.toInt - p2.toInt := by rw [Jvm.FP.Core.int64_sub (by rw [t6, t2]; omega) (by rw [t6, t2]; omega), t6, t2]
  have H1 : own_At 1074 (FP.l2d p1.toInt64) p1.toInt := (own_l2d _ (by rw [t1]; omega)).cast t1
  have H2 : own_At 1074 (FP.l2d p2.toInt64) p2.toInt := (own_l2d _ (by rw [t2]; omega)).cast t2
  have H3 : own_At 1074 (FP.l2d (p1.toInt64 + (p3 &&& 2147483647).toInt64)) (p1.toInt + (p3 &&& 2147483647).toInt) := (own_l2d _ (by rw [ex]; omega)).cast ex
  have H4 : own_At 1074 (FP.l2d (p2.toInt64 + (p4 &&& 2147483647).toInt64)) (p2.toInt + (p4 &&& 2147483647).toInt) := (own_l2d _ (by rw [ey]; omega)).cast ey
  refine own_go (A' := (s₁.setTop (mkF m 1 #[.val (.int p1), .val (.int p2), .val (.int p3), .val (.int p4), .val (.int p5), .val (.int p6), .unset, .unset, .unset, .unset, .unset, .unset, .unset, .unset, .unset, .unset, .unset, .unset, .unset, .unset, .unset, .unset, .unset, .unset, .unset, .unset] [(.int p1)]))) (fun _ k => XS.iloadN X0.here hx rfl (hb hby at_0) rfl k) ?_
  refine own_go (A' := (s₁.setTop (mkF m 2 #[.val (.int p1), .val (.int p2), .val (.int p3), .val (.int p4), .val (.int p5), .val (.int p6), .unset, .unset, .unset, .unset, .unset, .unset, .unset, .unset, .unset, .unset, .unset, .unset, .unset, .unset, .unset, .unset, .unset, .unset, .unset, .unset] [(.long (p1.toInt64))]))) (fun _ k => XS.i2l X0.here hx rfl (hb hby at_1) rfl k) ?_
  refine own_go (A' := (s₁.setTop (mkF m 4 #[.val (.int p1), .val (.int p2), .val (.int p3), .val (.int p4), .val (.int p5), .val (.int p6), .val (.long (p1.toInt64)), .second, .unset, .unset, .unset, .unset, .unset, .unset, .unset, .unset, .unset, .unset, .unset, .unset, .unset, .unset, .unset, .unset, .unset, .unset] []))) (fun _ k => XS.lstore X0.here hx rfl (hb hby at_2) rfl (l' := #[.val (.int p1), .val (.int p2), .val (.int p3), .val (.int p4), .val (.int p5), .val (.int p6), .val (.long (p1.toInt64)), .second, .unset, .unset, .unset, .unset, .unset, .unset, .unset, .unset, .unset, .unset, .unset, .unset, .unset, .unset, .unset, .unset, .unset, .unset]) rfl k) ?_
  refine own_go (A' := (s₁.setTop (mkF m 5 #[.val (.int p1), .val (.int p2), .val (.int p3), .val (.int p4), .val (.int p5), .val (.int p6), .val (.long (p1.toInt64)), .second, .unset, .unset, .unset, .unset, .unset, .unset, .unset, .unset, .unset, .unset, .unset, .unset, .unset, .unset, .unset, .unset, .unset, .unset] [(.int p2)]))) (fun _ k => XS.iloadN X0.here hx rfl (hb hby at_4) rfl k) ?_
  refine own_go (A' := (s₁.setTop (mkF m 6 #[.val (.int p1), .val (.int p2), .val (.int p3), .val (.int p4), .val (.int p5), .val (.int p6), .val (.long (p1.toInt64)), .second, .unset, .unset, .unset, .unset, .unset, .unset, .unset, .unset, .unset, .unset, .unset, .unset, .unset, .unset, .unset, .unset, .unset, .unset] [(.long (p2.toInt64))]))) (fun _ k => XS.i2l X0.here hx rfl (hb hby at_5) rfl k) ?_
  refine own_go (A' := (s₁.setTop (mkF m 8 #[.val (.int p1), .val (.int p2), .val (.int p3), .val (.int p4), .val (.int p5), .val (.int p6), .val (.long (p1.toInt64)), .second, .val (.long (p2.toInt64)), .second, .unset, .unset, .unset, .unset, .unset, .unset, .unset, .unset, .unset, .unset, .unset, .unset, .unset, .unset, .unset, .unset] []))) (fun _ k => XS.lstore X0.here hx rfl (hb hby at_6) rfl (l' := #[.val (.int p1), .val (.int p2), .val (.int p3), .val (.int p4), .val (.int p5), .val (.int p6), .val (.long (p1.toInt64)), .second, .val (.long (p2.toInt64)), .second, .unset, .unset, .unset, .unset, .unset, .unset, .unset, .unset, .unset, .unset, .unset, .unset, .unset, .unset, .unset, .unset]) rfl k) ?_
  refine own_go (A' := (s₁.setTop (mkF m 9 #[.val (.int p1), .val (.int p2), .val (.int p3), .val (.int p4), .val (.int p5), .val (.int p6), .val (.long (p1.toInt64)), .second, .val (.long (p2.toInt64)), .second, .unset, .unset, .unset, .unset, .unset, .unset, .unset, .unset, .unset, .unset, .unset, .unset, .unset, .unset, .unset, .unset] [(.int p3)]))) (fun _ k => XS.iloadN X0.here hx rfl (hb hby at_8) rfl k) ?_
  refine own_go (A' := (s₁.setTop (mkF m 11 #[.val (.int p1), .val (.int p2), .val (.int p3), .val (.int p4), .val (.int p5), .val (.int p6), .val (.long (p1.toInt64)), .second, .val (.long (p2.toInt64)), .second, .unset, .unset, .unset, .unset, .unset, .unset, .unset, .unset, .unset, .unset, .unset, .unset, .unset, .unset, .unset, .unset] [(.int (2147483647 : Int32)), (.int p3)]))) (fun _ k => X0.ldcInt hx hown (mvT hZ (hw _ (List.mem_of_getElem? (i := 0) rfl))) (g := (mkF m 9 #[.val (.int p1), .val (.int p2), .val (.int p3), .val (.int p4), .val (.int p5), .val (.int p6), .val (.long (p1.toInt64)), .second, .val (.long (p2.toInt64)), .second, .unset, .unset, .unset, .unset, .unset, .unset, .unset, .unset, .unset, .unset, .unset, .unset, .unset, .unset, .unset, .unset] [(.int p3)])) rfl (hb hby at_9) _ k) ?_
  refine own_go (A' := (s₁.setTop (mkF m 12 #[.val (.int p1), .val (.int p2), .val (.int p3), .val (.int p4), .val (.int p5), .val (.int p6), .val (.long (p1.toInt64)), .second, .val (.long (p2.toInt64)), .second, .unset, .unset, .unset, .unset, .unset, .unset, .unset, .unset, .unset, .unset, .unset, .unset, .unset, .unset, .unset, .unset] [(.int (p3 &&& (2147483647 : Int32)))]))) (fun _ k => XS.iand X0.here hx rfl (hb hby at_11) rfl k) ?_
  refine own_go (A' := (s₁.setTop (mkF m 13 #[.val (.int p1), .val (.int p2), .val (.int p3), .val (.int p4), .val (.int p5), .val (.int p6), .val (.long (p1.toInt64)), .second, .val (.long (p2.toInt64)), .second, .unset, .unset, .unset, .unset, .unset, .unset, .unset, .unset, .unset, .unset, .unset, .unset, .unset, .unset, .unset, .unset] [(.long ((p3 &&& (2147483647 : Int32)).toInt64))]))) (fun _ k => XS.i2l X0.here hx rfl (hb hby at_12) rfl k) ?_
  refine own_go (A' := (s₁.setTop (mkF m 15 #[.val (.int p1), .val (.int p2), .val (.int p3), .val (.int p4), .val (.int p5), .val (.int p6), .val (.long (p1.toInt64)), .second, .val (.long (p2.toInt64)), .second, .val (.long ((p3 &&& (2147483647 : Int32)).toInt64)), .second, .unset, .unset, .unset, .unset, .unset, .unset, .unset, .unset, .unset, .unset, .unset, .unset, .unset, .unset] []))) (fun _ k => XS.lstore X0.here hx rfl (hb hby at_13) rfl (l' := #[.val (.int p1), .val (.int p2), .val (.int p3), .val (.int p4), .val (.int p5), .val (.int p6), .val (.long (p1.toInt64)), .second, .val (.long (p2.toInt64)), .second, .val (.long ((p3 &&& (2147483647 : Int32)).toInt64)), .second, .unset, .unset, .unset, .unset, .unset, .unset, .unset, .unset, .unset, .unset, .unset, .unset, .unset, .unset]) rfl k) ?_
  refine own_go (A' := (s₁.setTop (mkF m 16 #[.val (.int p1), .val (.int p2), .val (.int p3), .val (.int p4), .val (.int p5), .val (.int p6), .val (.long (p1.toInt64)), .second, .val (.long (p2.toInt64)), .second, .val (.long ((p3 &&& (2147483647 : Int32)).toInt64)), .second, .unset, .unset, .unset, .unset, .unset, .unset, .unset, .unset, .unset, .unset, .unset, .unset, .unset, .unset] [(.int p4)]))) (fun _ k => XS.iloadN X0.here hx rfl (hb hby at_15) rfl k) ?_
  refine own_go (A' := (s₁.setTop (mkF m 18 #[.val (.int p1), .val (.int p2), .val (.int p3), .val (.int p4), .val (.int p5), .val (.int p6), .val (.long (p1.toInt64)), .second, .val (.long (p2.toInt64)), .second, .val (.long ((p3 &&& (2147483647 : Int32)).toInt64)), .second, .unset, .unset, .unset, .unset, .unset, .unset, .unset, .unset, .unset, .unset, .unset, .unset, .unset, .unset] [(.int (2147483647 : Int32)), (.int p4)]))) (fun _ k => X0.ldcInt hx hown (mvT hZ (hw _ (List.mem_of_getElem? (i := 0) rfl))) (g := (mkF m 16 #[.val (.int p1), .val (.int p2), .val (.int p3), .val (.int p4), .val (.int p5), .val (.int p6), .val (.long (p1.toInt64)), .second, .val (.long (p2.toInt64)), .second, .val (.long ((p3 &&& (2147483647 : Int32)).toInt64)), .second, .unset, .unset, .unset, .unset, .unset, .unset, .unset, .unset, .unset, .unset, .unset, .unset, .unset, .unset] [(.int p4)])) rfl (hb hby at_16) _ k) ?_
  refine own_go (A' := (s₁.setTop (mkF m 19 #[.val (.int p1), .val (.int p2), .val (.int p3), .val (.int p4), .val (.int p5), .val (.int p6), .val (.long (p1.toInt64)), .second, .val (.long (p2.toInt64)), .second, .val (.long ((p3 &&& (2147483647 : Int32)).toInt64)), .second, .unset, .unset, .unset, .unset, .unset, .unset, .unset, .unset, .unset, .unset, .unset, .unset, .unset, .unset] [(.int (p4 &&& (2147483647 : Int32)))]))) (fun _ k => XS.iand X0.here hx rfl (hb hby at_18) rfl k) ?_
  refine own_go (A' := (s₁.setTop (mkF m 20 #[.val (.int p1), .val (.int p2), .val (.int p3), .val (.int p4), .val (.int p5), .val (.int p6), .val (.long (p1.toInt64)), .second, .val (.long (p2.toInt64)), .second, .val (.long ((p3 &&& (2147483647 : Int32)).toInt64)), .second, .unset, .unset, .unset, .unset, .unset, .unset, .unset, .unset, .unset, .unset, .unset, .unset, .unset, .unset] [(.long ((p4 &&& (2147483647 : Int32)).toInt64))]))) (fun _ k => XS.i2l X0.here hx rfl (hb hby at_19) rfl k) ?_
  refine own_go (A' := (s₁.setTop (mkF m 22 #[.val (.int p1), .val (.int p2), .val (.int p3), .val (.int p4), .val (.int p5), .val (.int p6), .val (.long (p1.toInt64)), .second, .val (.long (p2.toInt64)), .second, .val (.long ((p3 &&& (2147483647 : Int32)).toInt64)), .second, .val (.long ((p4 &&& (2147483647 : Int32)).toInt64)), .second, .unset, .unset, .unset, .unset, .unset, .unset, .unset, .unset, .unset, .unset, .unset, .unset] []))) (fun _ k => XS.lstore X0.here hx rfl (hb hby at_20) rfl (l' := #[.val (.int p1), .val (.int p2), .val (.int p3), .val (.int p4), .val (.int p5), .val (.int p6), .val (.long (p1.toInt64)), .second, .val (.long (p2.toInt64)), .second, .val (.long ((p3 &&& (2147483647 : Int32)).toInt64)), .second, .val (.long ((p4 &&& (2147483647 : Int32)).toInt64)), .second, .unset, .unset, .unset, .unset, .unset, .unset, .unset, .unset, .unset, .unset, .unset, .unset]) rfl k) ?_
  refine own_go (A' := (s₁.setTop (mkF m 24 #[.val (.int p1), .val (.int p2), .val (.int p3), .val (.int p4), .val (.int p5), .val (.int p6), .val (.long (p1.toInt64)), .second, .val (.long (p2.toInt64)), .second, .val (.long ((p3 &&& (2147483647 : Int32)).toInt64)), .second, .val (.long ((p4 &&& (2147483647 : Int32)).toInt64)), .second, .unset, .unset, .unset, .unset, .unset, .unset, .unset, .unset, .unset, .unset, .unset, .unset] [(.long (p1.toInt64))]))) (fun _ k => XS.lload X0.here hx rfl (hb hby at_22) rfl k) ?_
  refine own_go (A' := (s₁.setTop (mkF m 26 #[.val (.int p1), .val (.int p2), .val (.int p3), .val (.int p4), .val (.int p5), .val (.int p6), .val (.long (p1.toInt64)), .second, .val (.long (p2.toInt64)), .second, .val (.long ((p3 &&& (2147483647 : Int32)).toInt64)), .second, .val (.long ((p4 &&& (2147483647 : Int32)).toInt64)), .second, .unset, .unset, .unset, .unset, .unset, .unset, .unset, .unset, .unset, .unset, .unset, .unset] [(.long ((p3 &&& (2147483647 : Int32)).toInt64)), (.long (p1.toInt64))]))) (fun _ k => XS.lload X0.here hx rfl (hb hby at_24) rfl k) ?_
  refine own_go (A' := (s₁.setTop (mkF m 27 #[.val (.int p1), .val (.int p2), .val (.int p3), .val (.int p4), .val (.int p5), .val (.int p6), .val (.long (p1.toInt64)), .second, .val (.long (p2.toInt64)), .second, .val (.long ((p3 &&& (2147483647 : Int32)).toInt64)), .second, .val (.long ((p4 &&& (2147483647 : Int32)).toInt64)), .second, .unset, .unset, .unset, .unset, .unset, .unset, .unset, .unset, .unset, .unset, .unset, .unset] [(.long ((p1.toInt64) + ((p3 &&& (2147483647 : Int32)).toInt64)))]))) (fun _ k => XS.ladd X0.here hx rfl (hb hby at_26) rfl k) ?_
  refine own_go (A' := (s₁.setTop (mkF m 29 #[.val (.int p1), .val (.int p2), .val (.int p3), .val (.int p4), .val (.int p5), .val (.int p6), .val (.long (p1.toInt64)), .second, .val (.long (p2.toInt64)), .second, .val (.long ((p3 &&& (2147483647 : Int32)).toInt64)), .second, .val (.long ((p4 &&& (2147483647 : Int32)).toInt64)), .second, .val (.long ((p1.toInt64) + ((p3 &&& (2147483647 : Int32)).toInt64))), .second, .unset, .unset, .unset, .unset, .unset, .unset, .unset, .unset, .unset, .unset] []))) (fun _ k => XS.lstore X0.here hx rfl (hb hby at_27) rfl (l' := #[.val (.int p1), .val (.int p2), .val (.int p3), .val (.int p4), .val (.int p5), .val (.int p6), .val (.long (p1.toInt64)), .second, .val (.long (p2.toInt64)), .second, .val (.long ((p3 &&& (2147483647 : Int32)).toInt64)), .second, .val (.long ((p4 &&& (2147483647 : Int32)).toInt64)), .second, .val (.long ((p1.toInt64) + ((p3 &&& (2147483647 : Int32)).toInt64))), .second, .unset, .unset, .unset, .unset, .unset, .unset, .unset, .unset, .unset, .unset]) rfl k) ?_
  refine own_go (A' := (s₁.setTop (mkF m 31 #[.val (.int p1), .val (.int p2), .val (.int p3), .val (.int p4), .val (.int p5), .val (.int p6), .val (.long (p1.toInt64)), .second, .val (.long (p2.toInt64)), .second, .val (.long ((p3 &&& (2147483647 : Int32)).toInt64)), .second, .val (.long ((p4 &&& (2147483647 : Int32)).toInt64)), .second, .val (.long ((p1.toInt64) + ((p3 &&& (2147483647 : Int32)).toInt64))), .second, .unset, .unset, .unset, .unset, .unset, .unset, .unset, .unset, .unset, .unset] [(.long (p2.toInt64))]))) (fun _ k => XS.lload X0.here hx rfl (hb hby at_29) rfl k) ?_
  refine own_go (A' := (s₁.setTop (mkF m 33 #[.val (.int p1), .val (.int p2), .val (.int p3), .val (.int p4), .val (.int p5), .val (.int p6), .val (.long (p1.toInt64)), .second, .val (.long (p2.toInt64)), .second, .val (.long ((p3 &&& (2147483647 : Int32)).toInt64)), .second, .val (.long ((p4 &&& (2147483647 : Int32)).toInt64)), .second, .val (.long ((p1.toInt64) + ((p3 &&& (2147483647 : Int32)).toInt64))), .second, .unset, .unset, .unset, .unset, .unset, .unset, .unset, .unset, .unset, .unset] [(.long ((p4 &&& (2147483647 : Int32)).toInt64)), (.long (p2.toInt64))]))) (fun _ k => XS.lload X0.here hx rfl (hb hby at_31) rfl k) ?_
  refine own_go (A' := (s₁.setTop (mkF m 34 #[.val (.int p1), .val (.int p2), .val (.int p3), .val (.int p4), .val (.int p5), .val (.int p6), .val (.long (p1.toInt64)), .second, .val (.long (p2.toInt64)), .second, .val (.long ((p3 &&& (2147483647 : Int32)).toInt64)), .second, .val (.long ((p4 &&& (2147483647 : Int32)).toInt64)), .second, .val (.long ((p1.toInt64) + ((p3 &&& (2147483647 : Int32)).toInt64))), .second, .unset, .unset, .unset, .unset, .unset, .unset, .unset, .unset, .unset, .unset] [(.long ((p2.toInt64) + ((p4 &&& (2147483647 : Int32)).toInt64)))]))) (fun _ k => XS.ladd X0.here hx rfl (hb hby at_33) rfl k) ?_
  refine own_go (A' := (s₁.setTop (mkF m 36 #[.val (.int p1), .val (.int p2), .val (.int p3), .val (.int p4), .val (.int p5), .val (.int p6), .val (.long (p1.toInt64)), .second, .val (.long (p2.toInt64)), .second, .val (.long ((p3 &&& (2147483647 : Int32)).toInt64)), .second, .val (.long ((p4 &&& (2147483647 : Int32)).toInt64)), .second, .val (.long ((p1.toInt64) + ((p3 &&& (2147483647 : Int32)).toInt64))), .second, .val (.long ((p2.toInt64) + ((p4 &&& (2147483647 : Int32)).toInt64))), .second, .unset, .unset, .unset, .unset, .unset, .unset, .unset, .unset] []))) (fun _ k => XS.lstore X0.here hx rfl (hb hby at_34) rfl (l' := #[.val (.int p1), .val (.int p2), .val (.int p3), .val (.int p4), .val (.int p5), .val (.int p6), .val (.long (p1.toInt64)), .second, .val (.long (p2.toInt64)), .second, .val (.long ((p3 &&& (2147483647 : Int32)).toInt64)), .second, .val (.long ((p4 &&& (2147483647 : Int32)).toInt64)), .second, .val (.long ((p1.toInt64) + ((p3 &&& (2147483647 : Int32)).toInt64))), .second, .val (.long ((p2.toInt64) + ((p4 &&& (2147483647 : Int32)).toInt64))), .second, .unset, .unset, .unset, .unset, .unset, .unset, .unset, .unset]) rfl k) ?_
  obtain ⟨T21, h21, X21, e21, E21, A21, D21, -, st21⟩ := newO X0 hx hZ hown (hw _ (List.mem_of_getElem? (i := 1) rfl)) (hw _ (List.mem_of_getElem? (i := 2) rfl)) (hw _ (List.mem_of_getElem? (i := 3) rfl)) e0 (g := (mkF m 36 #[.val (.int p1), .val (.int p2), .val (.int p3), .val (.int p4), .val (.int p5), .val (.int p6), .val (.long (p1.toInt64)), .second, .val (.long (p2.toInt64)), .second, .val (.long ((p3 &&& (2147483647 : Int32)).toInt64)), .second, .val (.long ((p4 &&& (2147483647 : Int32)).toInt64)), .second, .val (.long ((p1.toInt64) + ((p3 &&& (2147483647 : Int32)).toInt64))), .second, .val (.long ((p2.toInt64) + ((p4 &&& (2147483647 : Int32)).toInt64))), .second, .unset, .unset, .unset, .unset, .unset, .unset, .unset, .unset] [])) rfl (hb hby at_36) (by decide) (by decide)
  obtain ⟨b21, g21⟩ : ∃ z, z = h0.size := ⟨_, rfl⟩
  rw [← g21] at A21 D21 st21
  refine own_go (A' := (T21.setTop (mkF m 39 #[.val (.int p1), .val (.int p2), .val (.int p3), .val (.int p4), .val (.int p5), .val (.int p6), .val (.long (p1.toInt64)), .second, .val (.long (p2.toInt64)), .second, .val (.long ((p3 &&& (2147483647 : Int32)).toInt64)), .second, .val (.long ((p4 &&& (2147483647 : Int32)).toInt64)), .second, .val (.long ((p1.toInt64) + ((p3 &&& (2147483647 : Int32)).toInt64))), .second, .val (.long ((p2.toInt64) + ((p4 &&& (2147483647 : Int32)).toInt64))), .second, .unset, .unset, .unset, .unset, .unset, .unset, .unset, .unset] [(.ref b21)]))) (fun _ k => st21 _ k) ?_
  have F21_minX : Fld Z h21 b21 "com/example/cairntree/cairntree/Window" "minX" "D" (.double (0 : UInt64)) := D21 (Or.inr (hw _ (List.mem_of_getElem? (i := 151) rfl))) (ty := .double) (by decide)
  have g_b : n0 ≤ b21 := by rw [g21]; exact Z0
  have Zn1 : n0 ≤ h21.size := Nat.le_trans Z0 E21.1
  have S1 := S1.ext E21
  refine own_go (A' := (T21.setTop (mkF m 40 #[.val (.int p1), .val (.int p2), .val (.int p3), .val (.int p4), .val (.int p5), .val (.int p6), .val (.long (p1.toInt64)), .second, .val (.long (p2.toInt64)), .second, .val (.long ((p3 &&& (2147483647 : Int32)).toInt64)), .second, .val (.long ((p4 &&& (2147483647 : Int32)).toInt64)), .second, .val (.long ((p1.toInt64) + ((p3 &&& (2147483647 : Int32)).toInt64))), .second, .val (.long ((p2.toInt64) + ((p4 &&& (2147483647 : Int32)).toInt64))), .second, .unset, .unset, .unset, .unset, .unset, .unset, .unset, .unset] [(.ref b21), (.ref b21)]))) (fun _ k => XS.dup X21.here hx rfl (hb hby at_39) rfl rfl k) ?_
  refine own_go (A' := (T21.setTop (mkF m 42 #[.val (.int p1), .val (.int p2), .val (.int p3), .val (.int p4), .val (.int p5), .val (.int p6), .val (.long (p1.toInt64)), .second, .val (.long (p2.toInt64)), .second, .val (.long ((p3 &&& (2147483647 : Int32)).toInt64)), .second, .val (.long ((p4 &&& (2147483647 : Int32)).toInt64)), .second, .val (.long ((p1.toInt64) + ((p3 &&& (2147483647 : Int32)).toInt64))), .second, .val (.long ((p2.toInt64) + ((p4 &&& (2147483647 : Int32)).toInt64))), .second, .unset, .unset, .unset, .unset, .unset, .unset, .unset, .unset] [(.long (p1.toInt64)), (.ref b21), (.ref b21)]))) (fun _ k => XS.lload X21.here hx rfl (hb hby at_40) rfl k) ?_
  refine own_go (A' := (T21.setTop (mkF m 43 #[.val (.int p1), .val (.int p2), .val (.int p3), .val (.int p4), .val (.int p5), .val (.int p6), .val (.long (p1.toInt64)), .second, .val (.long (p2.toInt64)), .second, .val (.long ((p3 &&& (2147483647 : Int32)).toInt64)), .second, .val (.long ((p4 &&& (2147483647 : Int32)).toInt64)), .second, .val (.long ((p1.toInt64) + ((p3 &&& (2147483647 : Int32)).toInt64))), .second, .val (.long ((p2.toInt64) + ((p4 &&& (2147483647 : Int32)).toInt64))), .second, .unset, .unset, .unset, .unset, .unset, .unset, .unset, .unset] [(.double (FP.l2d (p1.toInt64))), (.ref b21), (.ref b21)]))) (fun _ k => XS.l2dS X21.here hx rfl (hb hby at_42) rfl rfl k) ?_
  refine own_go (A' := (T21.setTop (mkF m 45 #[.val (.int p1), .val (.int p2), .val (.int p3), .val (.int p4), .val (.int p5), .val (.int p6), .val (.long (p1.toInt64)), .second, .val (.long (p2.toInt64)), .second, .val (.long ((p3 &&& (2147483647 : Int32)).toInt64)), .second, .val (.long ((p4 &&& (2147483647 : Int32)).toInt64)), .second, .val (.long ((p1.toInt64) + ((p3 &&& (2147483647 : Int32)).toInt64))), .second, .val (.long ((p2.toInt64) + ((p4 &&& (2147483647 : Int32)).toInt64))), .second, .unset, .unset, .unset, .unset, .unset, .unset, .unset, .unset] [(.long (p2.toInt64)), (.double (FP.l2d (p1.toInt64))), (.ref b21), (.ref b21)]))) (fun _ k => XS.lload X21.here hx rfl (hb hby at_43) rfl k) ?_
  refine own_go (A' := (T21.setTop (mkF m 46 #[.val (.int p1), .val (.int p2), .val (.int p3), .val (.int p4), .val (.int p5), .val (.int p6), .val (.long (p1.toInt64)), .second, .val (.long (p2.toInt64)), .second, .val (.long ((p3 &&& (2147483647 : Int32)).toInt64)), .second, .val (.long ((p4 &&& (2147483647 : Int32)).toInt64)), .second, .val (.long ((p1.toInt64) + ((p3 &&& (2147483647 : Int32)).toInt64))), .second, .val (.long ((p2.toInt64) + ((p4 &&& (2147483647 : Int32)).toInt64))), .second, .unset, .unset, .unset, .unset, .unset, .unset, .unset, .unset] [(.double (FP.l2d (p2.toInt64))), (.double (FP.l2d (p1.toInt64))), (.ref b21), (.ref b21)]))) (fun _ k => XS.l2dS X21.here hx rfl (hb hby at_45) rfl rfl k) ?_
  refine own_go (A' := (T21.setTop (mkF m 48 #[.val (.int p1), .val (.int p2), .val (.int p3), .val (.int p4), .val (.int p5), .val (.int p6), .val (.long (p1.toInt64)), .second, .val (.long (p2.toInt64)), .second, .val (.long ((p3 &&& (2147483647 : Int32)).toInt64)), .second, .val (.long ((p4 &&& (2147483647 : Int32)).toInt64)), .second, .val (.long ((p1.toInt64) + ((p3 &&& (2147483647 : Int32)).toInt64))), .second, .val (.long ((p2.toInt64) + ((p4 &&& (2147483647 : Int32)).toInt64))), .second, .unset, .unset, .unset, .unset, .unset, .unset, .unset, .unset] [(.long ((p1.toInt64) + ((p3 &&& (2147483647 : Int32)).toInt64))), (.double (FP.l2d (p2.toInt64))), (.double (FP.l2d (p1.toInt64))), (.ref b21), (.ref b21)]))) (fun _ k => XS.lload X21.here hx rfl (hb hby at_46) rfl k) ?_
  refine own_go (A' := (T21.setTop (mkF m 49 #[.val (.int p1), .val (.int p2), .val (.int p3), .val (.int p4), .val (.int p5), .val (.int p6), .val (.long (p1.toInt64)), .second, .val (.long (p2.toInt64)), .second, .val (.long ((p3 &&& (2147483647 : Int32)).toInt64)), .second, .val (.long ((p4 &&& (2147483647 : Int32)).toInt64)), .second, .val (.long ((p1.toInt64) + ((p3 &&& (2147483647 : Int32)).toInt64))), .second, .val (.long ((p2.toInt64) + ((p4 &&& (2147483647 : Int32)).toInt64))), .second, .unset, .unset, .unset, .unset, .unset, .unset, .unset, .unset] [(.double (FP.l2d ((p1.toInt64) + ((p3 &&& (2147483647 : Int32)).toInt64)))), (.double (FP.l2d (p2.toInt64))), (.double (FP.l2d (p1.toInt64))), (.ref b21), (.ref b21)]))) (fun _ k => XS.l2dS X21.here hx rfl (hb hby at_48) rfl rfl k) ?_
  refine own_go (A' := (T21.setTop (mkF m 51 #[.val (.int p1), .val (.int p2), .val (.int p3), .val (.int p4), .val (.int p5), .val (.int p6), .val (.long (p1.toInt64)), .second, .val (.long (p2.toInt64)), .second, .val (.long ((p3 &&& (2147483647 : Int32)).toInt64)), .second, .val (.long ((p4 &&& (2147483647 : Int32)).toInt64)), .second, .val (.long ((p1.toInt64) + ((p3 &&& (2147483647 : Int32)).toInt64))), .second, .val (.long ((p2.toInt64) + ((p4 &&& (2147483647 : Int32)).toInt64))), .second, .unset, .unset, .unset, .unset, .unset, .unset, .unset, .unset] [(.long ((p2.toInt64) + ((p4 &&& (2147483647 : Int32)).toInt64))), (.double (FP.l2d ((p1.toInt64) + ((p3 &&& (2147483647 : Int32)).toInt64)))), (.double (FP.l2d (p2.toInt64))), (.double (FP.l2d (p1.toInt64))), (.ref b21), (.ref b21)]))) (fun _ k => XS.lload X21.here hx rfl (hb hby at_49) rfl k) ?_
  refine own_go (A' := (T21.setTop (mkF m 52 #[.val (.int p1), .val (.int p2), .val (.int p3), .val (.int p4), .val (.int p5), .val (.int p6), .val (.long (p1.toInt64)), .second, .val (.long (p2.toInt64)), .second, .val (.long ((p3 &&& (2147483647 : Int32)).toInt64)), .second, .val (.long ((p4 &&& (2147483647 : Int32)).toInt64)), .second, .val (.long ((p1.toInt64) + ((p3 &&& (2147483647 : Int32)).toInt64))), .second, .val (.long ((p2.toInt64) + ((p4 &&& (2147483647 : Int32)).toInt64))), .second, .unset, .unset, .unset, .unset, .unset, .unset, .unset, .unset] [(.double (FP.l2d ((p2.toInt64) + ((p4 &&& (2147483647 : Int32)).toInt64)))), (.double (FP.l2d ((p1.toInt64) + ((p3 &&& (2147483647 : Int32)).toInt64)))), (.double (FP.l2d (p2.toInt64))), (.double (FP.l2d (p1.toInt64))), (.ref b21), (.ref b21)]))) (fun _ k => XS.l2dS X21.here hx rfl (hb hby at_51) rfl rfl k) ?_
  obtain ⟨_, _, ⟨T22, L22, k22, n22⟩, -, X22, ⟨Lc22, hQ22, l22, y22, z22⟩, st22⟩ := X21.specialBack hx (y := (⟨"com/example/cairntree/cairntree/Window", "<init>", "(DDDD)V"⟩ : MethodName)) rfl hown (mvT hZ (hw _ (List.mem_of_getElem? (i := 4) rfl))) (mvT hZ (hw _ (List.mem_of_getElem? (i := 5) rfl))) (mvT hZ (hw _ (List.mem_of_getElem? (i := 6) rfl))) (by decide) (backOf (W := 1) (own_winit l Z a0 hw [] b21 (FP.l2d (p1.toInt64)) (FP.l2d (p2.toInt64)) (FP.l2d ((p1.toInt64) + ((p3 &&& (2147483647 : Int32)).toInt64))) (FP.l2d ((p2.toInt64) + ((p4 &&& (2147483647 : Int32)).toInt64))) _ _ _ _ _ h21 n0 Zn1 H1 H2 H3 H4 (by omega) (by omega) A21 F21_minX g_b S1) hZ (hw _ (List.mem_of_getElem? (i := 6) rfl)) (hw _ (List.mem_of_getElem? (i := 3) rfl)) (by decide) (by decide)) (g := (mkF m 52 #[.val (.int p1), .val (.int p2), .val (.int p3), .val (.int p4), .val (.int p5), .val (.int p6), .val (.long (p1.toInt64)), .second, .val (.long (p2.toInt64)), .second, .val (.long ((p3 &&& (2147483647 : Int32)).toInt64)), .second, .val (.long ((p4 &&& (2147483647 : Int32)).toInt64)), .second, .val (.long ((p1.toInt64) + ((p3 &&& (2147483647 : Int32)).toInt64))), .second, .val (.long ((p2.toInt64) + ((p4 &&& (2147483647 : Int32)).toInt64))), .second, .unset, .unset, .unset, .unset, .unset, .unset, .unset, .unset] [(.double (FP.l2d ((p2.toInt64) + ((p4 &&& (2147483647 : Int32)).toInt64)))), (.double (FP.l2d ((p1.toInt64) + ((p3 &&& (2147483647 : Int32)).toInt64)))), (.double (FP.l2d (p2.toInt64))), (.double (FP.l2d (p1.toInt64))), (.ref b21), (.ref b21)])) rfl (by rw [hml]; rfl) (Steps.refl _) (a := b21) (argsL := [(.double (FP.l2d (p1.toInt64))), (.double (FP.l2d (p2.toInt64))), (.double (FP.l2d ((p1.toInt64) + ((p3 &&& (2147483647 : Int32)).toInt64)))), (.double (FP.l2d ((p2.toInt64) + ((p4 &&& (2147483647 : Int32)).toInt64))))]) (rest := [(.ref b21)]) (lenOf own_pd16 rfl) rfl (by show 2 * 0 + _ ≤ _; exact Nat.le_of_eq rfl) (hb hby at_52) (fun _ _ => ⟨rfl, e21, (by decide : 1 + 7 ≤ _), (by decide : 4 + 14 ≤ _)⟩)
  dsimp only [Pt.U, Pt.locs, Pt.cells, Pt.slots] at X22 l22 y22 z22 st22 hQ22
  subst l22 y22 z22
  obtain ⟨rfl, N22q, K22, Ea, F1, F2, F3, F4⟩ := hQ22
  have N22 := Fr.app N0 N22q
  refine own_go (A' := (T22.setTop (mkF m 55 #[.val (.int p1), .val (.int p2), .val (.int p3), .val (.int p4), .val (.int p5), .val (.int p6), .val (.long (p1.toInt64)), .second, .val (.long (p2.toInt64)), .second, .val (.long ((p3 &&& (2147483647 : Int32)).toInt64)), .second, .val (.long ((p4 &&& (2147483647 : Int32)).toInt64)), .second, .val (.long ((p1.toInt64) + ((p3 &&& (2147483647 : Int32)).toInt64))), .second, .val (.long ((p2.toInt64) + ((p4 &&& (2147483647 : Int32)).toInt64))), .second, .unset, .unset, .unset, .unset, .unset, .unset, .unset, .unset] [(.ref b21)]))) (fun _ k => st22.trans k) ?_
  have Zn2 : n0 ≤ T22.heap.size := Nat.le_trans Zn1 K22.1
  refine own_go (A' := (T22.setTop (mkF m 57 #[.val (.int p1), .val (.int p2), .val (.int p3), .val (.int p4), .val (.int p5), .val (.int p6), .val (.long (p1.toInt64)), .second, .val (.long (p2.toInt64)), .second, .val (.long ((p3 &&& (2147483647 : Int32)).toInt64)), .second, .val (.long ((p4 &&& (2147483647 : Int32)).toInt64)), .second, .val (.long ((p1.toInt64) + ((p3 &&& (2147483647 : Int32)).toInt64))), .second, .val (.long ((p2.toInt64) + ((p4 &&& (2147483647 : Int32)).toInt64))), .second, .val (.ref b21), .unset, .unset, .unset, .unset, .unset, .unset, .unset] []))) (fun _ k => XS.astore X22.here hx rfl (hb hby at_55) rfl rfl (l' := #[.val (.int p1), .val (.int p2), .val (.int p3), .val (.int p4), .val (.int p5), .val (.int p6), .val (.long (p1.toInt64)), .second, .val (.long (p2.toInt64)), .second, .val (.long ((p3 &&& (2147483647 : Int32)).toInt64)), .second, .val (.long ((p4 &&& (2147483647 : Int32)).toInt64)), .second, .val (.long ((p1.toInt64) + ((p3 &&& (2147483647 : Int32)).toInt64))), .second, .val (.long ((p2.toInt64) + ((p4 &&& (2147483647 : Int32)).toInt64))), .second, .val (.ref b21), .unset, .unset, .unset, .unset, .unset, .unset, .unset]) rfl k) ?_
  refine own_go (A' := (T22.setTop (mkF m 59 #[.val (.int p1), .val (.int p2), .val (.int p3), .val (.int p4), .val (.int p5), .val (.int p6), .val (.long (p1.toInt64)), .second, .val (.long (p2.toInt64)), .second, .val (.long ((p3 &&& (2147483647 : Int32)).toInt64)), .second, .val (.long ((p4 &&& (2147483647 : Int32)).toInt64)), .second, .val (.long ((p1.toInt64) + ((p3 &&& (2147483647 : Int32)).toInt64))), .second, .val (.long ((p2.toInt64) + ((p4 &&& (2147483647 : Int32)).toInt64))), .second, .val (.ref b21), .unset, .unset, .unset, .unset, .unset, .unset, .unset] [(.ref b21)]))) (fun _ k => XS.aload X22.here hx rfl (hb hby at_57) rfl rfl k) ?_
  refine own_go (A' := (T22.setTop (mkF m 61 #[.val (.int p1), .val (.int p2), .val (.int p3), .val (.int p4), .val (.int p5), .val (.int p6), .val (.long (p1.toInt64)), .second, .val (.long (p2.toInt64)), .second, .val (.long ((p3 &&& (2147483647 : Int32)).toInt64)), .second, .val (.long ((p4 &&& (2147483647 : Int32)).toInt64)), .second, .val (.long ((p1.toInt64) + ((p3 &&& (2147483647 : Int32)).toInt64))), .second, .val (.long ((p2.toInt64) + ((p4 &&& (2147483647 : Int32)).toInt64))), .second, .val (.ref b21), .unset, .unset, .unset, .unset, .unset, .unset, .unset] [(.int p5), (.ref b21)]))) (fun _ k => XS.iload X22.here hx rfl (hb hby at_59) rfl k) ?_
  refine own_go (A' := (T22.setTop (mkF m 62 #[.val (.int p1), .val (.int p2), .val (.int p3), .val (.int p4), .val (.int p5), .val (.int p6), .val (.long (p1.toInt64)), .second, .val (.long (p2.toInt64)), .second, .val (.long ((p3 &&& (2147483647 : Int32)).toInt64)), .second, .val (.long ((p4 &&& (2147483647 : Int32)).toInt64)), .second, .val (.long ((p1.toInt64) + ((p3 &&& (2147483647 : Int32)).toInt64))), .second, .val (.long ((p2.toInt64) + ((p4 &&& (2147483647 : Int32)).toInt64))), .second, .val (.ref b21), .unset, .unset, .unset, .unset, .unset, .unset, .unset] [(.double (FP.i2d p5)), (.ref b21)]))) (fun _ k => XS.i2dS X22.here hx rfl (hb hby at_61) rfl rfl k) ?_
  refine own_go (A' := (T22.setTop (mkF m 64 #[.val (.int p1), .val (.int p2), .val (.int p3), .val (.int p4), .val (.int p5), .val (.int p6), .val (.long (p1.toInt64)), .second, .val (.long (p2.toInt64)), .second, .val (.long ((p3 &&& (2147483647 : Int32)).toInt64)), .second, .val (.long ((p4 &&& (2147483647 : Int32)).toInt64)), .second, .val (.long ((p1.toInt64) + ((p3 &&& (2147483647 : Int32)).toInt64))), .second, .val (.long ((p2.toInt64) + ((p4 &&& (2147483647 : Int32)).toInt64))), .second, .val (.ref b21), .unset, .unset, .unset, .unset, .unset, .unset, .unset] [(.int p6), (.double (FP.i2d p5)), (.ref b21)]))) (fun _ k => XS.iload X22.here hx rfl (hb hby at_62) rfl k) ?_
  refine own_go (A' := (T22.setTop (mkF m 65 #[.val (.int p1), .val (.int p2), .val (.int p3), .val (.int p4), .val (.int p5), .val (.int p6), .val (.long (p1.toInt64)), .second, .val (.long (p2.toInt64)), .second, .val (.long ((p3 &&& (2147483647 : Int32)).toInt64)), .second, .val (.long ((p4 &&& (2147483647 : Int32)).toInt64)), .second, .val (.long ((p1.toInt64) + ((p3 &&& (2147483647 : Int32)).toInt64))), .second, .val (.long ((p2.toInt64) + ((p4 &&& (2147483647 : Int32)).toInt64))), .second, .val (.ref b21), .unset, .unset, .unset, .unset, .unset, .unset, .unset] [(.double (FP.i2d p6)), (.double (FP.i2d p5)), (.ref b21)]))) (fun _ k => XS.i2dS X22.here hx rfl (hb hby at_64) rfl rfl k) ?_
  obtain ⟨cq23, kq23, q23a, q23b, q23c⟩ := isOf hZ rfl Ea
  obtain ⟨_, _, ⟨T23, L23, k23, n23⟩, -, X23, ⟨Lc23, hQ23, l23, y23, z23⟩, st23⟩ := X22.virtualBack hx (y := (⟨"com/example/cairntree/cairntree/Window", "contains", "(DD)Z"⟩ : MethodName)) (z := (⟨"com/example/cairntree/cairntree/Window", "contains", "(DD)Z"⟩ : MethodName)) hown (mvT hZ (hw _ (List.mem_of_getElem? (i := 158) rfl))) (mvT hZ (hw _ (List.mem_of_getElem? (i := 159) rfl))) (notFace_of_selects (args := #[]) (mvT hZ (hw _ (List.mem_of_getElem? (i := 161) rfl)))) (mvT hZ (hw _ (List.mem_of_getElem? (i := 161) rfl))) (mvT hZ (hw _ (List.mem_of_getElem? (i := 160) rfl))) (by decide) (backOf (W := 0) (own_contM l Z a0 hw [] b21 (FP.i2d p5) (FP.i2d p6) _ _ _ _ _ _ _ _ _ _ T22.heap n0 Zn2 H1 H2 H3 H4 (own_i2d p5) (own_i2d p6) F1 F2 F3 F4) hZ (hw _ (List.mem_of_getElem? (i := 162) rfl)) (hw _ (List.mem_of_getElem? (i := 3) rfl)) (by decide) (by decide)) q23a q23c (g := (mkF m 65 #[.val (.int p1), .val (.int p2), .val (.int p3), .val (.int p4), .val (.int p5), .val (.int p6), .val (.long (p1.toInt64)), .second, .val (.long (p2.toInt64)), .second, .val (.long ((p3 &&& (2147483647 : Int32)).toInt64)), .second, .val (.long ((p4 &&& (2147483647 : Int32)).toInt64)), .second, .val (.long ((p1.toInt64) + ((p3 &&& (2147483647 : Int32)).toInt64))), .second, .val (.long ((p2.toInt64) + ((p4 &&& (2147483647 : Int32)).toInt64))), .second, .val (.ref b21), .unset, .unset, .unset, .unset, .unset, .unset, .unset] [(.double (FP.i2d p6)), (.double (FP.i2d p5)), (.ref b21)])) rfl (by rw [hml]; rfl) (Steps.refl _) (argsL := [(.double (FP.i2d p5)), (.double (FP.i2d p6))]) (rest := []) (lenOf own_pd17 rfl) rfl (by show 2 * 0 + _ ≤ _; exact Nat.le_of_eq rfl) (hb hby at_65) (fun _ _ => ⟨rfl, rfl, (by decide : 8 + 0 ≤ _), (by decide : 18 + 0 ≤ _)⟩)
  dsimp only [Pt.U, Pt.locs, Pt.cells, Pt.slots] at X23 l23 y23 z23 st23 hQ23
  subst l23 y23 z23
  obtain ⟨rfl, N23q, hh23⟩ := hQ23
  have N23 := Fr.app N22 N23q
  refine own_go (A' := (T23.setTop (mkF m 68 #[.val (.int p1), .val (.int p2), .val (.int p3), .val (.int p4), .val (.int p5), .val (.int p6), .val (.long (p1.toInt64)), .second, .val (.long (p2.toInt64)), .second, .val (.long ((p3 &&& (2147483647 : Int32)).toInt64)), .second, .val (.long ((p4 &&& (2147483647 : Int32)).toInt64)), .second, .val (.long ((p1.toInt64) + ((p3 &&& (2147483647 : Int32)).toInt64))), .second, .val (.long ((p2.toInt64) + ((p4 &&& (2147483647 : Int32)).toInt64))), .second, .val (.ref b21), .unset, .unset, .unset, .unset, .unset, .unset, .unset] [(.int (own_cont p1.toInt (p1.toInt + (p3 &&& 2147483647).toInt) p5.toInt p2.toInt (p2.toInt + (p4 &&& 2147483647).toInt) p6.toInt))]))) (fun _ k => st23.trans k) ?_
  refine own_go (A' := (T23.setTop (mkF m 70 #[.val (.int p1), .val (.int p2), .val (.int p3), .val (.int p4), .val (.int p5), .val (.int p6), .val (.long (p1.toInt64)), .second, .val (.long (p2.toInt64)), .second, .val (.long ((p3 &&& (2147483647 : Int32)).toInt64)), .second, .val (.long ((p4 &&& (2147483647 : Int32)).toInt64)), .second, .val (.long ((p1.toInt64) + ((p3 &&& (2147483647 : Int32)).toInt64))), .second, .val (.long ((p2.toInt64) + ((p4 &&& (2147483647 : Int32)).toInt64))), .second, .val (.ref b21), .val (.int (own_cont p1.toInt (p1.toInt + (p3 &&& 2147483647).toInt) p5.toInt p2.toInt (p2.toInt + (p4 &&& 2147483647).toInt) p6.toInt)), .unset, .unset, .unset, .unset, .unset, .unset] []))) (fun _ k => XS.istore X23.here hx rfl (hb hby at_68) rfl (l' := #[.val (.int p1), .val (.int p2), .val (.int p3), .val (.int p4), .val (.int p5), .val (.int p6), .val (.long (p1.toInt64)), .second, .val (.long (p2.toInt64)), .second, .val (.long ((p3 &&& (2147483647 : Int32)).toInt64)), .second, .val (.long ((p4 &&& (2147483647 : Int32)).toInt64)), .second, .val (.long ((p1.toInt64) + ((p3 &&& (2147483647 : Int32)).toInt64))), .second, .val (.long ((p2.toInt64) + ((p4 &&& (2147483647 : Int32)).toInt64))), .second, .val (.ref b21), .val (.int (own_cont p1.toInt (p1.toInt + (p3 &&& 2147483647).toInt) p5.toInt p2.toInt (p2.toInt + (p4 &&& 2147483647).toInt) p6.toInt)), .unset, .unset, .unset, .unset, .unset, .unset]) rfl k) ?_
  refine own_go (A' := (T23.setTop (mkF m 72 #[.val (.int p1), .val (.int p2), .val (.int p3), .val (.int p4), .val (.int p5), .val (.int p6), .val (.long (p1.toInt64)), .second, .val (.long (p2.toInt64)), .second, .val (.long ((p3 &&& (2147483647 : Int32)).toInt64)), .second, .val (.long ((p4 &&& (2147483647 : Int32)).toInt64)), .second, .val (.long ((p1.toInt64) + ((p3 &&& (2147483647 : Int32)).toInt64))), .second, .val (.long ((p2.toInt64) + ((p4 &&& (2147483647 : Int32)).toInt64))), .second, .val (.ref b21), .val (.int (own_cont p1.toInt (p1.toInt + (p3 &&& 2147483647).toInt) p5.toInt p2.toInt (p2.toInt + (p4 &&& 2147483647).toInt) p6.toInt)), .unset, .unset, .unset, .unset, .unset, .unset] [(.int p5)]))) (fun _ k => XS.iload X23.here hx rfl (hb hby at_70) rfl k) ?_
  refine own_go (A' := (T23.setTop (mkF m 73 #[.val (.int p1), .val (.int p2), .val (.int p3), .val (.int p4), .val (.int p5), .val (.int p6), .val (.long (p1.toInt64)), .second, .val (.long (p2.toInt64)), .second, .val (.long ((p3 &&& (2147483647 : Int32)).toInt64)), .second, .val (.long ((p4 &&& (2147483647 : Int32)).toInt64)), .second, .val (.long ((p1.toInt64) + ((p3 &&& (2147483647 : Int32)).toInt64))), .second, .val (.long ((p2.toInt64) + ((p4 &&& (2147483647 : Int32)).toInt64))), .second, .val (.ref b21), .val (.int (own_cont p1.toInt (p1.toInt + (p3 &&& 2147483647).toInt) p5.toInt p2.toInt (p2.toInt + (p4 &&& 2147483647).toInt) p6.toInt)), .unset, .unset, .unset, .unset, .unset, .unset] [(.long (p5.toInt64))]))) (fun _ k => XS.i2l X23.here hx rfl (hb hby at_72) rfl k) ?_
  refine own_go (A' := (T23.setTop (mkF m 75 #[.val (.int p1), .val (.int p2), .val (.int p3), .val (.int p4), .val (.int p5), .val (.int p6), .val (.long (p1.toInt64)), .second, .val (.long (p2.toInt64)), .second, .val (.long ((p3 &&& (2147483647 : Int32)).toInt64)), .second, .val (.long ((p4 &&& (2147483647 : Int32)).toInt64)), .second, .val (.long ((p1.toInt64) + ((p3 &&& (2147483647 : Int32)).toInt64))), .second, .val (.long ((p2.toInt64) + ((p4 &&& (2147483647 : Int32)).toInt64))), .second, .val (.ref b21), .val (.int (own_cont p1.toInt (p1.toInt + (p3 &&& 2147483647).toInt) p5.toInt p2.toInt (p2.toInt + (p4 &&& 2147483647).toInt) p6.toInt)), .unset, .unset, .unset, .unset, .unset, .unset] [(.long (p1.toInt64)), (.long (p5.toInt64))]))) (fun _ k => XS.lload X23.here hx rfl (hb hby at_73) rfl k) ?_
  refine own_go (A' := (T23.setTop (mkF m 76 #[.val (.int p1), .val (.int p2), .val (.int p3), .val (.int p4), .val (.int p5), .val (.int p6), .val (.long (p1.toInt64)), .second, .val (.long (p2.toInt64)), .second, .val (.long ((p3 &&& (2147483647 : Int32)).toInt64)), .second, .val (.long ((p4 &&& (2147483647 : Int32)).toInt64)), .second, .val (.long ((p1.toInt64) + ((p3 &&& (2147483647 : Int32)).toInt64))), .second, .val (.long ((p2.toInt64) + ((p4 &&& (2147483647 : Int32)).toInt64))), .second, .val (.ref b21), .val (.int (own_cont p1.toInt (p1.toInt + (p3 &&& 2147483647).toInt) p5.toInt p2.toInt (p2.toInt + (p4 &&& 2147483647).toInt) p6.toInt)), .unset, .unset, .unset, .unset, .unset, .unset] [(.long ((p5.toInt64) - (p1.toInt64)))]))) (fun _ k => XS.lsub X23.here hx rfl (hb hby at_75) rfl k) ?_
  refine own_go (A' := (T23.setTop (mkF m 78 #[.val (.int p1), .val (.int p2), .val (.int p3), .val (.int p4), .val (.int p5), .val (.int p6), .val (.long (p1.toInt64)), .second, .val (.long (p2.toInt64)), .second, .val (.long ((p3 &&& (2147483647 : Int32)).toInt64)), .second, .val (.long ((p4 &&& (2147483647 : Int32)).toInt64)), .second, .val (.long ((p1.toInt64) + ((p3 &&& (2147483647 : Int32)).toInt64))), .second, .val (.long ((p2.toInt64) + ((p4 &&& (2147483647 : Int32)).toInt64))), .second, .val (.ref b21), .val (.int (own_cont p1.toInt (p1.toInt + (p3 &&& 2147483647).toInt) p5.toInt p2.toInt (p2.toInt + (p4 &&& 2147483647).toInt) p6.toInt)), .val (.long ((p5.toInt64) - (p1.toInt64))), .second, .unset, .unset, .unset, .unset] []))) (fun _ k => XS.lstore X23.here hx rfl (hb hby at_76) rfl (l' := #[.val (.int p1), .val (.int p2), .val (.int p3), .val (.int p4), .val (.int p5), .val (.int p6), .val (.long (p1.toInt64)), .second, .val (.long (p2.toInt64)), .second, .val (.long ((p3 &&& (2147483647 : Int32)).toInt64)), .second, .val (.long ((p4 &&& (2147483647 : Int32)).toInt64)), .second, .val (.long ((p1.toInt64) + ((p3 &&& (2147483647 : Int32)).toInt64))), .second, .val (.long ((p2.toInt64) + ((p4 &&& (2147483647 : Int32)).toInt64))), .second, .val (.ref b21), .val (.int (own_cont p1.toInt (p1.toInt + (p3 &&& 2147483647).toInt) p5.toInt p2.toInt (p2.toInt + (p4 &&& 2147483647).toInt) p6.toInt)), .val (.long ((p5.toInt64) - (p1.toInt64))), .second, .unset, .unset, .unset, .unset]) rfl k) ?_
  refine own_go (A' := (T23.setTop (mkF m 80 #[.val (.int p1), .val (.int p2), .val (.int p3), .val (.int p4), .val (.int p5), .val (.int p6), .val (.long (p1.toInt64)), .second, .val (.long (p2.toInt64)), .second, .val (.long ((p3 &&& (2147483647 : Int32)).toInt64)), .second, .val (.long ((p4 &&& (2147483647 : Int32)).toInt64)), .second, .val (.long ((p1.toInt64) + ((p3 &&& (2147483647 : Int32)).toInt64))), .second, .val (.long ((p2.toInt64) + ((p4 &&& (2147483647 : Int32)).toInt64))), .second, .val (.ref b21), .val (.int (own_cont p1.toInt (p1.toInt + (p3 &&& 2147483647).toInt) p5.toInt p2.toInt (p2.toInt + (p4 &&& 2147483647).toInt) p6.toInt)), .val (.long ((p5.toInt64) - (p1.toInt64))), .second, .unset, .unset, .unset, .unset] [(.int p6)]))) (fun _ k => XS.iload X23.here hx rfl (hb hby at_78) rfl k) ?_
  refine own_go (A' := (T23.setTop (mkF m 81 #[.val (.int p1), .val (.int p2), .val (.int p3), .val (.int p4), .val (.int p5), .val (.int p6), .val (.long (p1.toInt64)), .second, .val (.long (p2.toInt64)), .second, .val (.long ((p3 &&& (2147483647 : Int32)).toInt64)), .second, .val (.long ((p4 &&& (2147483647 : Int32)).toInt64)), .second, .val (.long ((p1.toInt64) + ((p3 &&& (2147483647 : Int32)).toInt64))), .second, .val (.long ((p2.toInt64) + ((p4 &&& (2147483647 : Int32)).toInt64))), .second, .val (.ref b21), .val (.int (own_cont p1.toInt (p1.toInt + (p3 &&& 2147483647).toInt) p5.toInt p2.toInt (p2.toInt + (p4 &&& 2147483647).toInt) p6.toInt)), .val (.long ((p5.toInt64) - (p1.toInt64))), .second, .unset, .unset, .unset, .unset] [(.long (p6.toInt64))]))) (fun _ k => XS.i2l X23.here hx rfl (hb hby at_80) rfl k) ?_
  refine own_go (A' := (T23.setTop (mkF m 83 #[.val (.int p1), .val (.int p2), .val (.int p3), .val (.int p4), .val (.int p5), .val (.int p6), .val (.long (p1.toInt64)), .second, .val (.long (p2.toInt64)), .second, .val (.long ((p3 &&& (2147483647 : Int32)).toInt64)), .second, .val (.long ((p4 &&& (2147483647 : Int32)).toInt64)), .second, .val (.long ((p1.toInt64) + ((p3 &&& (2147483647 : Int32)).toInt64))), .second, .val (.long ((p2.toInt64) + ((p4 &&& (2147483647 : Int32)).toInt64))), .second, .val (.ref b21), .val (.int (own_cont p1.toInt (p1.toInt + (p3 &&& 2147483647).toInt) p5.toInt p2.toInt (p2.toInt + (p4 &&& 2147483647).toInt) p6.toInt)), .val (.long ((p5.toInt64) - (p1.toInt64))), .second, .unset, .unset, .unset, .unset] [(.long (p2.toInt64)), (.long (p6.toInt64))]))) (fun _ k => XS.lload X23.here hx rfl (hb hby at_81) rfl k) ?_
  refine own_go (A' := (T23.setTop (mkF m 84 #[.val (.int p1), .val (.int p2), .val (.int p3), .val (.int p4), .val (.int p5), .val (.int p6), .val (.long (p1.toInt64)), .second, .val (.long (p2.toInt64)), .second, .val (.long ((p3 &&& (2147483647 : Int32)).toInt64)), .second, .val (.long ((p4 &&& (2147483647 : Int32)).toInt64)), .second, .val (.long ((p1.toInt64) + ((p3 &&& (2147483647 : Int32)).toInt64))), .second, .val (.long ((p2.toInt64) + ((p4 &&& (2147483647 : Int32)).toInt64))), .second, .val (.ref b21), .val (.int (own_cont p1.toInt (p1.toInt + (p3 &&& 2147483647).toInt) p5.toInt p2.toInt (p2.toInt + (p4 &&& 2147483647).toInt) p6.toInt)), .val (.long ((p5.toInt64) - (p1.toInt64))), .second, .unset, .unset, .unset, .unset] [(.long ((p6.toInt64) - (p2.toInt64)))]))) (fun _ k => XS.lsub X23.here hx rfl (hb hby at_83) rfl k) ?_
  refine own_go (A' := (T23.setTop (mkF m 86 #[.val (.int p1), .val (.int p2), .val (.int p3), .val (.int p4), .val (.int p5), .val (.int p6), .val (.long (p1.toInt64)), .second, .val (.long (p2.toInt64)), .second, .val (.long ((p3 &&& (2147483647 : Int32)).toInt64)), .second, .val (.long ((p4 &&& (2147483647 : Int32)).toInt64)), .second, .val (.long ((p1.toInt64) + ((p3 &&& (2147483647 : Int32)).toInt64))), .second, .val (.long ((p2.toInt64) + ((p4 &&& (2147483647 : Int32)).toInt64))), .second, .val (.ref b21), .val (.int (own_cont p1.toInt (p1.toInt + (p3 &&& 2147483647).toInt) p5.toInt p2.toInt (p2.toInt + (p4 &&& 2147483647).toInt) p6.toInt)), .val (.long ((p5.toInt64) - (p1.toInt64))), .second, .val (.long ((p6.toInt64) - (p2.toInt64))), .second, .unset, .unset] []))) (fun _ k => XS.lstore X23.here hx rfl (hb hby at_84) rfl (l' := #[.val (.int p1), .val (.int p2), .val (.int p3), .val (.int p4), .val (.int p5), .val (.int p6), .val (.long (p1.toInt64)), .second, .val (.long (p2.toInt64)), .second, .val (.long ((p3 &&& (2147483647 : Int32)).toInt64)), .second, .val (.long ((p4 &&& (2147483647 : Int32)).toInt64)), .second, .val (.long ((p1.toInt64) + ((p3 &&& (2147483647 : Int32)).toInt64))), .second, .val (.long ((p2.toInt64) + ((p4 &&& (2147483647 : Int32)).toInt64))), .second, .val (.ref b21), .val (.int (own_cont p1.toInt (p1.toInt + (p3 &&& 2147483647).toInt) p5.toInt p2.toInt (p2.toInt + (p4 &&& 2147483647).toInt) p6.toInt)), .val (.long ((p5.toInt64) - (p1.toInt64))), .second, .val (.long ((p6.toInt64) - (p2.toInt64))), .second, .unset, .unset]) rfl k) ?_
  refine own_go (A' := (T23.setTop (mkF m 88 #[.val (.int p1), .val (.int p2), .val (.int p3), .val (.int p4), .val (.int p5), .val (.int p6), .val (.long (p1.toInt64)), .second, .val (.long (p2.toInt64)), .second, .val (.long ((p3 &&& (2147483647 : Int32)).toInt64)), .second, .val (.long ((p4 &&& (2147483647 : Int32)).toInt64)), .second, .val (.long ((p1.toInt64) + ((p3 &&& (2147483647 : Int32)).toInt64))), .second, .val (.long ((p2.toInt64) + ((p4 &&& (2147483647 : Int32)).toInt64))), .second, .val (.ref b21), .val (.int (own_cont p1.toInt (p1.toInt + (p3 &&& 2147483647).toInt) p5.toInt p2.toInt (p2.toInt + (p4 &&& 2147483647).toInt) p6.toInt)), .val (.long ((p5.toInt64) - (p1.toInt64))), .second, .val (.long ((p6.toInt64) - (p2.toInt64))), .second, .unset, .unset] [(.long ((p5.toInt64) - (p1.toInt64)))]))) (fun _ k => XS.lload X23.here hx rfl (hb hby at_86) rfl k) ?_
  refine own_go (A' := (T23.setTop (mkF m 89 #[.val (.int p1), .val (.int p2), .val (.int p3), .val (.int p4), .val (.int p5), .val (.int p6), .val (.long (p1.toInt64)), .second, .val (.long (p2.toInt64)), .second, .val (.long ((p3 &&& (2147483647 : Int32)).toInt64)), .second, .val (.long ((p4 &&& (2147483647 : Int32)).toInt64)), .second, .val (.long ((p1.toInt64) + ((p3 &&& (2147483647 : Int32)).toInt64))), .second, .val (.long ((p2.toInt64) + ((p4 &&& (2147483647 : Int32)).toInt64))), .second, .val (.ref b21), .val (.int (own_cont p1.toInt (p1.toInt + (p3 &&& 2147483647).toInt) p5.toInt p2.toInt (p2.toInt + (p4 &&& 2147483647).toInt) p6.toInt)), .val (.long ((p5.toInt64) - (p1.toInt64))), .second, .val (.long ((p6.toInt64) - (p2.toInt64))), .second, .unset, .unset] [(.long (0 : Int64)), (.long ((p5.toInt64) - (p1.toInt64)))]))) (fun _ k => XS.lconst X23.here hx rfl (hb hby at_88) k) ?_
  refine own_go (A' := (T23.setTop (mkF m 90 #[.val (.int p1), .val (.int p2), .val (.int p3), .val (.int p4), .val (.int p5), .val (.int p6), .val (.long (p1.toInt64)), .second, .val (.long (p2.toInt64)), .second, .val (.long ((p3 &&& (2147483647 : Int32)).toInt64)), .second, .val (.long ((p4 &&& (2147483647 : Int32)).toInt64)), .second, .val (.long ((p1.toInt64) + ((p3 &&& (2147483647 : Int32)).toInt64))), .second, .val (.long ((p2.toInt64) + ((p4 &&& (2147483647 : Int32)).toInt64))), .second, .val (.ref b21), .val (.int (own_cont p1.toInt (p1.toInt + (p3 &&& 2147483647).toInt) p5.toInt p2.toInt (p2.toInt + (p4 &&& 2147483647).toInt) p6.toInt)), .val (.long ((p5.toInt64) - (p1.toInt64))), .second, .val (.long ((p6.toInt64) - (p2.toInt64))), .second, .unset, .unset] [(.int (lcmpW ((p5.toInt64) - (p1.toInt64)) (0 : Int64)))]))) (fun _ k => XS.lcmp X23.here hx rfl (hb hby at_89) rfl k) ?_
  have J106 : ∀ ix : Int32, ix = (if p1.toInt ≤ p5.toInt ∧ p5.toInt ≤ p1.toInt + (p3 &&& 2147483647).toInt then 1 else 0) → own_W p e below R (T23.setTop (mkF m 106 #[.val (.int p1), .val (.int p2), .val (.int p3), .val (.int p4), .val (.int p5), .val (.int p6), .val (.long (p1.toInt64)), .second, .val (.long (p2.toInt64)), .second, .val (.long ((p3 &&& (2147483647 : Int32)).toInt64)), .second, .val (.long ((p4 &&& (2147483647 : Int32)).toInt64)), .second, .val (.long ((p1.toInt64) + ((p3 &&& (2147483647 : Int32)).toInt64))), .second, .val (.long ((p2.toInt64) + ((p4 &&& (2147483647 : Int32)).toInt64))), .second, .val (.ref b21), .val (.int (own_cont p1.toInt (p1.toInt + (p3 &&& 2147483647).toInt) p5.toInt p2.toInt (p2.toInt + (p4 &&& 2147483647).toInt) p6.toInt)), .val (.long ((p5.toInt64) - (p1.toInt64))), .second, .val (.long ((p6.toInt64) - (p2.toInt64))), .second, .unset, .unset] [(.int ix)])) := by
    intro ix hix
    refine own_go (A' := (T23.setTop (mkF m 108 #[.val (.int p1), .val (.int p2), .val (.int p3), .val (.int p4), .val (.int p5), .val (.int p6), .val (.long (p1.toInt64)), .second, .val (.long (p2.toInt64)), .second, .val (.long ((p3 &&& (2147483647 : Int32)).toInt64)), .second, .val (.long ((p4 &&& (2147483647 : Int32)).toInt64)), .second, .val (.long ((p1.toInt64) + ((p3 &&& (2147483647 : Int32)).toInt64))), .second, .val (.long ((p2.toInt64) + ((p4 &&& (2147483647 : Int32)).toInt64))), .second, .val (.ref b21), .val (.int (own_cont p1.toInt (p1.toInt + (p3 &&& 2147483647).toInt) p5.toInt p2.toInt (p2.toInt + (p4 &&& 2147483647).toInt) p6.toInt)), .val (.long ((p5.toInt64) - (p1.toInt64))), .second, .val (.long ((p6.toInt64) - (p2.toInt64))), .second, .val (.int ix), .unset] []))) (fun _ k => XS.istore X23.here hx rfl (hb hby at_106) rfl (l' := #[.val (.int p1), .val (.int p2), .val (.int p3), .val (.int p4), .val (.int p5), .val (.int p6), .val (.long (p1.toInt64)), .second, .val (.long (p2.toInt64)), .second, .val (.long ((p3 &&& (2147483647 : Int32)).toInt64)), .second, .val (.long ((p4 &&& (2147483647 : Int32)).toInt64)), .second, .val (.long ((p1.toInt64) + ((p3 &&& (2147483647 : Int32)).toInt64))), .second, .val (.long ((p2.toInt64) + ((p4 &&& (2147483647 : Int32)).toInt64))), .second, .val (.ref b21), .val (.int (own_cont p1.toInt (p1.toInt + (p3 &&& 2147483647).toInt) p5.toInt p2.toInt (p2.toInt + (p4 &&& 2147483647).toInt) p6.toInt)), .val (.long ((p5.toInt64) - (p1.toInt64))), .second, .val (.long ((p6.toInt64) - (p2.toInt64))), .second, .val (.int ix), .unset]) rfl k) ?_
    refine own_go (A' := (T23.setTop (mkF m 110 #[.val (.int p1), .val (.int p2), .val (.int p3), .val (.int p4), .val (.int p5), .val (.int p6), .val (.long (p1.toInt64)), .second, .val (.long (p2.toInt64)), .second, .val (.long ((p3 &&& (2147483647 : Int32)).toInt64)), .second, .val (.long ((p4 &&& (2147483647 : Int32)).toInt64)), .second, .val (.long ((p1.toInt64) + ((p3 &&& (2147483647 : Int32)).toInt64))), .second, .val (.long ((p2.toInt64) + ((p4 &&& (2147483647 : Int32)).toInt64))), .second, .val (.ref b21), .val (.int (own_cont p1.toInt (p1.toInt + (p3 &&& 2147483647).toInt) p5.toInt p2.toInt (p2.toInt + (p4 &&& 2147483647).toInt) p6.toInt)), .val (.long ((p5.toInt64) - (p1.toInt64))), .second, .val (.long ((p6.toInt64) - (p2.toInt64))), .second, .val (.int ix), .unset] [(.long ((p6.toInt64) - (p2.toInt64)))]))) (fun _ k => XS.lload X23.here hx rfl (hb hby at_108) rfl k) ?_
    refine own_go (A' := (T23.setTop (mkF m 111 #[.val (.int p1), .val (.int p2), .val (.int p3), .val (.int p4), .val (.int p5), .val (.int p6), .val (.long (p1.toInt64)), .second, .val (.long (p2.toInt64)), .second, .val (.long ((p3 &&& (2147483647 : Int32)).toInt64)), .second, .val (.long ((p4 &&& (2147483647 : Int32)).toInt64)), .second, .val (.long ((p1.toInt64) + ((p3 &&& (2147483647 : Int32)).toInt64))), .second, .val (.long ((p2.toInt64) + ((p4 &&& (2147483647 : Int32)).toInt64))), .second, .val (.ref b21), .val (.int (own_cont p1.toInt (p1.toInt + (p3 &&& 2147483647).toInt) p5.toInt p2.toInt (p2.toInt + (p4 &&& 2147483647).toInt) p6.toInt)), .val (.long ((p5.toInt64) - (p1.toInt64))), .second, .val (.long ((p6.toInt64) - (p2.toInt64))), .second, .val (.int ix), .unset] [(.long (0 : Int64)), (.long ((p6.toInt64) - (p2.toInt64)))]))) (fun _ k => XS.lconst X23.here hx rfl (hb hby at_110) k) ?_
    refine own_go (A' := (T23.setTop (mkF m 112 #[.val (.int p1), .val (.int p2), .val (.int p3), .val (.int p4), .val (.int p5), .val (.int p6), .val (.long (p1.toInt64)), .second, .val (.long (p2.toInt64)), .second, .val (.long ((p3 &&& (2147483647 : Int32)).toInt64)), .second, .val (.long ((p4 &&& (2147483647 : Int32)).toInt64)), .second, .val (.long ((p1.toInt64) + ((p3 &&& (2147483647 : Int32)).toInt64))), .second, .val (.long ((p2.toInt64) + ((p4 &&& (2147483647 : Int32)).toInt64))), .second, .val (.ref b21), .val (.int (own_cont p1.toInt (p1.toInt + (p3 &&& 2147483647).toInt) p5.toInt p2.toInt (p2.toInt + (p4 &&& 2147483647).toInt) p6.toInt)), .val (.long ((p5.toInt64) - (p1.toInt64))), .second, .val (.long ((p6.toInt64) - (p2.toInt64))), .second, .val (.int ix), .unset] [(.int (lcmpW ((p6.toInt64) - (p2.toInt64)) (0 : Int64)))]))) (fun _ k => XS.lcmp X23.here hx rfl (hb hby at_111) rfl k) ?_
    have J128 : ∀ iy : Int32, iy = (if p2.toInt ≤ p6.toInt ∧ p6.toInt ≤ p2.toInt + (p4 &&& 2147483647).toInt then 1 else 0) → own_W p e below R (T23.setTop (mkF m 128 #[.val (.int p1), .val (.int p2), .val (.int p3), .val (.int p4), .val (.int p5), .val (.int p6), .val (.long (p1.toInt64)), .second, .val (.long (p2.toInt64)), .second, .val (.long ((p3 &&& (2147483647 : Int32)).toInt64)), .second, .val (.long ((p4 &&& (2147483647 : Int32)).toInt64)), .second, .val (.long ((p1.toInt64) + ((p3 &&& (2147483647 : Int32)).toInt64))), .second, .val (.long ((p2.toInt64) + ((p4 &&& (2147483647 : Int32)).toInt64))), .second, .val (.ref b21), .val (.int (own_cont p1.toInt (p1.toInt + (p3 &&& 2147483647).toInt) p5.toInt p2.toInt (p2.toInt + (p4 &&& 2147483647).toInt) p6.toInt)), .val (.long ((p5.toInt64) - (p1.toInt64))), .second, .val (.long ((p6.toInt64) - (p2.toInt64))), .second, .val (.int ix), .unset] [(.int iy)])) := by
      intro iy hiy
      refine own_go (A' := (T23.setTop (mkF m 130 #[.val (.int p1), .val (.int p2), .val (.int p3), .val (.int p4), .val (.int p5), .val (.int p6), .val (.long (p1.toInt64)), .second, .val (.long (p2.toInt64)), .second, .val (.long ((p3 &&& (2147483647 : Int32)).toInt64)), .second, .val (.long ((p4 &&& (2147483647 : Int32)).toInt64)), .second, .val (.long ((p1.toInt64) + ((p3 &&& (2147483647 : Int32)).toInt64))), .second, .val (.long ((p2.toInt64) + ((p4 &&& (2147483647 : Int32)).toInt64))), .second, .val (.ref b21), .val (.int (own_cont p1.toInt (p1.toInt + (p3 &&& 2147483647).toInt) p5.toInt p2.toInt (p2.toInt + (p4 &&& 2147483647).toInt) p6.toInt)), .val (.long ((p5.toInt64) - (p1.toInt64))), .second, .val (.long ((p6.toInt64) - (p2.toInt64))), .second, .val (.int ix), .val (.int iy)] []))) (fun _ k => XS.istore X23.here hx rfl (hb hby at_128) rfl (l' := #[.val (.int p1), .val (.int p2), .val (.int p3), .val (.int p4), .val (.int p5), .val (.int p6), .val (.long (p1.toInt64)), .second, .val (.long (p2.toInt64)), .second, .val (.long ((p3 &&& (2147483647 : Int32)).toInt64)), .second, .val (.long ((p4 &&& (2147483647 : Int32)).toInt64)), .second, .val (.long ((p1.toInt64) + ((p3 &&& (2147483647 : Int32)).toInt64))), .second, .val (.long ((p2.toInt64) + ((p4 &&& (2147483647 : Int32)).toInt64))), .second, .val (.ref b21), .val (.int (own_cont p1.toInt (p1.toInt + (p3 &&& 2147483647).toInt) p5.toInt p2.toInt (p2.toInt + (p4 &&& 2147483647).toInt) p6.toInt)), .val (.long ((p5.toInt64) - (p1.toInt64))), .second, .val (.long ((p6.toInt64) - (p2.toInt64))), .second, .val (.int ix), .val (.int iy)]) rfl k) ?_
      refine own_go (A' := (T23.setTop (mkF m 132 #[.val (.int p1), .val (.int p2), .val (.int p3), .val (.int p4), .val (.int p5), .val (.int p6), .val (.long (p1.toInt64)), .second, .val (.long (p2.toInt64)), .second, .val (.long ((p3 &&& (2147483647 : Int32)).toInt64)), .second, .val (.long ((p4 &&& (2147483647 : Int32)).toInt64)), .second, .val (.long ((p1.toInt64) + ((p3 &&& (2147483647 : Int32)).toInt64))), .second, .val (.long ((p2.toInt64) + ((p4 &&& (2147483647 : Int32)).toInt64))), .second, .val (.ref b21), .val (.int (own_cont p1.toInt (p1.toInt + (p3 &&& 2147483647).toInt) p5.toInt p2.toInt (p2.toInt + (p4 &&& 2147483647).toInt) p6.toInt)), .val (.long ((p5.toInt64) - (p1.toInt64))), .second, .val (.long ((p6.toInt64) - (p2.toInt64))), .second, .val (.int ix), .val (.int iy)] [(.int (own_cont p1.toInt (p1.toInt + (p3 &&& 2147483647).toInt) p5.toInt p2.toInt (p2.toInt + (p4 &&& 2147483647).toInt) p6.toInt))]))) (fun _ k => XS.iload X23.here hx rfl (hb hby at_130) rfl k) ?_
      refine own_go (A' := (T23.setTop (mkF m 134 #[.val (.int p1), .val (.int p2), .val (.int p3), .val (.int p4), .val (.int p5), .val (.int p6), .val (.long (p1.toInt64)), .second, .val (.long (p2.toInt64)), .second, .val (.long ((p3 &&& (2147483647 : Int32)).toInt64)), .second, .val (.long ((p4 &&& (2147483647 : Int32)).toInt64)), .second, .val (.long ((p1.toInt64) + ((p3 &&& (2147483647 : Int32)).toInt64))), .second, .val (.long ((p2.toInt64) + ((p4 &&& (2147483647 : Int32)).toInt64))), .second, .val (.ref b21), .val (.int (own_cont p1.toInt (p1.toInt + (p3 &&& 2147483647).toInt) p5.toInt p2.toInt (p2.toInt + (p4 &&& 2147483647).toInt) p6.toInt)), .val (.long ((p5.toInt64) - (p1.toInt64))), .second, .val (.long ((p6.toInt64) - (p2.toInt64))), .second, .val (.int ix), .val (.int iy)] [(.int ix), (.int (own_cont p1.toInt (p1.toInt + (p3 &&& 2147483647).toInt) p5.toInt p2.toInt (p2.toInt + (p4 &&& 2147483647).toInt) p6.toInt))]))) (fun _ k => XS.iload X23.here hx rfl (hb hby at_132) rfl k) ?_
      have J147 : ∀ xx : Int32, xx = (own_cont p1.toInt (p1.toInt + (p3 &&& 2147483647).toInt) p5.toInt p2.toInt (p2.toInt + (p4 &&& 2147483647).toInt) p6.toInt) → own_W p e below R (T23.setTop (mkF m 147 #[.val (.int p1), .val (.int p2), .val (.int p3), .val (.int p4), .val (.int p5), .val (.int p6), .val (.long (p1.toInt64)), .second, .val (.long (p2.toInt64)), .second, .val (.long ((p3 &&& (2147483647 : Int32)).toInt64)), .second, .val (.long ((p4 &&& (2147483647 : Int32)).toInt64)), .second, .val (.long ((p1.toInt64) + ((p3 &&& (2147483647 : Int32)).toInt64))), .second, .val (.long ((p2.toInt64) + ((p4 &&& (2147483647 : Int32)).toInt64))), .second, .val (.ref b21), .val (.int (own_cont p1.toInt (p1.toInt + (p3 &&& 2147483647).toInt) p5.toInt p2.toInt (p2.toInt + (p4 &&& 2147483647).toInt) p6.toInt)), .val (.long ((p5.toInt64) - (p1.toInt64))), .second, .val (.long ((p6.toInt64) - (p2.toInt64))), .second, .val (.int ix), .val (.int iy)] [(.int xx), (.int (own_cont p1.toInt (p1.toInt + (p3 &&& 2147483647).toInt) p5.toInt p2.toInt (p2.toInt + (p4 &&& 2147483647).toInt) p6.toInt))])) := by
        intro xx hxx
        refine own_go (A' := (T23.setTop (mkF m 150 #[.val (.int p1), .val (.int p2), .val (.int p3), .val (.int p4), .val (.int p5), .val (.int p6), .val (.long (p1.toInt64)), .second, .val (.long (p2.toInt64)), .second, .val (.long ((p3 &&& (2147483647 : Int32)).toInt64)), .second, .val (.long ((p4 &&& (2147483647 : Int32)).toInt64)), .second, .val (.long ((p1.toInt64) + ((p3 &&& (2147483647 : Int32)).toInt64))), .second, .val (.long ((p2.toInt64) + ((p4 &&& (2147483647 : Int32)).toInt64))), .second, .val (.ref b21), .val (.int (own_cont p1.toInt (p1.toInt + (p3 &&& 2147483647).toInt) p5.toInt p2.toInt (p2.toInt + (p4 &&& 2147483647).toInt) p6.toInt)), .val (.long ((p5.toInt64) - (p1.toInt64))), .second, .val (.long ((p6.toInt64) - (p2.toInt64))), .second, .val (.int ix), .val (.int iy)] []))) (fun _ k => XS.icmpNo X23.here hx rfl (hb hby at_147) rfl (teq hxx.symm).2 k) ?_
        refine own_go (A' := (T23.setTop (mkF m 151 #[.val (.int p1), .val (.int p2), .val (.int p3), .val (.int p4), .val (.int p5), .val (.int p6), .val (.long (p1.toInt64)), .second, .val (.long (p2.toInt64)), .second, .val (.long ((p3 &&& (2147483647 : Int32)).toInt64)), .second, .val (.long ((p4 &&& (2147483647 : Int32)).toInt64)), .second, .val (.long ((p1.toInt64) + ((p3 &&& (2147483647 : Int32)).toInt64))), .second, .val (.long ((p2.toInt64) + ((p4 &&& (2147483647 : Int32)).toInt64))), .second, .val (.ref b21), .val (.int (own_cont p1.toInt (p1.toInt + (p3 &&& 2147483647).toInt) p5.toInt p2.toInt (p2.toInt + (p4 &&& 2147483647).toInt) p6.toInt)), .val (.long ((p5.toInt64) - (p1.toInt64))), .second, .val (.long ((p6.toInt64) - (p2.toInt64))), .second, .val (.int ix), .val (.int iy)] [(.int (1 : Int32))]))) (fun _ k => XS.iconst X23.here hx rfl (hb hby at_150) k) ?_
        refine own_go (A' := (T23.setTop (mkF m 155 #[.val (.int p1), .val (.int p2), .val (.int p3), .val (.int p4), .val (.int p5), .val (.int p6), .val (.long (p1.toInt64)), .second, .val (.long (p2.toInt64)), .second, .val (.long ((p3 &&& (2147483647 : Int32)).toInt64)), .second, .val (.long ((p4 &&& (2147483647 : Int32)).toInt64)), .second, .val (.long ((p1.toInt64) + ((p3 &&& (2147483647 : Int32)).toInt64))), .second, .val (.long ((p2.toInt64) + ((p4 &&& (2147483647 : Int32)).toInt64))), .second, .val (.ref b21), .val (.int (own_cont p1.toInt (p1.toInt + (p3 &&& 2147483647).toInt) p5.toInt p2.toInt (p2.toInt + (p4 &&& 2147483647).toInt) p6.toInt)), .val (.long ((p5.toInt64) - (p1.toInt64))), .second, .val (.long ((p6.toInt64) - (p2.toInt64))), .second, .val (.int ix), .val (.int iy)] [(.int (1 : Int32))]))) (fun _ k => XS.goto X23.here hx rfl (pc0 := 151) (pc' := 155) rfl (hb hby at_151) (by decide) (by decide) k) ?_
        obtain ⟨fs, hr, hrun, hended, hW, hsame⟩ := X23.leave (v := some (.int (1 : Int32))) (fun h => by rw [Bd.returns] at h; cases h)
        refine ⟨_, _, retN X23 hx (t := .boolean) Bd.returns (by simp) (hb hby at_155) hr, hR _ _ ⟨hrun, hended, _, _, rfl, ?_, ⟨_, rfl⟩, hW, hsame.mono (by decide) (by decide)⟩⟩
        show own_Q_own_rm0 Z p1 p2 p3 p4 p5 p6 h0 n0 _ T23.heap _
        rw [hh23]
        exact ⟨rfl, N23⟩
      by_cases hc1 : ix = (0 : Int32)
      · refine own_go (A' := (T23.setTop (mkF m 146 #[.val (.int p1), .val (.int p2), .val (.int p3), .val (.int p4), .val (.int p5), .val (.int p6), .val (.long (p1.toInt64)), .second, .val (.long (p2.toInt64)), .second, .val (.long ((p3 &&& (2147483647 : Int32)).toInt64)), .second, .val (.long ((p4 &&& (2147483647 : Int32)).toInt64)), .second, .val (.long ((p1.toInt64) + ((p3 &&& (2147483647 : Int32)).toInt64))), .second, .val (.long ((p2.toInt64) + ((p4 &&& (2147483647 : Int32)).toInt64))), .second, .val (.ref b21), .val (.int (own_cont p1.toInt (p1.toInt + (p3 &&& 2147483647).toInt) p5.toInt p2.toInt (p2.toInt + (p4 &&& 2147483647).toInt) p6.toInt)), .val (.long ((p5.toInt64) - (p1.toInt64))), .second, .val (.long ((p6.toInt64) - (p2.toInt64))), .second, .val (.int ix), .val (.int iy)] [(.int (own_cont p1.toInt (p1.toInt + (p3 &&& 2147483647).toInt) p5.toInt p2.toInt (p2.toInt + (p4 &&& 2147483647).toInt) p6.toInt))]))) (fun _ k => XS.ifYes X23.here hx rfl (pc0 := 134) (pc' := 146) rfl (hb hby at_134) rfl ((if0 _ _).trans (teq hc1).1) (by decide) (by decide) k) ?_
        refine own_go (A' := (T23.setTop (mkF m 147 #[.val (.int p1), .val (.int p2), .val (.int p3), .val (.int p4), .val (.int p5), .val (.int p6), .val (.long (p1.toInt64)), .second, .val (.long (p2.toInt64)), .second, .val (.long ((p3 &&& (2147483647 : Int32)).toInt64)), .second, .val (.long ((p4 &&& (2147483647 : Int32)).toInt64)), .second, .val (.long ((p1.toInt64) + ((p3 &&& (2147483647 : Int32)).toInt64))), .second, .val (.long ((p2.toInt64) + ((p4 &&& (2147483647 : Int32)).toInt64))), .second, .val (.ref b21), .val (.int (own_cont p1.toInt (p1.toInt + (p3 &&& 2147483647).toInt) p5.toInt p2.toInt (p2.toInt + (p4 &&& 2147483647).toInt) p6.toInt)), .val (.long ((p5.toInt64) - (p1.toInt64))), .second, .val (.long ((p6.toInt64) - (p2.toInt64))), .second, .val (.int ix), .val (.int iy)] [(.int (0 : Int32)), (.int (own_cont p1.toInt (p1.toInt + (p3 &&& 2147483647).toInt) p5.toInt p2.toInt (p2.toInt + (p4 &&& 2147483647).toInt) p6.toInt))]))) (fun _ k => XS.iconst X23.here hx rfl (hb hby at_146) k) ?_
        refine J147 _ (own_nand ?_).symm
        have : ¬ (p1.toInt ≤ p5.toInt ∧ p5.toInt ≤ p1.toInt + (p3 &&& 2147483647).toInt) := by
          intro q
          rw [if_pos q] at hix; rw [hix] at hc1; exact absurd hc1 (by decide)
        omega
      · refine own_go (A' := (T23.setTop (mkF m 137 #[.val (.int p1), .val (.int p2), .val (.int p3), .val (.int p4), .val (.int p5), .val (.int p6), .val (.long (p1.toInt64)), .second, .val (.long (p2.toInt64)), .second, .val (.long ((p3 &&& (2147483647 : Int32)).toInt64)), .second, .val (.long ((p4 &&& (2147483647 : Int32)).toInt64)), .second, .val (.long ((p1.toInt64) + ((p3 &&& (2147483647 : Int32)).toInt64))), .second, .val (.long ((p2.toInt64) + ((p4 &&& (2147483647 : Int32)).toInt64))), .second, .val (.ref b21), .val (.int (own_cont p1.toInt (p1.toInt + (p3 &&& 2147483647).toInt) p5.toInt p2.toInt (p2.toInt + (p4 &&& 2147483647).toInt) p6.toInt)), .val (.long ((p5.toInt64) - (p1.toInt64))), .second, .val (.long ((p6.toInt64) - (p2.toInt64))), .second, .val (.int ix), .val (.int iy)] [(.int (own_cont p1.toInt (p1.toInt + (p3 &&& 2147483647).toInt) p5.toInt p2.toInt (p2.toInt + (p4 &&& 2147483647).toInt) p6.toInt))]))) (fun _ k => XS.ifNo X23.here hx rfl (hb hby at_134) rfl ((if0 _ _).trans (feq hc1).1) k) ?_
        have h1 : p1.toInt ≤ p5.toInt ∧ p5.toInt ≤ p1.toInt + (p3 &&& 2147483647).toInt := by
          by_cases q : p1.toInt ≤ p5.toInt ∧ p5.toInt ≤ p1.toInt + (p3 &&& 2147483647).toInt
          · exact q
          · rw [if_neg q] at hix; exact absurd hix hc1
        refine own_go (A' := (T23.setTop (mkF m 139 #[.val (.int p1), .val (.int p2), .val (.int p3), .val (.int p4), .val (.int p5), .val (.int p6), .val (.long (p1.toInt64)), .second, .val (.long (p2.toInt64)), .second, .val (.long ((p3 &&& (2147483647 : Int32)).toInt64)), .second, .val (.long ((p4 &&& (2147483647 : Int32)).toInt64)), .second, .val (.long ((p1.toInt64) + ((p3 &&& (2147483647 : Int32)).toInt64))), .second, .val (.long ((p2.toInt64) + ((p4 &&& (2147483647 : Int32)).toInt64))), .second, .val (.ref b21), .val (.int (own_cont p1.toInt (p1.toInt + (p3 &&& 2147483647).toInt) p5.toInt p2.toInt (p2.toInt + (p4 &&& 2147483647).toInt) p6.toInt)), .val (.long ((p5.toInt64) - (p1.toInt64))), .second, .val (.long ((p6.toInt64) - (p2.toInt64))), .second, .val (.int ix), .val (.int iy)] [(.int iy), (.int (own_cont p1.toInt (p1.toInt + (p3 &&& 2147483647).toInt) p5.toInt p2.toInt (p2.toInt + (p4 &&& 2147483647).toInt) p6.toInt))]))) (fun _ k => XS.iload X23.here hx rfl (hb hby at_137) rfl k) ?_
        by_cases hc2 : iy = (0 : Int32)
        · refine own_go (A' := (T23.setTop (mkF m 146 #[.val (.int p1), .val (.int p2), .val (.int p3), .val (.int p4), .val (.int p5), .val (.int p6), .val (.long (p1.toInt64)), .second, .val (.long (p2.toInt64)), .second, .val (.long ((p3 &&& (2147483647 : Int32)).toInt64)), .second, .val (.long ((p4 &&& (2147483647 : Int32)).toInt64)), .second, .val (.long ((p1.toInt64) + ((p3 &&& (2147483647 : Int32)).toInt64))), .second, .val (.long ((p2.toInt64) + ((p4 &&& (2147483647 : Int32)).toInt64))), .second, .val (.ref b21), .val (.int (own_cont p1.toInt (p1.toInt + (p3 &&& 2147483647).toInt) p5.toInt p2.toInt (p2.toInt + (p4 &&& 2147483647).toInt) p6.toInt)), .val (.long ((p5.toInt64) - (p1.toInt64))), .second, .val (.long ((p6.toInt64) - (p2.toInt64))), .second, .val (.int ix), .val (.int iy)] [(.int (own_cont p1.toInt (p1.toInt + (p3 &&& 2147483647).toInt) p5.toInt p2.toInt (p2.toInt + (p4 &&& 2147483647).toInt) p6.toInt))]))) (fun _ k => XS.ifYes X23.here hx rfl (pc0 := 139) (pc' := 146) rfl (hb hby at_139) rfl ((if0 _ _).trans (teq hc2).1) (by decide) (by decide) k) ?_
          refine own_go (A' := (T23.setTop (mkF m 147 #[.val (.int p1), .val (.int p2), .val (.int p3), .val (.int p4), .val (.int p5), .val (.int p6), .val (.long (p1.toInt64)), .second, .val (.long (p2.toInt64)), .second, .val (.long ((p3 &&& (2147483647 : Int32)).toInt64)), .second, .val (.long ((p4 &&& (2147483647 : Int32)).toInt64)), .second, .val (.long ((p1.toInt64) + ((p3 &&& (2147483647 : Int32)).toInt64))), .second, .val (.long ((p2.toInt64) + ((p4 &&& (2147483647 : Int32)).toInt64))), .second, .val (.ref b21), .val (.int (own_cont p1.toInt (p1.toInt + (p3 &&& 2147483647).toInt) p5.toInt p2.toInt (p2.toInt + (p4 &&& 2147483647).toInt) p6.toInt)), .val (.long ((p5.toInt64) - (p1.toInt64))), .second, .val (.long ((p6.toInt64) - (p2.toInt64))), .second, .val (.int ix), .val (.int iy)] [(.int (0 : Int32)), (.int (own_cont p1.toInt (p1.toInt + (p3 &&& 2147483647).toInt) p5.toInt p2.toInt (p2.toInt + (p4 &&& 2147483647).toInt) p6.toInt))]))) (fun _ k => XS.iconst X23.here hx rfl (hb hby at_146) k) ?_
          refine J147 _ (own_nand ?_).symm
          have : ¬ (p2.toInt ≤ p6.toInt ∧ p6.toInt ≤ p2.toInt + (p4 &&& 2147483647).toInt) := by
            intro q
            rw [if_pos q] at hiy; rw [hiy] at hc2; exact absurd hc2 (by decide)
          omega
        · refine own_go (A' := (T23.setTop (mkF m 142 #[.val (.int p1), .val (.int p2), .val (.int p3), .val (.int p4), .val (.int p5), .val (.int p6), .val (.long (p1.toInt64)), .second, .val (.long (p2.toInt64)), .second, .val (.long ((p3 &&& (2147483647 : Int32)).toInt64)), .second, .val (.long ((p4 &&& (2147483647 : Int32)).toInt64)), .second, .val (.long ((p1.toInt64) + ((p3 &&& (2147483647 : Int32)).toInt64))), .second, .val (.long ((p2.toInt64) + ((p4 &&& (2147483647 : Int32)).toInt64))), .second, .val (.ref b21), .val (.int (own_cont p1.toInt (p1.toInt + (p3 &&& 2147483647).toInt) p5.toInt p2.toInt (p2.toInt + (p4 &&& 2147483647).toInt) p6.toInt)), .val (.long ((p5.toInt64) - (p1.toInt64))), .second, .val (.long ((p6.toInt64) - (p2.toInt64))), .second, .val (.int ix), .val (.int iy)] [(.int (own_cont p1.toInt (p1.toInt + (p3 &&& 2147483647).toInt) p5.toInt p2.toInt (p2.toInt + (p4 &&& 2147483647).toInt) p6.toInt))]))) (fun _ k => XS.ifNo X23.here hx rfl (hb hby at_139) rfl ((if0 _ _).trans (feq hc2).1) k) ?_
          have h2 : p2.toInt ≤ p6.toInt ∧ p6.toInt ≤ p2.toInt + (p4 &&& 2147483647).toInt := by
            by_cases q : p2.toInt ≤ p6.toInt ∧ p6.toInt ≤ p2.toInt + (p4 &&& 2147483647).toInt
            · exact q
            · rw [if_neg q] at hiy; exact absurd hiy hc2
          refine own_go (A' := (T23.setTop (mkF m 143 #[.val (.int p1), .val (.int p2), .val (.int p3), .val (.int p4), .val (.int p5), .val (.int p6), .val (.long (p1.toInt64)), .second, .val (.long (p2.toInt64)), .second, .val (.long ((p3 &&& (2147483647 : Int32)).toInt64)), .second, .val (.long ((p4 &&& (2147483647 : Int32)).toInt64)), .second, .val (.long ((p1.toInt64) + ((p3 &&& (2147483647 : Int32)).toInt64))), .second, .val (.long ((p2.toInt64) + ((p4 &&& (2147483647 : Int32)).toInt64))), .second, .val (.ref b21), .val (.int (own_cont p1.toInt (p1.toInt + (p3 &&& 2147483647).toInt) p5.toInt p2.toInt (p2.toInt + (p4 &&& 2147483647).toInt) p6.toInt)), .val (.long ((p5.toInt64) - (p1.toInt64))), .second, .val (.long ((p6.toInt64) - (p2.toInt64))), .second, .val (.int ix), .val (.int iy)] [(.int (1 : Int32)), (.int (own_cont p1.toInt (p1.toInt + (p3 &&& 2147483647).toInt) p5.toInt p2.toInt (p2.toInt + (p4 &&& 2147483647).toInt) p6.toInt))]))) (fun _ k => XS.iconst X23.here hx rfl (hb hby at_142) k) ?_
          refine own_go (A' := (T23.setTop (mkF m 147 #[.val (.int p1), .val (.int p2), .val (.int p3), .val (.int p4), .val (.int p5), .val (.int p6), .val (.long (p1.toInt64)), .second, .val (.long (p2.toInt64)), .second, .val (.long ((p3 &&& (2147483647 : Int32)).toInt64)), .second, .val (.long ((p4 &&& (2147483647 : Int32)).toInt64)), .second, .val (.long ((p1.toInt64) + ((p3 &&& (2147483647 : Int32)).toInt64))), .second, .val (.long ((p2.toInt64) + ((p4 &&& (2147483647 : Int32)).toInt64))), .second, .val (.ref b21), .val (.int (own_cont p1.toInt (p1.toInt + (p3 &&& 2147483647).toInt) p5.toInt p2.toInt (p2.toInt + (p4 &&& 2147483647).toInt) p6.toInt)), .val (.long ((p5.toInt64) - (p1.toInt64))), .second, .val (.long ((p6.toInt64) - (p2.toInt64))), .second, .val (.int ix), .val (.int iy)] [(.int (1 : Int32)), (.int (own_cont p1.toInt (p1.toInt + (p3 &&& 2147483647).toInt) p5.toInt p2.toInt (p2.toInt + (p4 &&& 2147483647).toInt) p6.toInt))]))) (fun _ k => XS.goto X23.here hx rfl (pc0 := 143) (pc' := 147) rfl (hb hby at_143) (by decide) (by decide) k) ?_
          exact J147 _ (own_and h1.1 h1.2 h2.1 h2.2).symm
    have q1 := own_l_lt (p6.toInt64 - p2.toInt64) 0
    have q1' : ((p6.toInt64 - p2.toInt64) < 0) ↔ ((p6.toInt64 - p2.toInt64)).toInt < 0 := Int64.lt_iff_toInt_lt
    by_cases hd1 : (lcmpW ((p6.toInt64) - (p2.toInt64)) (0 : Int64)) < (0 : Int32)
    · refine own_go (A' := (T23.setTop (mkF m 127 #[.val (.int p1), .val (.int p2), .val (.int p3), .val (.int p4), .val (.int p5), .val (.int p6), .val (.long (p1.toInt64)), .second, .val (.long (p2.toInt64)), .second, .val (.long ((p3 &&& (2147483647 : Int32)).toInt64)), .second, .val (.long ((p4 &&& (2147483647 : Int32)).toInt64)), .second, .val (.long ((p1.toInt64) + ((p3 &&& (2147483647 : Int32)).toInt64))), .second, .val (.long ((p2.toInt64) + ((p4 &&& (2147483647 : Int32)).toInt64))), .second, .val (.ref b21), .val (.int (own_cont p1.toInt (p1.toInt + (p3 &&& 2147483647).toInt) p5.toInt p2.toInt (p2.toInt + (p4 &&& 2147483647).toInt) p6.toInt)), .val (.long ((p5.toInt64) - (p1.toInt64))), .second, .val (.long ((p6.toInt64) - (p2.toInt64))), .second, .val (.int ix), .unset] []))) (fun _ k => XS.ifYes X23.here hx rfl (pc0 := 112) (pc' := 127) rfl (hb hby at_112) rfl ((if0 _ _).trans (tlt hd1).1) (by decide) (by decide) k) ?_
      refine own_go (A' := (T23.setTop (mkF m 128 #[.val (.int p1), .val (.int p2), .val (.int p3), .val (.int p4), .val (.int p5), .val (.int p6), .val (.long (p1.toInt64)), .second, .val (.long (p2.toInt64)), .second, .val (.long ((p3 &&& (2147483647 : Int32)).toInt64)), .second, .val (.long ((p4 &&& (2147483647 : Int32)).toInt64)), .second, .val (.long ((p1.toInt64) + ((p3 &&& (2147483647 : Int32)).toInt64))), .second, .val (.long ((p2.toInt64) + ((p4 &&& (2147483647 : Int32)).toInt64))), .second, .val (.ref b21), .val (.int (own_cont p1.toInt (p1.toInt + (p3 &&& 2147483647).toInt) p5.toInt p2.toInt (p2.toInt + (p4 &&& 2147483647).toInt) p6.toInt)), .val (.long ((p5.toInt64) - (p1.toInt64))), .second, .val (.long ((p6.toInt64) - (p2.toInt64))), .second, .val (.int ix), .unset] [(.int (0 : Int32))]))) (fun _ k => XS.iconst X23.here hx rfl (hb hby at_127) k) ?_
      refine J128 _ (if_neg ?_).symm
      have := q1'.mp (q1.mp hd1)
      omega
    · refine own_go (A' := (T23.setTop (mkF m 115 #[.val (.int p1), .val (.int p2), .val (.int p3), .val (.int p4), .val (.int p5), .val (.int p6), .val (.long (p1.toInt64)), .second, .val (.long (p2.toInt64)), .second, .val (.long ((p3 &&& (2147483647 : Int32)).toInt64)), .second, .val (.long ((p4 &&& (2147483647 : Int32)).toInt64)), .second, .val (.long ((p1.toInt64) + ((p3 &&& (2147483647 : Int32)).toInt64))), .second, .val (.long ((p2.toInt64) + ((p4 &&& (2147483647 : Int32)).toInt64))), .second, .val (.ref b21), .val (.int (own_cont p1.toInt (p1.toInt + (p3 &&& 2147483647).toInt) p5.toInt p2.toInt (p2.toInt + (p4 &&& 2147483647).toInt) p6.toInt)), .val (.long ((p5.toInt64) - (p1.toInt64))), .second, .val (.long ((p6.toInt64) - (p2.toInt64))), .second, .val (.int ix), .unset] []))) (fun _ k => XS.ifNo X23.here hx rfl (hb hby at_112) rfl ((if0 _ _).trans (flt hd1).1) k) ?_
      refine own_go (A' := (T23.setTop (mkF m 117 #[.val (.int p1), .val (.int p2), .val (.int p3), .val (.int p4), .val (.int p5), .val (.int p6), .val (.long (p1.toInt64)), .second, .val (.long (p2.toInt64)), .second, .val (.long ((p3 &&& (2147483647 : Int32)).toInt64)), .second, .val (.long ((p4 &&& (2147483647 : Int32)).toInt64)), .second, .val (.long ((p1.toInt64) + ((p3 &&& (2147483647 : Int32)).toInt64))), .second, .val (.long ((p2.toInt64) + ((p4 &&& (2147483647 : Int32)).toInt64))), .second, .val (.ref b21), .val (.int (own_cont p1.toInt (p1.toInt + (p3 &&& 2147483647).toInt) p5.toInt p2.toInt (p2.toInt + (p4 &&& 2147483647).toInt) p6.toInt)), .val (.long ((p5.toInt64) - (p1.toInt64))), .second, .val (.long ((p6.toInt64) - (p2.toInt64))), .second, .val (.int ix), .unset] [(.long ((p6.toInt64) - (p2.toInt64)))]))) (fun _ k => XS.lload X23.here hx rfl (hb hby at_115) rfl k) ?_
      refine own_go (A' := (T23.setTop (mkF m 119 #[.val (.int p1), .val (.int p2), .val (.int p3), .val (.int p4), .val (.int p5), .val (.int p6), .val (.long (p1.toInt64)), .second, .val (.long (p2.toInt64)), .second, .val (.long ((p3 &&& (2147483647 : Int32)).toInt64)), .second, .val (.long ((p4 &&& (2147483647 : Int32)).toInt64)), .second, .val (.long ((p1.toInt64) + ((p3 &&& (2147483647 : Int32)).toInt64))), .second, .val (.long ((p2.toInt64) + ((p4 &&& (2147483647 : Int32)).toInt64))), .second, .val (.ref b21), .val (.int (own_cont p1.toInt (p1.toInt + (p3 &&& 2147483647).toInt) p5.toInt p2.toInt (p2.toInt + (p4 &&& 2147483647).toInt) p6.toInt)), .val (.long ((p5.toInt64) - (p1.toInt64))), .second, .val (.long ((p6.toInt64) - (p2.toInt64))), .second, .val (.int ix), .unset] [(.long ((p4 &&& (2147483647 : Int32)).toInt64)), (.long ((p6.toInt64) - (p2.toInt64)))]))) (fun _ k => XS.lload X23.here hx rfl (hb hby at_117) rfl k) ?_
      refine own_go (A' := (T23.setTop (mkF m 120 #[.val (.int p1), .val (.int p2), .val (.int p3), .val (.int p4), .val (.int p5), .val (.int p6), .val (.long (p1.toInt64)), .second, .val (.long (p2.toInt64)), .second, .val (.long ((p3 &&& (2147483647 : Int32)).toInt64)), .second, .val (.long ((p4 &&& (2147483647 : Int32)).toInt64)), .second, .val (.long ((p1.toInt64) + ((p3 &&& (2147483647 : Int32)).toInt64))), .second, .val (.long ((p2.toInt64) + ((p4 &&& (2147483647 : Int32)).toInt64))), .second, .val (.ref b21), .val (.int (own_cont p1.toInt (p1.toInt + (p3 &&& 2147483647).toInt) p5.toInt p2.toInt (p2.toInt + (p4 &&& 2147483647).toInt) p6.toInt)), .val (.long ((p5.toInt64) - (p1.toInt64))), .second, .val (.long ((p6.toInt64) - (p2.toInt64))), .second, .val (.int ix), .unset] [(.int (lcmpW ((p6.toInt64) - (p2.toInt64)) ((p4 &&& (2147483647 : Int32)).toInt64)))]))) (fun _ k => XS.lcmp X23.here hx rfl (hb hby at_119) rfl k) ?_
      have q2 := own_l_gt (p6.toInt64 - p2.toInt64) (p4 &&& (2147483647 : Int32)).toInt64
      have q2' : ((p4 &&& (2147483647 : Int32)).toInt64 < (p6.toInt64 - p2.toInt64)) ↔ ((p4 &&& (2147483647 : Int32)).toInt64).toInt < ((p6.toInt64 - p2.toInt64)).toInt := Int64.lt_iff_toInt_lt
      have h1 : ¬ ((p6.toInt64 - p2.toInt64)).toInt < 0 := fun r => hd1 (q1.mpr (q1'.mpr r))
      by_cases hd2 : (0 : Int32) < (lcmpW ((p6.toInt64) - (p2.toInt64)) ((p4 &&& (2147483647 : Int32)).toInt64))
      · refine own_go (A' := (T23.setTop (mkF m 127 #[.val (.int p1), .val (.int p2), .val (.int p3), .val (.int p4), .val (.int p5), .val (.int p6), .val (.long (p1.toInt64)), .second, .val (.long (p2.toInt64)), .second, .val (.long ((p3 &&& (2147483647 : Int32)).toInt64)), .second, .val (.long ((p4 &&& (2147483647 : Int32)).toInt64)), .second, .val (.long ((p1.toInt64) + ((p3 &&& (2147483647 : Int32)).toInt64))), .second, .val (.long ((p2.toInt64) + ((p4 &&& (2147483647 : Int32)).toInt64))), .second, .val (.ref b21), .val (.int (own_cont p1.toInt (p1.toInt + (p3 &&& 2147483647).toInt) p5.toInt p2.toInt (p2.toInt + (p4 &&& 2147483647).toInt) p6.toInt)), .val (.long ((p5.toInt64) - (p1.toInt64))), .second, .val (.long ((p6.toInt64) - (p2.toInt64))), .second, .val (.int ix), .unset] []))) (fun _ k => XS.ifYes X23.here hx rfl (pc0 := 120) (pc' := 127) rfl (hb hby at_120) rfl ((if0 _ _).trans (tlt hd2).2.2.1) (by decide) (by decide) k) ?_
        refine own_go (A' := (T23.setTop (mkF m 128 #[.val (.int p1), .val (.int p2), .val (.int p3), .val (.int p4), .val (.int p5), .val (.int p6), .val (.long (p1.toInt64)), .second, .val (.long (p2.toInt64)), .second, .val (.long ((p3 &&& (2147483647 : Int32)).toInt64)), .second, .val (.long ((p4 &&& (2147483647 : Int32)).toInt64)), .second, .val (.long ((p1.toInt64) + ((p3 &&& (2147483647 : Int32)).toInt64))), .second, .val (.long ((p2.toInt64) + ((p4 &&& (2147483647 : Int32)).toInt64))), .second, .val (.ref b21), .val (.int (own_cont p1.toInt (p1.toInt + (p3 &&& 2147483647).toInt) p5.toInt p2.toInt (p2.toInt + (p4 &&& 2147483647).toInt) p6.toInt)), .val (.long ((p5.toInt64) - (p1.toInt64))), .second, .val (.long ((p6.toInt64) - (p2.toInt64))), .second, .val (.int ix), .unset] [(.int (0 : Int32))]))) (fun _ k => XS.iconst X23.here hx rfl (hb hby at_127) k) ?_
        refine J128 _ (if_neg ?_).symm
        have := q2'.mp (q2.mp hd2)
        omega
      · refine own_go (A' := (T23.setTop (mkF m 123 #[.val (.int p1), .val (.int p2), .val (.int p3), .val (.int p4), .val (.int p5), .val (.int p6), .val (.long (p1.toInt64)), .second, .val (.long (p2.toInt64)), .second, .val (.long ((p3 &&& (2147483647 : Int32)).toInt64)), .second, .val (.long ((p4 &&& (2147483647 : Int32)).toInt64)), .second, .val (.long ((p1.toInt64) + ((p3 &&& (2147483647 : Int32)).toInt64))), .second, .val (.long ((p2.toInt64) + ((p4 &&& (2147483647 : Int32)).toInt64))), .second, .val (.ref b21), .val (.int (own_cont p1.toInt (p1.toInt + (p3 &&& 2147483647).toInt) p5.toInt p2.toInt (p2.toInt + (p4 &&& 2147483647).toInt) p6.toInt)), .val (.long ((p5.toInt64) - (p1.toInt64))), .second, .val (.long ((p6.toInt64) - (p2.toInt64))), .second, .val (.int ix), .unset] []))) (fun _ k => XS.ifNo X23.here hx rfl (hb hby at_120) rfl ((if0 _ _).trans (flt hd2).2.2.1) k) ?_
        refine own_go (A' := (T23.setTop (mkF m 124 #[.val (.int p1), .val (.int p2), .val (.int p3), .val (.int p4), .val (.int p5), .val (.int p6), .val (.long (p1.toInt64)), .second, .val (.long (p2.toInt64)), .second, .val (.long ((p3 &&& (2147483647 : Int32)).toInt64)), .second, .val (.long ((p4 &&& (2147483647 : Int32)).toInt64)), .second, .val (.long ((p1.toInt64) + ((p3 &&& (2147483647 : Int32)).toInt64))), .second, .val (.long ((p2.toInt64) + ((p4 &&& (2147483647 : Int32)).toInt64))), .second, .val (.ref b21), .val (.int (own_cont p1.toInt (p1.toInt + (p3 &&& 2147483647).toInt) p5.toInt p2.toInt (p2.toInt + (p4 &&& 2147483647).toInt) p6.toInt)), .val (.long ((p5.toInt64) - (p1.toInt64))), .second, .val (.long ((p6.toInt64) - (p2.toInt64))), .second, .val (.int ix), .unset] [(.int (1 : Int32))]))) (fun _ k => XS.iconst X23.here hx rfl (hb hby at_123) k) ?_
        refine own_go (A' := (T23.setTop (mkF m 128 #[.val (.int p1), .val (.int p2), .val (.int p3), .val (.int p4), .val (.int p5), .val (.int p6), .val (.long (p1.toInt64)), .second, .val (.long (p2.toInt64)), .second, .val (.long ((p3 &&& (2147483647 : Int32)).toInt64)), .second, .val (.long ((p4 &&& (2147483647 : Int32)).toInt64)), .second, .val (.long ((p1.toInt64) + ((p3 &&& (2147483647 : Int32)).toInt64))), .second, .val (.long ((p2.toInt64) + ((p4 &&& (2147483647 : Int32)).toInt64))), .second, .val (.ref b21), .val (.int (own_cont p1.toInt (p1.toInt + (p3 &&& 2147483647).toInt) p5.toInt p2.toInt (p2.toInt + (p4 &&& 2147483647).toInt) p6.toInt)), .val (.long ((p5.toInt64) - (p1.toInt64))), .second, .val (.long ((p6.toInt64) - (p2.toInt64))), .second, .val (.int ix), .unset] [(.int (1 : Int32))]))) (fun _ k => XS.goto X23.here hx rfl (pc0 := 124) (pc' := 128) rfl (hb hby at_124) (by decide) (by decide) k) ?_
        refine J128 _ (if_pos ?_).symm
        have h2 : ¬ ((p4 &&& (2147483647 : Int32)).toInt64).toInt < ((p6.toInt64 - p2.toInt64)).toInt := fun r => hd2 (q2.mpr (q2'.mpr r))
        omega
  have q1 := own_l_lt (p5.toInt64 - p1.toInt64) 0
  have q1' : ((p5.toInt64 - p1.toInt64) < 0) ↔ ((p5.toInt64 - p1.toInt64)).toInt < 0 := Int64.lt_iff_toInt_lt
  by_cases hd1 : (lcmpW ((p5.toInt64) - (p1.toInt64)) (0 : Int64)) < (0 : Int32)
  · refine own_go (A' := (T23.setTop (mkF m 105 #[.val (.int p1), .val (.int p2), .val (.int p3), .val (.int p4), .val (.int p5), .val (.int p6), .val (.long (p1.toInt64)), .second, .val (.long (p2.toInt64)), .second, .val (.long ((p3 &&& (2147483647 : Int32)).toInt64)), .second, .val (.long ((p4 &&& (2147483647 : Int32)).toInt64)), .second, .val (.long ((p1.toInt64) + ((p3 &&& (2147483647 : Int32)).toInt64))), .second, .val (.long ((p2.toInt64) + ((p4 &&& (2147483647 : Int32)).toInt64))), .second, .val (.ref b21), .val (.int (own_cont p1.toInt (p1.toInt + (p3 &&& 2147483647).toInt) p5.toInt p2.toInt (p2.toInt + (p4 &&& 2147483647).toInt) p6.toInt)), .val (.long ((p5.toInt64) - (p1.toInt64))), .second, .val (.long ((p6.toInt64) - (p2.toInt64))), .second, .unset, .unset] []))) (fun _ k => XS.ifYes X23.here hx rfl (pc0 := 90) (pc' := 105) rfl (hb hby at_90) rfl ((if0 _ _).trans (tlt hd1).1) (by decide) (by decide) k) ?_
    refine own_go (A' := (T23.setTop (mkF m 106 #[.val (.int p1), .val (.int p2), .val (.int p3), .val (.int p4), .val (.int p5), .val (.int p6), .val (.long (p1.toInt64)), .second, .val (.long (p2.toInt64)), .second, .val (.long ((p3 &&& (2147483647 : Int32)).toInt64)), .second, .val (.long ((p4 &&& (2147483647 : Int32)).toInt64)), .second, .val (.long ((p1.toInt64) + ((p3 &&& (2147483647 : Int32)).toInt64))), .second, .val (.long ((p2.toInt64) + ((p4 &&& (2147483647 : Int32)).toInt64))), .second, .val (.ref b21), .val (.int (own_cont p1.toInt (p1.toInt + (p3 &&& 2147483647).toInt) p5.toInt p2.toInt (p2.toInt + (p4 &&& 2147483647).toInt) p6.toInt)), .val (.long ((p5.toInt64) - (p1.toInt64))), .second, .val (.long ((p6.toInt64) - (p2.toInt64))), .second, .unset, .unset] [(.int (0 : Int32))]))) (fun _ k => XS.iconst X23.here hx rfl (hb hby at_105) k) ?_
    refine J106 _ (if_neg ?_).symm
    have := q1'.mp (q1.mp hd1)
    omega
  · refine own_go (A' := (T23.setTop (mkF m 93 #[.val (.int p1), .val (.int p2), .val (.int p3), .val (.int p4), .val (.int p5), .val (.int p6), .val (.long (p1.toInt64)), .second, .val (.long (p2.toInt64)), .second, .val (.long ((p3 &&& (2147483647 : Int32)).toInt64)), .second, .val (.long ((p4 &&& (2147483647 : Int32)).toInt64)), .second, .val (.long ((p1.toInt64) + ((p3 &&& (2147483647 : Int32)).toInt64))), .second, .val (.long ((p2.toInt64) + ((p4 &&& (2147483647 : Int32)).toInt64))), .second, .val (.ref b21), .val (.int (own_cont p1.toInt (p1.toInt + (p3 &&& 2147483647).toInt) p5.toInt p2.toInt (p2.toInt + (p4 &&& 2147483647).toInt) p6.toInt)), .val (.long ((p5.toInt64) - (p1.toInt64))), .second, .val (.long ((p6.toInt64) - (p2.toInt64))), .second, .unset, .unset] []))) (fun _ k => XS.ifNo X23.here hx rfl (hb hby at_90) rfl ((if0 _ _).trans (flt hd1).1) k) ?_
    refine own_go (A' := (T23.setTop (mkF m 95 #[.val (.int p1), .val (.int p2), .val (.int p3), .val (.int p4), .val (.int p5), .val (.int p6), .val (.long (p1.toInt64)), .second, .val (.long (p2.toInt64)), .second, .val (.long ((p3 &&& (2147483647 : Int32)).toInt64)), .second, .val (.long ((p4 &&& (2147483647 : Int32)).toInt64)), .second, .val (.long ((p1.toInt64) + ((p3 &&& (2147483647 : Int32)).toInt64))), .second, .val (.long ((p2.toInt64) + ((p4 &&& (2147483647 : Int32)).toInt64))), .second, .val (.ref b21), .val (.int (own_cont p1.toInt (p1.toInt + (p3 &&& 2147483647).toInt) p5.toInt p2.toInt (p2.toInt + (p4 &&& 2147483647).toInt) p6.toInt)), .val (.long ((p5.toInt64) - (p1.toInt64))), .second, .val (.long ((p6.toInt64) - (p2.toInt64))), .second, .unset, .unset] [(.long ((p5.toInt64) - (p1.toInt64)))]))) (fun _ k => XS.lload X23.here hx rfl (hb hby at_93) rfl k) ?_
    refine own_go (A' := (T23.setTop (mkF m 97 #[.val (.int p1), .val (.int p2), .val (.int p3), .val (.int p4), .val (.int p5), .val (.int p6), .val (.long (p1.toInt64)), .second, .val (.long (p2.toInt64)), .second, .val (.long ((p3 &&& (2147483647 : Int32)).toInt64)), .second, .val (.long ((p4 &&& (2147483647 : Int32)).toInt64)), .second, .val (.long ((p1.toInt64) + ((p3 &&& (2147483647 : Int32)).toInt64))), .second, .val (.long ((p2.toInt64) + ((p4 &&& (2147483647 : Int32)).toInt64))), .second, .val (.ref b21), .val (.int (own_cont p1.toInt (p1.toInt + (p3 &&& 2147483647).toInt) p5.toInt p2.toInt (p2.toInt + (p4 &&& 2147483647).toInt) p6.toInt)), .val (.long ((p5.toInt64) - (p1.toInt64))), .second, .val (.long ((p6.toInt64) - (p2.toInt64))), .second, .unset, .unset] [(.long ((p3 &&& (2147483647 : Int32)).toInt64)), (.long ((p5.toInt64) - (p1.toInt64)))]))) (fun _ k => XS.lload X23.here hx rfl (hb hby at_95) rfl k) ?_
    refine own_go (A' := (T23.setTop (mkF m 98 #[.val (.int p1), .val (.int p2), .val (.int p3), .val (.int p4), .val (.int p5), .val (.int p6), .val (.long (p1.toInt64)), .second, .val (.long (p2.toInt64)), .second, .val (.long ((p3 &&& (2147483647 : Int32)).toInt64)), .second, .val (.long ((p4 &&& (2147483647 : Int32)).toInt64)), .second, .val (.long ((p1.toInt64) + ((p3 &&& (2147483647 : Int32)).toInt64))), .second, .val (.long ((p2.toInt64) + ((p4 &&& (2147483647 : Int32)).toInt64))), .second, .val (.ref b21), .val (.int (own_cont p1.toInt (p1.toInt + (p3 &&& 2147483647).toInt) p5.toInt p2.toInt (p2.toInt + (p4 &&& 2147483647).toInt) p6.toInt)), .val (.long ((p5.toInt64) - (p1.toInt64))), .second, .val (.long ((p6.toInt64) - (p2.toInt64))), .second, .unset, .unset] [(.int (lcmpW ((p5.toInt64) - (p1.toInt64)) ((p3 &&& (2147483647 : Int32)).toInt64)))]))) (fun _ k => XS.lcmp X23.here hx rfl (hb hby at_97) rfl k) ?_
    have q2 := own_l_gt (p5.toInt64 - p1.toInt64) (p3 &&& (2147483647 : Int32)).toInt64
    have q2' : ((p3 &&& (2147483647 : Int32)).toInt64 < (p5.toInt64 - p1.toInt64)) ↔ ((p3 &&& (2147483647 : Int32)).toInt64).toInt < ((p5.toInt64 - p1.toInt64)).toInt := Int64.lt_iff_toInt_lt
    have h1 : ¬ ((p5.toInt64 - p1.toInt64)).toInt < 0 := fun r => hd1 (q1.mpr (q1'.mpr r))
    by_cases hd2 : (0 : Int32) < (lcmpW ((p5.toInt64) - (p1.toInt64)) ((p3 &&& (2147483647 : Int32)).toInt64))
    · refine own_go (A' := (T23.setTop (mkF m 105 #[.val (.int p1), .val (.int p2), .val (.int p3), .val (.int p4), .val (.int p5), .val (.int p6), .val (.long (p1.toInt64)), .second, .val (.long (p2.toInt64)), .second, .val (.long ((p3 &&& (2147483647 : Int32)).toInt64)), .second, .val (.long ((p4 &&& (2147483647 : Int32)).toInt64)), .second, .val (.long ((p1.toInt64) + ((p3 &&& (2147483647 : Int32)).toInt64))), .second, .val (.long ((p2.toInt64) + ((p4 &&& (2147483647 : Int32)).toInt64))), .second, .val (.ref b21), .val (.int (own_cont p1.toInt (p1.toInt + (p3 &&& 2147483647).toInt) p5.toInt p2.toInt (p2.toInt + (p4 &&& 2147483647).toInt) p6.toInt)), .val (.long ((p5.toInt64) - (p1.toInt64))), .second, .val (.long ((p6.toInt64) - (p2.toInt64))), .second, .unset, .unset] []))) (fun _ k => XS.ifYes X23.here hx rfl (pc0 := 98) (pc' := 105) rfl (hb hby at_98) rfl ((if0 _ _).trans (tlt hd2).2.2.1) (by decide) (by decide) k) ?_
      refine own_go (A' := (T23.setTop (mkF m 106 #[.val (.int p1), .val (.int p2), .val (.int p3), .val (.int p4), .val (.int p5), .val (.int p6), .val (.long (p1.toInt64)), .second, .val (.long (p2.toInt64)), .second, .val (.long ((p3 &&& (2147483647 : Int32)).toInt64)), .second, .val (.long ((p4 &&& (2147483647 : Int32)).toInt64)), .second, .val (.long ((p1.toInt64) + ((p3 &&& (2147483647 : Int32)).toInt64))), .second, .val (.long ((p2.toInt64) + ((p4 &&& (2147483647 : Int32)).toInt64))), .second, .val (.ref b21), .val (.int (own_cont p1.toInt (p1.toInt + (p3 &&& 2147483647).toInt) p5.toInt p2.toInt (p2.toInt + (p4 &&& 2147483647).toInt) p6.toInt)), .val (.long ((p5.toInt64) - (p1.toInt64))), .second, .val (.long ((p6.toInt64) - (p2.toInt64))), .second, .unset, .unset] [(.int (0 : Int32))]))) (fun _ k => XS.iconst X23.here hx rfl (hb hby at_105) k) ?_
      refine J106 _ (if_neg ?_).symm
      have := q2'.mp (q2.mp hd2)
      omega
    · refine own_go (A' := (T23.setTop (mkF m 101 #[.val (.int p1), .val (.int p2), .val (.int p3), .val (.int p4), .val (.int p5), .val (.int p6), .val (.long (p1.toInt64)), .second, .val (.long (p2.toInt64)), .second, .val (.long ((p3 &&& (2147483647 : Int32)).toInt64)), .second, .val (.long ((p4 &&& (2147483647 : Int32)).toInt64)), .second, .val (.long ((p1.toInt64) + ((p3 &&& (2147483647 : Int32)).toInt64))), .second, .val (.long ((p2.toInt64) + ((p4 &&& (2147483647 : Int32)).toInt64))), .second, .val (.ref b21), .val (.int (own_cont p1.toInt (p1.toInt + (p3 &&& 2147483647).toInt) p5.toInt p2.toInt (p2.toInt + (p4 &&& 2147483647).toInt) p6.toInt)), .val (.long ((p5.toInt64) - (p1.toInt64))), .second, .val (.long ((p6.toInt64) - (p2.toInt64))), .second, .unset, .unset] []))) (fun _ k => XS.ifNo X23.here hx rfl (hb hby at_98) rfl ((if0 _ _).trans (flt hd2).2.2.1) k) ?_
      refine own_go (A' := (T23.setTop (mkF m 102 #[.val (.int p1), .val (.int p2), .val (.int p3), .val (.int p4), .val (.int p5), .val (.int p6), .val (.long (p1.toInt64)), .second, .val (.long (p2.toInt64)), .second, .val (.long ((p3 &&& (2147483647 : Int32)).toInt64)), .second, .val (.long ((p4 &&& (2147483647 : Int32)).toInt64)), .second, .val (.long ((p1.toInt64) + ((p3 &&& (2147483647 : Int32)).toInt64))), .second, .val (.long ((p2.toInt64) + ((p4 &&& (2147483647 : Int32)).toInt64))), .second, .val (.ref b21), .val (.int (own_cont p1.toInt (p1.toInt + (p3 &&& 2147483647).toInt) p5.toInt p2.toInt (p2.toInt + (p4 &&& 2147483647).toInt) p6.toInt)), .val (.long ((p5.toInt64) - (p1.toInt64))), .second, .val (.long ((p6.toInt64) - (p2.toInt64))), .second, .unset, .unset] [(.int (1 : Int32))]))) (fun _ k => XS.iconst X23.here hx rfl (hb hby at_101) k) ?_
      refine own_go (A' := (T23.setTop (mkF m 106 #[.val (.int p1), .val (.int p2), .val (.int p3), .val (.int p4), .val (.int p5), .val (.int p6), .val (.long (p1.toInt64)), .second, .val (.long (p2.toInt64)), .second, .val (.long ((p3 &&& (2147483647 : Int32)).toInt64)), .second, .val (.long ((p4 &&& (2147483647 : Int32)).toInt64)), .second, .val (.long ((p1.toInt64) + ((p3 &&& (2147483647 : Int32)).toInt64))), .second, .val (.long ((p2.toInt64) + ((p4 &&& (2147483647 : Int32)).toInt64))), .second, .val (.ref b21), .val (.int (own_cont p1.toInt (p1.toInt + (p3 &&& 2147483647).toInt) p5.toInt p2.toInt (p2.toInt + (p4 &&& 2147483647).toInt) p6.toInt)), .val (.long ((p5.toInt64) - (p1.toInt64))), .second, .val (.long ((p6.toInt64) - (p2.toInt64))), .second, .unset, .unset] [(.int (1 : Int32))]))) (fun _ k => XS.goto X23.here hx rfl (pc0 := 102) (pc' := 106) rfl (hb hby at_102) (by decide) (by decide) k) ?_
      refine J106 _ (if_pos ?_).symm
      have h2 : ¬ ((p3 &&& (2147483647 : Int32)).toInt64).toInt < ((p5.toInt64 - p1.toInt64)).toInt := fun r => hd2 (q2.mpr (q2'.mpr r))
      omega
theorem own_steq {args : Array Value} {s : State} {t : Term} {k : Int32} (h : (Jvm.Cond.eq t (Jvm.Term.int k)).value args s none s [] = some true) : t.eval args s none [] s = some (.int k) := by
  cases ht : t.eval args s none [] s with
  | none => simp [Cond.value, Term.eval, ht] at h
  | some v =>
    simp only [Cond.value, Term.eval, ht] at h
    cases v <;> simp at h
    rw [h]
set_option maxRecDepth 65536 in
set_option maxHeartbeats 40000000 in
theorem own_comes {Post : Tables → Env → Array Value → State → Outcome → State → Prop} (hpost : ∀ tb e args s v u, (limb_1_1.after args s (.returned v) u = true ∧ limb_1_2.after args s (.returned v) u = true ∧ True) → FrameEnd s (.returned v) u (Jvm.fieldLocs frame_1_writes args s ++ Jvm.arrayLocs frame_1_arrays args s ++ Jvm.staticLocs frame_1_statics s) 24 128 → Post tb e args s (.returned v) u) :
    ArmFor flags0 classFile x code maxLocals ret World_1 tables_1 room_1 Calls_1 rest_1 Pre_1 Post := by
  intro l hfl _ _ p e ha hc hk s m args below hf hA hF happ hP
  obtain ⟨hcalls, hrest, hpre⟩ := hP
  obtain ⟨-, -, -, hnamed, -, -, -, hat⟩ := (Spec.applies_iff hf).mp happ
  obtain ⟨hg, hn⟩ := and_e (Cond.before_iff.mp (show (Jvm.Cond.and given_1 narrow_1).before args s = true from hpre))
  obtain ⟨g1, g2⟩ := and_e hg
  obtain ⟨g3, g4⟩ := and_e g2
  obtain ⟨g5, g6⟩ := and_e g4
  obtain ⟨g7, g8⟩ := and_e g6
  obtain ⟨g9, g10⟩ := and_e g8
  obtain ⟨g11, g12⟩ := and_e g10
  obtain ⟨w0, w1, w2, w3, w4, w5, rfl⟩ : ∃ w0 w1 w2 w3 w4 w5 : Value, args = #[w0, w1, w2, w3, w4, w5] := by
    have hs : args.size = 6 := by simpa [Cond.value, given_1] using g1
    obtain ⟨L⟩ := args
    match L, hs with
    | [w0, w1, w2, w3, w4, w5], _ => exact ⟨w0, w1, w2, w3, w4, w5, rfl⟩
  have hw := fun d (hd : d ∈ tables_1) => atoms_spec (ws := Jvm.Cond.code x code maxLocals ret :: tables_1) hat d (List.mem_cons_of_mem _ hd)
  have hfit : Fit s := fun {y c} hc i hi => by
    obtain ⟨ha, rfl⟩ := Array.getElem?_eq_some_iff.mp hc
    have q := List.all_eq_true.mp ((Array.all_eq_true_iff_forall_mem.mp hF) _ (Array.getElem_mem ha)) i (List.mem_range.mpr hi)
    simpa [Array.getElem?_eq_getElem hi] using q
  obtain ⟨i0, ei0⟩ := is_v g3
  obtain rfl : w0 = (.int i0) := Option.some.inj ei0
  obtain ⟨i1, ei1⟩ := is_v g5
  obtain rfl : w1 = (.int i1) := Option.some.inj ei1
  obtain ⟨i2, ei2⟩ := is_v g7
  obtain rfl : w2 = (.int i2) := Option.some.inj ei2
  obtain ⟨i3, ei3⟩ := is_v g9
  obtain rfl : w3 = (.int i3) := Option.some.inj ei3
  obtain ⟨i4, ei4⟩ := is_v g11
  obtain rfl : w4 = (.int i4) := Option.some.inj ei4
  obtain ⟨i5, ei5⟩ := is_v g12
  obtain rfl : w5 = (.int i5) := Option.some.inj ei5
  obtain ⟨hsets, hown0⟩ := atoms_of _ (rest_1_c_eq ▸ (show rest_1_c.before _ s = true from hrest))
  have hse := Cond.before_iff.mp (hsets _ (List.mem_of_getElem? (i := 5) rfl))
  have S1 : Sta s s.heap "java/util/ImmutableCollections" "$assertionsDisabled" "Z" (.int 1) := Sta.start (own_steq hse) (Or.inl (hsets _ (List.mem_of_getElem? (i := 4) rfl)))
  obtain ⟨n, o, h1, h2, h3, _, L, rfl, ⟨rfl, N⟩, hq⟩ := own_rm0 l s _ hw tables_1 i0 i1 i2 i3 i4 i5   s.heap s.heap.size (Nat.le_refl _)  S1 p e ha hc hk s m _ below hf ((Spec.applies_iff_loose hf).mp happ).1 ⟨rfl, State.Warmed39.refl s, rfl⟩ trivial
  refine ⟨n, _, h1, h2, h3, hpost _ _ _ _ _ _ ⟨Cond.after_iff.mpr rfl, Cond.after_iff.mpr (eq_i res_at (Term.int_eval (1)) rfl), trivial⟩ ⟨hq.1, hq.2.1, (hq.2.2.sift fun y hy => Or.inr (N y hy)).mono (by decide) (by decide)⟩⟩
theorem main_1_1 : Claimed_1_1 := own_comes fun _ _ _ _ _ _ h hF => ⟨h.1, hF⟩
theorem main_1_2 : Claimed_1_2 := own_comes fun _ _ _ _ _ _ h hF => ⟨h.2.1, hF⟩
end Jvm.Pilot.@@N@@
namespace Jvm.Pilot.@@N@@
open Jvm Jvm.ClassFile Sem Op Lib Jvm.Free Jvm.Stand Jvm.Pilot.@@N@@.Jvm.D
/-! MADE BY PROGRAM (witnessworld.py) out of the Statement's table words and the real class files: 32 classes; the members and pool entries that the words name. The judged class is class 1, her method 1. -/
namespace start1
open Jvm.ClassFile
def u (s : String) : CpInfo := .utf8 (stringToUtf16 s)
/-- a pool by its gaps: so many unusable entries, then the entry; so many at the end -/
def gap : Nat → List CpInfo → List CpInfo
  | 0, r => r
  | n + 1, r => .unusable :: gap n r
def poolList (es : List (Nat × CpInfo)) (last : Nat) : List CpInfo := es.foldr (fun e r => gap e.1 (e.2 :: r)) (gap last [])
def pool (es : List (Nat × CpInfo)) (last : Nat) : Array CpInfo := ⟨poolList es last⟩
def fileOf (pool : Array CpInfo) (this : Nat) (attrs : Array Attribute := #[]) (ms : Array MethodInfo := #[]) (fl : Nat := 33) (sup : Nat := 0) (ifs : Array Nat := #[]) (fds : Array FieldInfo := #[]) : ClassFile where
  minorVersion := 0
  majorVersion := 65
  constantPool := pool
  accessFlags := fl
  thisClass := this
  superClass := sup
  interfaces := ifs
  fields := fds
  methods := ms
  attributes := attrs
def plain (name : String) (sup : Option ClassId) : Class where
  name := name
  kind := .ordinary
  loader := none
  accessFlags := 33
  super := sup
  interfaces := #[]
  cf := none
  fields := #[]
  methods := #[]
  instanceTypes := #[]
  staticTypes := #[]
  resolved := #[]
  callSites := []
  init := .initialized
  statics := none
  mirror := none

def pool0 : Array CpInfo := pool [(5, u "<init>"), (0, u "()V"), (1, .class_ 10), (1, u "java/lang/Object")] 113

def k0c0 : Code := { maxStack := 0, maxLocals := 1, code := object_method_1_code, exceptionTable := #[], attributes := #[] }
def k0m0 : Method := { name := "<init>", desc := "()V", sig := { parameters := [], returnType := none }, accessFlags := 1, code := some k0c0 }
/-- java/lang/Object -/
def k0 : Class := { plain "java/lang/Object" none with
  accessFlags := 33
  interfaces := #[]
  cf := some (fileOf pool0 8 #[] #[{ accessFlags := 1, nameIndex := 5, descriptorIndex := 6, attributes := #[] }] 33 0 #[] #[])
  fields := #[]
  methods := #[k0m0]
  instanceTypes := #[]
  staticTypes := #[]
  resolved := Array.replicate 124 none
  statics := none }

def pool1 : Array CpInfo := pool [(2, .class_ 4), (1, u "java/lang/Object"), (0, u "<init>"), (0, u "()V"), (0, .integer 2147483647), (0, .class_ 9), (0, u "com/example/cairntree/cairntree/Window"), (0, .methodref 8 11), (0, .nameAndType 5 12), (0, u "(DDDD)V"), (0, .methodref 8 14), (0, .nameAndType 15 16), (0, u "contains"), (0, u "(DD)Z"), (0, .class_ 18), (0, u "com/example/cairntree/cairntree/WindowContainsPinLaw"), (2, u "law"), (0, u "(IIIIII)Z")] 3

def k1m0 : Method := { name := "<init>", desc := "()V", sig := { parameters := [], returnType := none }, accessFlags := 1, code := none }
def k1c1 : Code := { maxStack := 10, maxLocals := 26, code := code, exceptionTable := #[], attributes := #[] }
def k1m1 : Method := { name := "law", desc := "(IIIIII)Z", sig := { parameters := [.int, .int, .int, .int, .int, .int], returnType := some .boolean }, accessFlags := 9, code := some k1c1 }
/-- com/example/cairntree/cairntree/WindowContainsPinLaw -/
def k1 : Class := { plain "com/example/cairntree/cairntree/WindowContainsPinLaw" (some 0) with
  accessFlags := 49
  interfaces := #[]
  cf := some (fileOf pool1 17 #[] #[{ accessFlags := 1, nameIndex := 5, descriptorIndex := 6, attributes := #[] }, { accessFlags := 9, nameIndex := 21, descriptorIndex := 22, attributes := #[] }] 49 2 #[] #[])
  fields := #[]
  methods := #[k1m0, k1m1]
  instanceTypes := #[]
  staticTypes := #[]
  resolved := Array.replicate 26 none
  statics := none }

def pool2 : Array CpInfo := pool [(1, .methodref 2 3), (0, .class_ 4), (0, .nameAndType 5 6), (0, u "java/lang/Object"), (0, u "<init>"), (0, u "()V"), (0, .class_ 8), (0, u "java/lang/Record")] 13

def k2c0 : Code := { maxStack := 1, maxLocals := 1, code := jdk_30_method_1_code, exceptionTable := #[], attributes := #[] }
def k2m0 : Method := { name := "<init>", desc := "()V", sig := { parameters := [], returnType := none }, accessFlags := 4, code := some k2c0 }
/-- java/lang/Record -/
def k2 : Class := { plain "java/lang/Record" (some 0) with
  accessFlags := 1057
  interfaces := #[]
  cf := some (fileOf pool2 7 #[] #[{ accessFlags := 4, nameIndex := 5, descriptorIndex := 6, attributes := #[] }] 1057 2 #[] #[])
  fields := #[]
  methods := #[k2m0]
  instanceTypes := #[]
  staticTypes := #[]
  resolved := Array.replicate 22 none
  statics := none }

def pool3 : Array CpInfo := pool [(1, .class_ 2), (0, u "com/example/cairntree/cairntree/Area"), (0, .class_ 4), (0, u "java/lang/Object")] 6

/-- com/example/cairntree/cairntree/Area -/
def k3 : Class := { plain "com/example/cairntree/cairntree/Area" (some 0) with
  accessFlags := 1536
  interfaces := #[]
  cf := some (fileOf pool3 1 #[] #[] 1536 3 #[] #[])
  fields := #[]
  methods := #[]
  instanceTypes := #[]
  staticTypes := #[]
  resolved := Array.replicate 11 none
  statics := none }

def pool4 : Array CpInfo := pool [(1, .methodref 2 3), (0, .class_ 4), (0, .nameAndType 5 6), (0, u "java/lang/Record"), (0, u "<init>"), (0, u "()V"), (0, .methodref 8 9), (0, .class_ 10), (0, .nameAndType 11 12), (0, u "java/lang/Double"), (0, u "valueOf"), (0, u "(D)Ljava/lang/Double;"), (0, .interfaceMethodref 14 15), (0, .class_ 16), (0, .nameAndType 17 18), (0, u "java/util/List"), (0, u "of"), (0, u "(Ljava/lang/Object;Ljava/lang/Object;Ljava/lang/Object;Ljava/lang/Object;)Ljava/util/List;"), (0, .interfaceMethodref 14 20), (0, .nameAndType 21 22), (0, u "iterator"), (0, u "()Ljava/util/Iterator;"), (0, .interfaceMethodref 24 25), (0, .class_ 26), (0, .nameAndType 27 28), (0, u "java/util/Iterator"), (0, u "hasNext"), (0, u "()Z"), (0, .interfaceMethodref 24 30), (0, .nameAndType 31 32), (0, u "next"), (0, u "()Ljava/lang/Object;"), (0, .methodref 8 34), (0, .nameAndType 35 36), (0, u "doubleValue"), (0, u "()D"), (0, .methodref 8 38), (0, .nameAndType 39 40), (0, u "isFinite"), (0, u "(D)Z"), (12, .fieldref 54 55), (0, .class_ 56), (0, .nameAndType 57 58), (0, u "com/example/cairntree/cairntree/Window"), (0, u "minX"), (0, u "D"), (0, .fieldref 54 60), (0, .nameAndType 61 58), (0, u "minY"), (0, .fieldref 54 63), (0, .nameAndType 64 58), (0, u "maxX"), (0, .fieldref 54 66), (0, .nameAndType 67 58), (0, u "maxY"), (19, u "(DDDD)V"), (12, .class_ 101), (0, u "com/example/cairntree/cairntree/Area"), (12, u "contains"), (0, u "(DD)Z")] 38

def k4c0 : Code := { maxStack := 10, maxLocals := 12, code := prog_39_method_1_code, exceptionTable := #[], attributes := #[] }
def k4m0 : Method := { name := "<init>", desc := "(DDDD)V", sig := { parameters := [.double, .double, .double, .double], returnType := none }, accessFlags := 1, code := some k4c0 }
def k4c1 : Code := { maxStack := 4, maxLocals := 5, code := prog_39_method_4_code, exceptionTable := #[], attributes := #[] }
def k4m1 : Method := { name := "contains", desc := "(DD)Z", sig := { parameters := [.double, .double], returnType := some .boolean }, accessFlags := 1, code := some k4c1 }
/-- com/example/cairntree/cairntree/Window -/
def k4 : Class := { plain "com/example/cairntree/cairntree/Window" (some 2) with
  accessFlags := 49
  interfaces := #[3]
  cf := some (fileOf pool4 54 #[] #[{ accessFlags := 1, nameIndex := 5, descriptorIndex := 87, attributes := #[] }, { accessFlags := 1, nameIndex := 114, descriptorIndex := 115, attributes := #[] }] 49 2 #[100] #[{ accessFlags := 18, nameIndex := 57, descriptorIndex := 58, attributes := #[] }, { accessFlags := 18, nameIndex := 61, descriptorIndex := 58, attributes := #[] }, { accessFlags := 18, nameIndex := 64, descriptorIndex := 58, attributes := #[] }, { accessFlags := 18, nameIndex := 67, descriptorIndex := 58, attributes := #[] }])
  fields := #[{ name := "minX", type := .double, accessFlags := 18, slot := 0, constantValue := 0 }, { name := "minY", type := .double, accessFlags := 18, slot := 1, constantValue := 0 }, { name := "maxX", type := .double, accessFlags := 18, slot := 2, constantValue := 0 }, { name := "maxY", type := .double, accessFlags := 18, slot := 3, constantValue := 0 }]
  methods := #[k4m0, k4m1]
  instanceTypes := #[.double, .double, .double, .double]
  staticTypes := #[]
  resolved := Array.replicate 154 none
  statics := none }

def pool5 : Array CpInfo := pool [(1, .class_ 2), (0, u "java/io/Serializable"), (0, .class_ 4), (0, u "java/lang/Object")] 2

/-- java/io/Serializable -/
def k5 : Class := { plain "java/io/Serializable" (some 0) with
  accessFlags := 1537
  interfaces := #[]
  cf := some (fileOf pool5 1 #[] #[] 1537 3 #[] #[])
  fields := #[]
  methods := #[]
  instanceTypes := #[]
  staticTypes := #[]
  resolved := Array.replicate 7 none
  statics := none }

def pool6 : Array CpInfo := pool [(1, .methodref 2 3), (0, .class_ 4), (0, .nameAndType 5 6), (0, u "java/lang/Object"), (0, u "<init>"), (0, u "()V"), (1, .class_ 10), (1, u "java/lang/Number"), (2, .class_ 14), (0, u "java/io/Serializable"), (0, u "serialVersionUID"), (0, u "J")] 20

def k6c0 : Code := { maxStack := 1, maxLocals := 1, code := jdk_18_method_1_code, exceptionTable := #[], attributes := #[] }
def k6m0 : Method := { name := "<init>", desc := "()V", sig := { parameters := [], returnType := none }, accessFlags := 1, code := some k6c0 }
/-- java/lang/Number -/
def k6 : Class := { plain "java/lang/Number" (some 0) with
  accessFlags := 1057
  interfaces := #[5]
  cf := some (fileOf pool6 8 #[] #[{ accessFlags := 1, nameIndex := 5, descriptorIndex := 6, attributes := #[] }] 1057 2 #[13] #[{ accessFlags := 26, nameIndex := 15, descriptorIndex := 16, attributes := #[] }])
  fields := #[{ name := "serialVersionUID", type := .long, accessFlags := 26, slot := 0, constantValue := 0 }]
  methods := #[k6m0]
  instanceTypes := #[]
  staticTypes := #[.long]
  resolved := Array.replicate 37 none
  statics := none }

def pool7 : Array CpInfo := pool [(1, .class_ 2), (0, u "java/lang/Comparable"), (0, .class_ 4), (0, u "java/lang/Object")] 7

/-- java/lang/Comparable -/
def k7 : Class := { plain "java/lang/Comparable" (some 0) with
  accessFlags := 1537
  interfaces := #[]
  cf := some (fileOf pool7 1 #[] #[] 1537 3 #[] #[])
  fields := #[]
  methods := #[]
  instanceTypes := #[]
  staticTypes := #[]
  resolved := Array.replicate 12 none
  statics := none }

def pool8 : Array CpInfo := pool [(1, .class_ 2), (0, u "java/lang/constant/Constable"), (0, .class_ 4), (0, u "java/lang/Object")] 6

/-- java/lang/constant/Constable -/
def k8 : Class := { plain "java/lang/constant/Constable" (some 0) with
  accessFlags := 1537
  interfaces := #[]
  cf := some (fileOf pool8 1 #[] #[] 1537 3 #[] #[])
  fields := #[]
  methods := #[]
  instanceTypes := #[]
  staticTypes := #[]
  resolved := Array.replicate 11 none
  statics := none }

def pool9 : Array CpInfo := pool [(1, .class_ 2), (0, u "java/lang/constant/ConstantDesc"), (0, .class_ 4), (0, u "java/lang/Object")] 32

/-- java/lang/constant/ConstantDesc -/
def k9 : Class := { plain "java/lang/constant/ConstantDesc" (some 0) with
  accessFlags := 1537
  interfaces := #[]
  cf := some (fileOf pool9 1 #[] #[] 1537 3 #[] #[])
  fields := #[]
  methods := #[]
  instanceTypes := #[]
  staticTypes := #[]
  resolved := Array.replicate 37 none
  statics := none }

def pool10 : Array CpInfo := pool [(1, .class_ 2), (0, u "java/lang/Double"), (10, u "isFinite"), (0, u "(D)Z"), (5, u "<init>"), (2, .class_ 25), (1, u "java/lang/Math"), (12, .methodref 23 39), (0, .nameAndType 40 41), (0, u "abs"), (0, u "(D)D"), (63, .methodref 1 106), (0, .nameAndType 20 107), (0, u "(D)V"), (3, .double 9218868437227405311), (1, .methodref 114 115), (0, .class_ 116), (0, .nameAndType 20 117), (0, u "java/lang/Number"), (0, u "()V"), (0, .fieldref 1 119), (0, .nameAndType 120 121), (0, u "value"), (0, u "D"), (51, u "TYPE"), (0, u "Ljava/lang/Class;"), (0, .class_ 176), (0, u "java/lang/Comparable"), (0, .class_ 178), (0, u "java/lang/constant/Constable"), (0, .class_ 180), (0, u "java/lang/constant/ConstantDesc"), (0, u "POSITIVE_INFINITY"), (3, u "NEGATIVE_INFINITY"), (2, u "NaN"), (2, u "MAX_VALUE"), (0, u "MIN_NORMAL"), (0, u "MIN_VALUE"), (2, u "SIZE"), (0, u "I"), (1, u "PRECISION"), (1, u "MAX_EXPONENT"), (1, u "MIN_EXPONENT"), (1, u "BYTES"), (3, u "serialVersionUID"), (0, u "J"), (14, u "valueOf"), (5, u "(D)Ljava/lang/Double;"), (23, u "doubleValue"), (0, u "()D")] 33

def k10c0 : Code := { maxStack := 4, maxLocals := 2, code := jdk_117_method_4_code, exceptionTable := #[], attributes := #[] }
def k10m0 : Method := { name := "valueOf", desc := "(D)Ljava/lang/Double;", sig := { parameters := [.double], returnType := some (.object "java/lang/Double") }, accessFlags := 9, code := some k10c0 }
def k10c1 : Code := { maxStack := 4, maxLocals := 2, code := jdk_117_method_8_code, exceptionTable := #[], attributes := #[] }
def k10m1 : Method := { name := "isFinite", desc := "(D)Z", sig := { parameters := [.double], returnType := some .boolean }, accessFlags := 9, code := some k10c1 }
def k10c2 : Code := { maxStack := 3, maxLocals := 3, code := jdk_117_method_9_code, exceptionTable := #[], attributes := #[] }
def k10m2 : Method := { name := "<init>", desc := "(D)V", sig := { parameters := [.double], returnType := none }, accessFlags := 1, code := some k10c2 }
def k10c3 : Code := { maxStack := 2, maxLocals := 1, code := jdk_117_method_19_code, exceptionTable := #[], attributes := #[] }
def k10m3 : Method := { name := "doubleValue", desc := "()D", sig := { parameters := [], returnType := some .double }, accessFlags := 1, code := some k10c3 }
/-- java/lang/Double -/
def k10 : Class := { plain "java/lang/Double" (some 6) with
  accessFlags := 49
  interfaces := #[7, 8, 9]
  cf := some (fileOf pool10 1 #[] #[{ accessFlags := 9, nameIndex := 225, descriptorIndex := 231, attributes := #[] }, { accessFlags := 9, nameIndex := 13, descriptorIndex := 14, attributes := #[] }, { accessFlags := 1, nameIndex := 20, descriptorIndex := 107, attributes := #[] }, { accessFlags := 1, nameIndex := 255, descriptorIndex := 256, attributes := #[] }] 49 114 #[175, 177, 179] #[{ accessFlags := 25, nameIndex := 181, descriptorIndex := 121, attributes := #[] }, { accessFlags := 25, nameIndex := 185, descriptorIndex := 121, attributes := #[] }, { accessFlags := 25, nameIndex := 188, descriptorIndex := 121, attributes := #[] }, { accessFlags := 25, nameIndex := 191, descriptorIndex := 121, attributes := #[] }, { accessFlags := 25, nameIndex := 192, descriptorIndex := 121, attributes := #[] }, { accessFlags := 25, nameIndex := 193, descriptorIndex := 121, attributes := #[] }, { accessFlags := 25, nameIndex := 196, descriptorIndex := 197, attributes := #[] }, { accessFlags := 25, nameIndex := 199, descriptorIndex := 197, attributes := #[] }, { accessFlags := 25, nameIndex := 201, descriptorIndex := 197, attributes := #[] }, { accessFlags := 25, nameIndex := 203, descriptorIndex := 197, attributes := #[] }, { accessFlags := 25, nameIndex := 205, descriptorIndex := 197, attributes := #[] }, { accessFlags := 25, nameIndex := 173, descriptorIndex := 174, attributes := #[] }, { accessFlags := 18, nameIndex := 120, descriptorIndex := 121, attributes := #[] }, { accessFlags := 26, nameIndex := 209, descriptorIndex := 210, attributes := #[] }])
  fields := #[{ name := "POSITIVE_INFINITY", type := .double, accessFlags := 25, slot := 0, constantValue := 0 }, { name := "NEGATIVE_INFINITY", type := .double, accessFlags := 25, slot := 1, constantValue := 0 }, { name := "NaN", type := .double, accessFlags := 25, slot := 2, constantValue := 0 }, { name := "MAX_VALUE", type := .double, accessFlags := 25, slot := 3, constantValue := 0 }, { name := "MIN_NORMAL", type := .double, accessFlags := 25, slot := 4, constantValue := 0 }, { name := "MIN_VALUE", type := .double, accessFlags := 25, slot := 5, constantValue := 0 }, { name := "SIZE", type := .int, accessFlags := 25, slot := 6, constantValue := 0 }, { name := "PRECISION", type := .int, accessFlags := 25, slot := 7, constantValue := 0 }, { name := "MAX_EXPONENT", type := .int, accessFlags := 25, slot := 8, constantValue := 0 }, { name := "MIN_EXPONENT", type := .int, accessFlags := 25, slot := 9, constantValue := 0 }, { name := "BYTES", type := .int, accessFlags := 25, slot := 10, constantValue := 0 }, { name := "TYPE", type := (.object "java/lang/Class"), accessFlags := 25, slot := 11, constantValue := 0 }, { name := "value", type := .double, accessFlags := 18, slot := 0, constantValue := 0 }, { name := "serialVersionUID", type := .long, accessFlags := 26, slot := 12, constantValue := 0 }]
  methods := #[k10m0, k10m1, k10m2, k10m3]
  instanceTypes := #[.double]
  staticTypes := #[.double, .double, .double, .double, .double, .double, .int, .int, .int, .int, .int, (.object "java/lang/Class"), .long]
  resolved := Array.replicate 290 none
  statics := none }

def pool11 : Array CpInfo := pool [(8, .class_ 10), (1, u "java/lang/Iterable"), (24, .class_ 36), (0, u "java/lang/Object")] 25

/-- java/lang/Iterable -/
def k11 : Class := { plain "java/lang/Iterable" (some 0) with
  accessFlags := 1537
  interfaces := #[]
  cf := some (fileOf pool11 8 #[] #[] 1537 35 #[] #[])
  fields := #[]
  methods := #[]
  instanceTypes := #[]
  staticTypes := #[]
  resolved := Array.replicate 62 none
  statics := none }

def pool12 : Array CpInfo := pool [(10, .class_ 12), (1, u "java/util/Collection"), (47, .class_ 61), (0, u "java/lang/Object"), (0, .class_ 63), (0, u "java/lang/Iterable")] 51

/-- java/util/Collection -/
def k12 : Class := { plain "java/util/Collection" (some 0) with
  accessFlags := 1537
  interfaces := #[11]
  cf := some (fileOf pool12 10 #[] #[] 1537 60 #[62] #[])
  fields := #[]
  methods := #[]
  instanceTypes := #[]
  staticTypes := #[]
  resolved := Array.replicate 115 none
  statics := none }

def pool13 : Array CpInfo := pool [(8, .class_ 10), (1, u "java/util/SequencedCollection"), (15, .class_ 27), (0, u "java/lang/Object"), (0, .class_ 29), (0, u "java/util/Collection")] 27

/-- java/util/SequencedCollection -/
def k13 : Class := { plain "java/util/SequencedCollection" (some 0) with
  accessFlags := 1537
  interfaces := #[12]
  cf := some (fileOf pool13 8 #[] #[] 1537 26 #[28] #[])
  fields := #[]
  methods := #[]
  instanceTypes := #[]
  staticTypes := #[]
  resolved := Array.replicate 57 none
  statics := none }

def pool14 : Array CpInfo := pool [(8, .class_ 10), (1, u "java/util/List"), (64, u "get"), (0, u "(I)Ljava/lang/Object;"), (11, u "of"), (2, .class_ 93), (1, u "java/util/ImmutableCollections"), (9, .class_ 104), (0, u "java/lang/Object"), (0, .methodref 91 106), (0, .nameAndType 107 108), (0, u "listFromTrustedArray"), (0, u "([Ljava/lang/Object;)Ljava/util/List;"), (11, .class_ 121), (0, u "java/util/SequencedCollection"), (1, u "iterator"), (0, u "()Ljava/util/Iterator;"), (82, u "(Ljava/lang/Object;Ljava/lang/Object;Ljava/lang/Object;Ljava/lang/Object;)Ljava/util/List;")] 43

def k14m0 : Method := { name := "iterator", desc := "()Ljava/util/Iterator;", sig := { parameters := [], returnType := some (.object "java/util/Iterator") }, accessFlags := 1025, code := none }
def k14m1 : Method := { name := "get", desc := "(I)Ljava/lang/Object;", sig := { parameters := [.int], returnType := some (.object "java/lang/Object") }, accessFlags := 1025, code := none }
def k14c2 : Code := { maxStack := 4, maxLocals := 4, code := jdk_40_method_40_code, exceptionTable := #[], attributes := #[] }
def k14m2 : Method := { name := "of", desc := "(Ljava/lang/Object;Ljava/lang/Object;Ljava/lang/Object;Ljava/lang/Object;)Ljava/util/List;", sig := { parameters := [(.object "java/lang/Object"), (.object "java/lang/Object"), (.object "java/lang/Object"), (.object "java/lang/Object")], returnType := some (.object "java/util/List") }, accessFlags := 9, code := some k14c2 }
/-- java/util/List -/
def k14 : Class := { plain "java/util/List" (some 0) with
  accessFlags := 1537
  interfaces := #[13]
  cf := some (fileOf pool14 8 #[] #[{ accessFlags := 1025, nameIndex := 123, descriptorIndex := 124, attributes := #[] }, { accessFlags := 1025, nameIndex := 75, descriptorIndex := 76, attributes := #[] }, { accessFlags := 9, nameIndex := 88, descriptorIndex := 207, attributes := #[] }] 1537 103 #[120] #[])
  fields := #[]
  methods := #[k14m0, k14m1, k14m2]
  instanceTypes := #[]
  staticTypes := #[]
  resolved := Array.replicate 251 none
  statics := none }

def pool15 : Array CpInfo := pool [(2, .class_ 4), (1, u "java/lang/Object"), (0, u "<init>"), (0, u "()V"), (3, .class_ 11), (0, u "java/util/ImmutableCollections$List12"), (0, .class_ 13), (0, u "java/util/ImmutableCollections$ListN"), (3, u "Z"), (18, u "([Ljava/lang/Object;)Ljava/util/List;"), (0, .methodref 38 39), (0, .class_ 40), (0, .nameAndType 41 42), (0, u "java/util/Objects"), (0, u "requireNonNull"), (0, u "(Ljava/lang/Object;)Ljava/lang/Object;"), (0, .methodref 12 44), (0, .nameAndType 5 45), (0, u "([Ljava/lang/Object;Z)V"), (0, .fieldref 47 48), (0, .class_ 49), (0, .nameAndType 50 17), (0, u "java/util/ImmutableCollections"), (0, u "$assertionsDisabled"), (5, u "[Ljava/lang/Object;"), (5, u "EMPTY_LIST"), (0, u "Ljava/util/ImmutableCollections$ListN;"), (8, u "EMPTY_LIST_NULLS"), (22, u "SALT32L"), (0, u "J"), (2, u "REVERSE"), (6, u "archivedObjects"), (2, u "EMPTY"), (0, u "Ljava/lang/Object;"), (0, .class_ 112), (0, u "java/util/ImmutableCollections$SetN"), (5, u "EMPTY_SET"), (0, u "Ljava/util/ImmutableCollections$SetN;"), (0, .class_ 121), (0, u "java/util/ImmutableCollections$MapN"), (3, u "EMPTY_MAP"), (0, u "Ljava/util/ImmutableCollections$MapN;"), (4, u "EXPAND_FACTOR"), (0, u "I"), (26, u "listFromTrustedArray"), (9, .class_ 170), (0, u "java/util/ImmutableCollections$MapN$MapNIterator"), (0, .class_ 172), (0, u "java/util/ImmutableCollections$MapN$1"), (0, .class_ 174), (0, u "java/util/ImmutableCollections$Map1"), (0, .class_ 176), (0, u "java/util/ImmutableCollections$AbstractImmutableMap"), (0, .class_ 178), (0, u "java/util/ImmutableCollections$SetN$SetNIterator"), (0, .class_ 180), (0, u "java/util/ImmutableCollections$Set12"), (0, .class_ 182), (0, u "java/util/ImmutableCollections$Set12$1"), (0, .class_ 184), (0, u "java/util/ImmutableCollections$AbstractImmutableSet"), (0, .class_ 186), (0, u "java/util/ImmutableCollections$SubList"), (0, .class_ 188), (0, u "java/util/ImmutableCollections$ListItr"), (0, .class_ 190), (0, u "java/util/ImmutableCollections$AbstractImmutableList"), (0, .class_ 192), (0, u "java/util/ImmutableCollections$AbstractImmutableCollection"), (0, .class_ 194), (0, u "java/util/ImmutableCollections$Access"), (0, .class_ 196), (0, u "java/util/ImmutableCollections$Access$1")] 16

def k15m0 : Method := { name := "<init>", desc := "()V", sig := { parameters := [], returnType := none }, accessFlags := 2, code := none }
def k15c1 : Code := { maxStack := 5, maxLocals := 5, code := jdk_56_method_5_code, exceptionTable := #[], attributes := #[] }
def k15m1 : Method := { name := "listFromTrustedArray", desc := "([Ljava/lang/Object;)Ljava/util/List;", sig := { parameters := [(.array (.object "java/lang/Object"))], returnType := some (.object "java/util/List") }, accessFlags := 136, code := some k15c1 }
/-- java/util/ImmutableCollections -/
def k15 : Class := { plain "java/util/ImmutableCollections" (some 0) with
  accessFlags := 32
  interfaces := #[]
  cf := some (fileOf pool15 47 #[.nestMembers #[120, 169, 171, 173, 175, 111, 177, 179, 181, 183, 12, 10, 185, 187, 189, 191, 193, 195]] #[{ accessFlags := 2, nameIndex := 5, descriptorIndex := 6, attributes := #[] }, { accessFlags := 136, nameIndex := 159, descriptorIndex := 36, attributes := #[] }] 32 2 #[] #[{ accessFlags := 26, nameIndex := 95, descriptorIndex := 96, attributes := #[] }, { accessFlags := 26, nameIndex := 99, descriptorIndex := 17, attributes := #[] }, { accessFlags := 10, nameIndex := 106, descriptorIndex := 56, attributes := #[] }, { accessFlags := 26, nameIndex := 109, descriptorIndex := 110, attributes := #[] }, { accessFlags := 24, nameIndex := 62, descriptorIndex := 63, attributes := #[] }, { accessFlags := 24, nameIndex := 72, descriptorIndex := 63, attributes := #[] }, { accessFlags := 24, nameIndex := 118, descriptorIndex := 119, attributes := #[] }, { accessFlags := 24, nameIndex := 125, descriptorIndex := 126, attributes := #[] }, { accessFlags := 24, nameIndex := 131, descriptorIndex := 132, attributes := #[] }, { accessFlags := 4120, nameIndex := 50, descriptorIndex := 17, attributes := #[] }])
  fields := #[{ name := "SALT32L", type := .long, accessFlags := 26, slot := 0, constantValue := 0 }, { name := "REVERSE", type := .boolean, accessFlags := 26, slot := 1, constantValue := 0 }, { name := "archivedObjects", type := (.array (.object "java/lang/Object")), accessFlags := 10, slot := 2, constantValue := 0 }, { name := "EMPTY", type := (.object "java/lang/Object"), accessFlags := 26, slot := 3, constantValue := 0 }, { name := "EMPTY_LIST", type := (.object "java/util/ImmutableCollections$ListN"), accessFlags := 24, slot := 4, constantValue := 0 }, { name := "EMPTY_LIST_NULLS", type := (.object "java/util/ImmutableCollections$ListN"), accessFlags := 24, slot := 5, constantValue := 0 }, { name := "EMPTY_SET", type := (.object "java/util/ImmutableCollections$SetN"), accessFlags := 24, slot := 6, constantValue := 0 }, { name := "EMPTY_MAP", type := (.object "java/util/ImmutableCollections$MapN"), accessFlags := 24, slot := 7, constantValue := 0 }, { name := "EXPAND_FACTOR", type := .int, accessFlags := 24, slot := 8, constantValue := 0 }, { name := "$assertionsDisabled", type := .boolean, accessFlags := 4120, slot := 9, constantValue := 0 }]
  methods := #[k15m0, k15m1]
  instanceTypes := #[]
  staticTypes := #[.long, .boolean, (.array (.object "java/lang/Object")), (.object "java/lang/Object"), (.object "java/util/ImmutableCollections$ListN"), (.object "java/util/ImmutableCollections$ListN"), (.object "java/util/ImmutableCollections$SetN"), (.object "java/util/ImmutableCollections$MapN"), .int, .boolean]
  resolved := Array.replicate 213 none
  statics := some 0 }

def pool16 : Array CpInfo := pool [(2, .class_ 4), (1, u "java/lang/Object"), (0, u "<init>"), (0, u "()V"), (35, .class_ 44), (1, u "java/util/Objects"), (0, u "requireNonNull"), (0, u "(Ljava/lang/Object;)Ljava/lang/Object;")] 137

def k16m0 : Method := { name := "<init>", desc := "()V", sig := { parameters := [], returnType := none }, accessFlags := 2, code := none }
def k16c1 : Code := { maxStack := 2, maxLocals := 1, code := jdk_31_method_10_code, exceptionTable := #[], attributes := #[] }
def k16m1 : Method := { name := "requireNonNull", desc := "(Ljava/lang/Object;)Ljava/lang/Object;", sig := { parameters := [(.object "java/lang/Object")], returnType := some (.object "java/lang/Object") }, accessFlags := 9, code := some k16c1 }
/-- java/util/Objects -/
def k16 : Class := { plain "java/util/Objects" (some 0) with
  accessFlags := 49
  interfaces := #[]
  cf := some (fileOf pool16 42 #[] #[{ accessFlags := 2, nameIndex := 5, descriptorIndex := 6, attributes := #[] }, { accessFlags := 9, nameIndex := 45, descriptorIndex := 46, attributes := #[] }] 49 2 #[] #[])
  fields := #[]
  methods := #[k16m0, k16m1]
  instanceTypes := #[]
  staticTypes := #[]
  resolved := Array.replicate 184 none
  statics := none }

def pool17 : Array CpInfo := pool [(1, .methodref 2 3), (0, .class_ 4), (0, .nameAndType 5 6), (0, u "java/lang/Object"), (0, u "<init>"), (0, u "()V"), (1, .class_ 10), (1, u "java/util/AbstractCollection"), (0, u "size"), (0, u "()I"), (64, .class_ 78), (0, u "java/util/Collection")] 81

def k17c0 : Code := { maxStack := 1, maxLocals := 1, code := jdk_22_method_1_code, exceptionTable := #[], attributes := #[] }
def k17m0 : Method := { name := "<init>", desc := "()V", sig := { parameters := [], returnType := none }, accessFlags := 4, code := some k17c0 }
def k17m1 : Method := { name := "size", desc := "()I", sig := { parameters := [], returnType := some .int }, accessFlags := 1025, code := none }
/-- java/util/AbstractCollection -/
def k17 : Class := { plain "java/util/AbstractCollection" (some 0) with
  accessFlags := 1057
  interfaces := #[12]
  cf := some (fileOf pool17 8 #[] #[{ accessFlags := 4, nameIndex := 5, descriptorIndex := 6, attributes := #[] }, { accessFlags := 1025, nameIndex := 11, descriptorIndex := 12, attributes := #[] }] 1057 2 #[77] #[])
  fields := #[]
  methods := #[k17m0, k17m1]
  instanceTypes := #[]
  staticTypes := #[]
  resolved := Array.replicate 160 none
  statics := none }

def pool18 : Array CpInfo := pool [(1, .methodref 2 3), (0, .class_ 4), (0, .nameAndType 5 6), (0, u "java/util/AbstractCollection"), (0, u "<init>"), (0, u "()V"), (1, .class_ 10), (1, u "java/util/ImmutableCollections"), (2, .class_ 14), (0, u "java/util/ImmutableCollections$AbstractImmutableCollection")] 41

def k18c0 : Code := { maxStack := 1, maxLocals := 1, code := jdk_47_method_1_code, exceptionTable := #[], attributes := #[] }
def k18m0 : Method := { name := "<init>", desc := "()V", sig := { parameters := [], returnType := none }, accessFlags := 0, code := some k18c0 }
/-- java/util/ImmutableCollections$AbstractImmutableCollection -/
def k18 : Class := { plain "java/util/ImmutableCollections$AbstractImmutableCollection" (some 17) with
  accessFlags := 1056
  interfaces := #[]
  cf := some (fileOf pool18 13 #[.nestHost 8] #[{ accessFlags := 0, nameIndex := 5, descriptorIndex := 6, attributes := #[] }] 1056 2 #[] #[])
  fields := #[]
  methods := #[k18m0]
  instanceTypes := #[]
  staticTypes := #[]
  resolved := Array.replicate 56 none
  statics := none }

def pool19 : Array CpInfo := pool [(1, .class_ 2), (0, u "java/util/RandomAccess"), (0, .class_ 4), (0, u "java/lang/Object")] 2

/-- java/util/RandomAccess -/
def k19 : Class := { plain "java/util/RandomAccess" (some 0) with
  accessFlags := 1537
  interfaces := #[]
  cf := some (fileOf pool19 1 #[] #[] 1537 3 #[] #[])
  fields := #[]
  methods := #[]
  instanceTypes := #[]
  staticTypes := #[]
  resolved := Array.replicate 7 none
  statics := none }

def pool20 : Array CpInfo := pool [(1, .methodref 2 3), (0, .class_ 4), (0, .nameAndType 5 6), (0, u "java/util/ImmutableCollections$AbstractImmutableCollection"), (0, u "<init>"), (0, u "()V"), (1, .class_ 10), (1, u "java/util/ImmutableCollections"), (2, .methodref 14 15), (0, .class_ 16), (0, .nameAndType 17 18), (0, u "java/util/ImmutableCollections$AbstractImmutableList"), (0, u "size"), (0, u "()I"), (42, .class_ 62), (0, u "java/util/ImmutableCollections$ListItr"), (0, .methodref 61 64), (0, .nameAndType 5 65), (0, u "(Ljava/util/List;I)V"), (11, .class_ 78), (0, u "java/util/List"), (2, u "iterator"), (0, u "()Ljava/util/Iterator;"), (41, .class_ 125), (0, u "java/util/RandomAccess")] 70

def k20c0 : Code := { maxStack := 1, maxLocals := 1, code := jdk_46_method_1_code, exceptionTable := #[], attributes := #[] }
def k20m0 : Method := { name := "<init>", desc := "()V", sig := { parameters := [], returnType := none }, accessFlags := 0, code := some k20c0 }
def k20c1 : Code := { maxStack := 4, maxLocals := 1, code := jdk_46_method_10_code, exceptionTable := #[], attributes := #[] }
def k20m1 : Method := { name := "iterator", desc := "()Ljava/util/Iterator;", sig := { parameters := [], returnType := some (.object "java/util/Iterator") }, accessFlags := 1, code := some k20c1 }
/-- java/util/ImmutableCollections$AbstractImmutableList -/
def k20 : Class := { plain "java/util/ImmutableCollections$AbstractImmutableList" (some 18) with
  accessFlags := 1056
  interfaces := #[14, 19]
  cf := some (fileOf pool20 14 #[.nestHost 8] #[{ accessFlags := 0, nameIndex := 5, descriptorIndex := 6, attributes := #[] }, { accessFlags := 1, nameIndex := 81, descriptorIndex := 82, attributes := #[] }] 1056 2 #[77, 124] #[])
  fields := #[]
  methods := #[k20m0, k20m1]
  instanceTypes := #[]
  staticTypes := #[]
  resolved := Array.replicate 196 none
  statics := none }

def pool21 : Array CpInfo := pool [(1, .methodref 2 3), (0, .class_ 4), (0, .nameAndType 5 6), (0, u "java/util/ImmutableCollections$AbstractImmutableList"), (0, u "<init>"), (0, u "()V"), (0, .fieldref 8 9), (0, .class_ 10), (0, .nameAndType 11 12), (0, u "java/util/ImmutableCollections$ListN"), (0, u "elements"), (0, u "[Ljava/lang/Object;"), (0, .fieldref 8 14), (0, .nameAndType 15 16), (0, u "allowNulls"), (0, u "Z"), (42, .class_ 60), (0, u "java/io/Serializable"), (4, u "([Ljava/lang/Object;Z)V"), (11, u "size"), (0, u "()I"), (0, u "get"), (0, u "(I)Ljava/lang/Object;"), (33, .class_ 115), (0, u "java/util/ImmutableCollections")] 3

def k21c0 : Code := { maxStack := 2, maxLocals := 3, code := jdk_45_method_1_code, exceptionTable := #[], attributes := #[] }
def k21m0 : Method := { name := "<init>", desc := "([Ljava/lang/Object;Z)V", sig := { parameters := [(.array (.object "java/lang/Object")), .boolean], returnType := none }, accessFlags := 2, code := some k21c0 }
def k21c1 : Code := { maxStack := 1, maxLocals := 1, code := jdk_45_method_3_code, exceptionTable := #[], attributes := #[] }
def k21m1 : Method := { name := "size", desc := "()I", sig := { parameters := [], returnType := some .int }, accessFlags := 1, code := some k21c1 }
def k21c2 : Code := { maxStack := 2, maxLocals := 2, code := jdk_45_method_4_code, exceptionTable := #[], attributes := #[] }
def k21m2 : Method := { name := "get", desc := "(I)Ljava/lang/Object;", sig := { parameters := [.int], returnType := some (.object "java/lang/Object") }, accessFlags := 1, code := some k21c2 }
/-- java/util/ImmutableCollections$ListN -/
def k21 : Class := { plain "java/util/ImmutableCollections$ListN" (some 20) with
  accessFlags := 48
  interfaces := #[5]
  cf := some (fileOf pool21 8 #[.nestHost 114] #[{ accessFlags := 2, nameIndex := 5, descriptorIndex := 65, attributes := #[] }, { accessFlags := 1, nameIndex := 77, descriptorIndex := 78, attributes := #[] }, { accessFlags := 1, nameIndex := 79, descriptorIndex := 80, attributes := #[] }] 48 2 #[59] #[{ accessFlags := 18, nameIndex := 11, descriptorIndex := 12, attributes := #[] }, { accessFlags := 18, nameIndex := 15, descriptorIndex := 16, attributes := #[] }])
  fields := #[{ name := "elements", type := (.array (.object "java/lang/Object")), accessFlags := 18, slot := 0, constantValue := 0 }, { name := "allowNulls", type := .boolean, accessFlags := 18, slot := 1, constantValue := 0 }]
  methods := #[k21m0, k21m1, k21m2]
  instanceTypes := #[(.array (.object "java/lang/Object")), .boolean]
  staticTypes := #[]
  resolved := Array.replicate 119 none
  statics := none }

def pool22 : Array CpInfo := pool [(16, .class_ 18), (1, u "java/util/Iterator"), (0, u "hasNext"), (0, u "()Z"), (2, u "next"), (0, u "()Ljava/lang/Object;"), (6, .class_ 32), (0, u "java/lang/Object")] 20

def k22m0 : Method := { name := "hasNext", desc := "()Z", sig := { parameters := [], returnType := some .boolean }, accessFlags := 1025, code := none }
def k22m1 : Method := { name := "next", desc := "()Ljava/lang/Object;", sig := { parameters := [], returnType := some (.object "java/lang/Object") }, accessFlags := 1025, code := none }
/-- java/util/Iterator -/
def k22 : Class := { plain "java/util/Iterator" (some 0) with
  accessFlags := 1537
  interfaces := #[]
  cf := some (fileOf pool22 16 #[] #[{ accessFlags := 1025, nameIndex := 19, descriptorIndex := 20, attributes := #[] }, { accessFlags := 1025, nameIndex := 23, descriptorIndex := 24, attributes := #[] }] 1537 31 #[] #[])
  fields := #[]
  methods := #[k22m0, k22m1]
  instanceTypes := #[]
  staticTypes := #[]
  resolved := Array.replicate 53 none
  statics := none }

def pool23 : Array CpInfo := pool [(1, .class_ 2), (0, u "java/util/ListIterator"), (0, .class_ 4), (0, u "java/lang/Object"), (0, .class_ 6), (0, u "java/util/Iterator")] 20

/-- java/util/ListIterator -/
def k23 : Class := { plain "java/util/ListIterator" (some 0) with
  accessFlags := 1537
  interfaces := #[22]
  cf := some (fileOf pool23 1 #[] #[] 1537 3 #[5] #[])
  fields := #[]
  methods := #[]
  instanceTypes := #[]
  staticTypes := #[]
  resolved := Array.replicate 27 none
  statics := none }

def pool24 : Array CpInfo := pool [(1, .methodref 2 3), (0, .class_ 4), (0, .nameAndType 5 6), (0, u "java/lang/Object"), (0, u "<init>"), (0, u "()V"), (0, .fieldref 8 9), (0, .class_ 10), (0, .nameAndType 11 12), (0, u "java/util/ImmutableCollections$ListItr"), (0, u "list"), (0, u "Ljava/util/List;"), (0, .fieldref 8 14), (0, .nameAndType 15 16), (0, u "size"), (0, u "I"), (0, .fieldref 8 18), (0, .nameAndType 19 16), (0, u "cursor"), (0, .fieldref 8 21), (0, .nameAndType 22 23), (0, u "isListIterator"), (0, u "Z"), (0, .interfaceMethodref 25 26), (0, .class_ 27), (0, .nameAndType 28 29), (0, u "java/util/List"), (0, u "get"), (0, u "(I)Ljava/lang/Object;"), (6, .class_ 38), (1, u "java/util/ImmutableCollections"), (2, .class_ 42), (0, u "java/util/ListIterator"), (4, u "(Ljava/util/List;I)V"), (11, u "hasNext"), (0, u "()Z"), (1, u "next"), (0, u "()Ljava/lang/Object;")] 22

def k24c0 : Code := { maxStack := 2, maxLocals := 3, code := jdk_53_method_1_code, exceptionTable := #[], attributes := #[] }
def k24m0 : Method := { name := "<init>", desc := "(Ljava/util/List;I)V", sig := { parameters := [(.object "java/util/List"), .int], returnType := none }, accessFlags := 0, code := some k24c0 }
def k24c1 : Code := { maxStack := 2, maxLocals := 1, code := jdk_53_method_3_code, exceptionTable := #[], attributes := #[] }
def k24m1 : Method := { name := "hasNext", desc := "()Z", sig := { parameters := [], returnType := some .boolean }, accessFlags := 1, code := some k24c1 }
def k24c2 : Code := { maxStack := 3, maxLocals := 3, code := jdk_53_method_4_code, exceptionTable := #[{ startPc := 0, endPc := 24, handlerPc := 25, catchType := 30 }], attributes := #[] }
def k24m2 : Method := { name := "next", desc := "()Ljava/lang/Object;", sig := { parameters := [], returnType := some (.object "java/lang/Object") }, accessFlags := 1, code := some k24c2 }
/-- java/util/ImmutableCollections$ListItr -/
def k24 : Class := { plain "java/util/ImmutableCollections$ListItr" (some 0) with
  accessFlags := 48
  interfaces := #[23]
  cf := some (fileOf pool24 8 #[.nestHost 36] #[{ accessFlags := 0, nameIndex := 5, descriptorIndex := 47, attributes := #[] }, { accessFlags := 1, nameIndex := 59, descriptorIndex := 60, attributes := #[] }, { accessFlags := 1, nameIndex := 62, descriptorIndex := 63, attributes := #[] }] 48 2 #[41] #[{ accessFlags := 18, nameIndex := 11, descriptorIndex := 12, attributes := #[] }, { accessFlags := 18, nameIndex := 15, descriptorIndex := 16, attributes := #[] }, { accessFlags := 18, nameIndex := 22, descriptorIndex := 23, attributes := #[] }, { accessFlags := 2, nameIndex := 19, descriptorIndex := 16, attributes := #[] }])
  fields := #[{ name := "list", type := (.object "java/util/List"), accessFlags := 18, slot := 0, constantValue := 0 }, { name := "size", type := .int, accessFlags := 18, slot := 1, constantValue := 0 }, { name := "isListIterator", type := .boolean, accessFlags := 18, slot := 2, constantValue := 0 }, { name := "cursor", type := .int, accessFlags := 2, slot := 3, constantValue := 0 }]
  methods := #[k24m0, k24m1, k24m2]
  instanceTypes := #[(.object "java/util/List"), .int, .boolean, .int]
  staticTypes := #[]
  resolved := Array.replicate 86 none
  statics := none }

def pool25 : Array CpInfo := pool [(1, .class_ 2), (0, u "java/lang/Math"), (1, .class_ 6), (1, u "java/lang/Object"), (0, u "<init>"), (0, u "()V"), (5, u "(D)D"), (83, .class_ 100), (1, u "java/lang/Math$RandomNumberGeneratorHolder"), (23, u "abs"), (47, u "negativeZeroFloatBits"), (0, u "J"), (2, u "negativeZeroDoubleBits"), (68, u "$assertionsDisabled"), (0, u "Z"), (91, u "twoToTheDoubleScaleDown"), (0, u "D"), (4, u "twoToTheDoubleScaleUp"), (9, u "E"), (3, u "PI"), (2, u "TAU"), (2, u "DEGREES_TO_RADIANS"), (0, u "RADIANS_TO_DEGREES")] 94

def k25m0 : Method := { name := "<init>", desc := "()V", sig := { parameters := [], returnType := none }, accessFlags := 2, code := none }
def k25c1 : Code := { maxStack := 4, maxLocals := 2, code := jdk_29_method_64_code, exceptionTable := #[], attributes := #[] }
def k25m1 : Method := { name := "abs", desc := "(D)D", sig := { parameters := [.double], returnType := some .double }, accessFlags := 9, code := some k25c1 }
/-- java/lang/Math -/
def k25 : Class := { plain "java/lang/Math" (some 0) with
  accessFlags := 49
  interfaces := #[]
  cf := some (fileOf pool25 1 #[.nestMembers #[98]] #[{ accessFlags := 2, nameIndex := 7, descriptorIndex := 8, attributes := #[] }, { accessFlags := 9, nameIndex := 124, descriptorIndex := 14, attributes := #[] }] 49 4 #[] #[{ accessFlags := 25, nameIndex := 354, descriptorIndex := 339, attributes := #[] }, { accessFlags := 25, nameIndex := 358, descriptorIndex := 339, attributes := #[] }, { accessFlags := 25, nameIndex := 361, descriptorIndex := 339, attributes := #[] }, { accessFlags := 26, nameIndex := 364, descriptorIndex := 339, attributes := #[] }, { accessFlags := 26, nameIndex := 365, descriptorIndex := 339, attributes := #[] }, { accessFlags := 26, nameIndex := 172, descriptorIndex := 173, attributes := #[] }, { accessFlags := 26, nameIndex := 176, descriptorIndex := 173, attributes := #[] }, { accessFlags := 8, nameIndex := 344, descriptorIndex := 339, attributes := #[] }, { accessFlags := 8, nameIndex := 338, descriptorIndex := 339, attributes := #[] }, { accessFlags := 4120, nameIndex := 245, descriptorIndex := 246, attributes := #[] }])
  fields := #[{ name := "E", type := .double, accessFlags := 25, slot := 0, constantValue := 0 }, { name := "PI", type := .double, accessFlags := 25, slot := 1, constantValue := 0 }, { name := "TAU", type := .double, accessFlags := 25, slot := 2, constantValue := 0 }, { name := "DEGREES_TO_RADIANS", type := .double, accessFlags := 26, slot := 3, constantValue := 0 }, { name := "RADIANS_TO_DEGREES", type := .double, accessFlags := 26, slot := 4, constantValue := 0 }, { name := "negativeZeroFloatBits", type := .long, accessFlags := 26, slot := 5, constantValue := 0 }, { name := "negativeZeroDoubleBits", type := .long, accessFlags := 26, slot := 6, constantValue := 0 }, { name := "twoToTheDoubleScaleUp", type := .double, accessFlags := 8, slot := 7, constantValue := 0 }, { name := "twoToTheDoubleScaleDown", type := .double, accessFlags := 8, slot := 8, constantValue := 0 }, { name := "$assertionsDisabled", type := .boolean, accessFlags := 4120, slot := 9, constantValue := 0 }]
  methods := #[k25m0, k25m1]
  instanceTypes := #[]
  staticTypes := #[.double, .double, .double, .double, .double, .long, .long, .double, .double, .boolean]
  resolved := Array.replicate 460 none
  statics := none }

def pool26 : Array CpInfo := pool [(1, u "java/lang/Cloneable"), (0, .class_ 1), (0, u "java/lang/Object"), (0, .class_ 3)] 3

/-- java/lang/Cloneable -/
def k26 : Class := { plain "java/lang/Cloneable" (some 0) with
  accessFlags := 1537
  interfaces := #[]
  cf := some (fileOf pool26 2 #[] #[] 1537 4 #[] #[])
  fields := #[]
  methods := #[]
  instanceTypes := #[]
  staticTypes := #[]
  resolved := Array.replicate 8 none
  statics := none }

/-- the primitive byte -/
def k27 : Class := { plain "byte" none with kind := .primitive 'B', accessFlags := 0x411 }
/-- [B -/
def k28 : Class := { plain "[B" (some 0) with kind := .array 27 .byte, interfaces := #[26, 5], accessFlags := 1041 }

/-- the primitive int -/
def k29 : Class := { plain "int" none with kind := .primitive 'I', accessFlags := 0x411 }
/-- [I -/
def k30 : Class := { plain "[I" (some 0) with kind := .array 29 .int, interfaces := #[26, 5], accessFlags := 1041 }

/-- [Ljava/lang/Object; -/
def k31 : Class := { plain "[Ljava/lang/Object;" (some 0) with kind := .array 0 (.object "java/lang/Object"), interfaces := #[26, 5], accessFlags := 1041 }

def heap : Heap := #[{ cls := 15, slots := #[.long 0, .int 0, .null, .ref 1, .ref 2, .null, .null, .null, .int 0, .int 1], vm := .statics 15 },
  { cls := 0, slots := #[], vm := .none },
  { cls := 21, slots := #[.null, .int 0], vm := .none }]
def classes : Array Class := #[k0, k1, k2, k3, k4, k5, k6, k7, k8, k9, k10, k11, k12, k13, k14, k15, k16, k17, k18, k19, k20, k21, k22, k23, k24, k25, k26, k27, k28, k29, k30, k31]
def interned : List (Array UInt16 × Addr) := []
def slotsUsed : Nat := 12
def theMethod : MethodId := ⟨1, 1⟩
def args0 : Array Value := #[.int 5, .int 6, .int 7, .int 8, .int 9, .int 10]
def aboutOver (below : List Frame) : State where
  vm := { classes := classes, interned := interned.toArray }
  heap := heap
  slotsUsed := slotsUsed
  threads := #[{ frames := .invoking theMethod args0 :: below }]
def below0 : List Frame := [.native { method := ⟨0, 0⟩, args := #[] }]
def about1 : State := aboutOver below0
def p0 : Program := .bare "" "" ""
def e0 : Env := launch0.env 0 0 0
theorem w_frames : about1.frames = Frame.invoking theMethod args0 :: below0 := rfl
set_option maxRecDepth 65536 in
theorem w_args : argsFit about1.vm theMethod args0 = true := by decide +kernel
set_option maxRecDepth 65536 in
theorem w_heap : heapFits about1 = true := by decide +kernel
set_option maxRecDepth 65536 in
theorem w_runnable : about1.curStatus? = some .runnable := by decide +kernel
set_option maxRecDepth 65536 in
theorem w_alone : about1.alone = true := by decide +kernel
set_option maxRecDepth 65536 in
theorem w_named : about1.methodNamed? x = some theMethod := by decide +kernel
set_option maxRecDepth 65536 in
theorem w_hears : about1.hears theMethod below0 = true := by decide +kernel
set_option maxRecDepth 65536 in
theorem w_ripe : about1.ripe theMethod args0 below0 = true := by decide +kernel
theorem w_running : about1.status = .running := rfl
set_option maxRecDepth 65536 in
theorem w_room : about1.hasRoom e0.platform room_1 = true :=
  launch0.hasRoom_least _ room_1 (by decide +kernel) (by decide +kernel) (by decide +kernel) (by decide +kernel) (by decide +kernel) (by decide +kernel)
theorem allAtoms_all (ts : List Jvm.Cond) (a : Array Jvm.Value) (st : Jvm.State) : (allAtoms ts).before a st = ts.all (fun c => c.before a st) := by
  induction ts with
  | nil => rfl
  | cons c t ih =>
    show (Jvm.Cond.and c (allAtoms t)).before a st = _
    rw [Jvm.Cond.before_and, ih, List.all_cons]
def words1 : List Jvm.Cond := Jvm.Cond.code x code maxLocals ret :: tables_1
/-- a 'code' word, met by the world's own term for the bytes: nothing is compared byte by byte -/
theorem code_word {y : MethodName} {bytes : ByteArray} {mx : Nat} {rt : Option FieldType} {a : Array Value} {s : State} {m : MethodId} {meth : Method} {c : Code} (h1 : s.methodNamed? y = some m) (h2 : s.vm.method? m = some meth) (h3 : meth.code = some c) (h4 : c.code = bytes)
    (h5 : (c.maxLocals == mx && c.exceptionTable.isEmpty && decide (c.maxStack ≤ mostOperands) && decide (meth.sig.returnType = rt) && !meth.locks && decide (parseMethodDescriptor y.desc = some meth.sig)) = true) : (Jvm.Cond.code y bytes mx rt).before a s = true := by
  simp only [Bool.and_eq_true, beq_iff_eq, Bool.not_eq_true', decide_eq_true_eq] at h5
  obtain ⟨⟨⟨⟨⟨g1, g2⟩, g3⟩, g4⟩, g5⟩, g6⟩ := h5
  simp [Cond.before, Cond.holds, Cond.value, h1, h2, h3, h4, g1, g2, g3, g4, g5, g6]
def isCode : Jvm.Cond → Bool
  | .code _ _ _ _ => true
  | _ => false
theorem all_split {L : List Jvm.Cond} {P : Jvm.Cond → Bool} (h1 : L.all (fun c => isCode c || P c) = true) (h2 : ∀ c ∈ L.filter isCode, P c = true) : L.all P = true := by
  refine List.all_eq_true.mpr fun c hc => ?_
  have h := List.all_eq_true.mp h1 c hc
  rcases Bool.eq_false_or_eq_true (isCode c) with hi | hi
  · exact h2 c (List.mem_filter.mpr ⟨hc, hi⟩)
  · simpa [hi] using h
set_option maxRecDepth 65536 in
theorem w_c0 : (Jvm.Cond.code x code maxLocals ret).before args0 about1 = true := code_word (m := ⟨1, 1⟩) (meth := k1m1) (c := k1c1) (by decide +kernel) rfl rfl rfl (by decide +kernel)
set_option maxRecDepth 65536 in
theorem w_c1 : (Jvm.Cond.code ({ cls := "com/example/cairntree/cairntree/Window", name := "<init>", desc := "(DDDD)V" } : Jvm.MethodName) prog_39_method_1_code (12 : Nat) (Option.none : Option Jvm.ClassFile.FieldType)).before args0 about1 = true := code_word (m := ⟨4, 0⟩) (meth := k4m0) (c := k4c0) (by decide +kernel) rfl rfl rfl (by decide +kernel)
set_option maxRecDepth 65536 in
theorem w_c2 : (Jvm.Cond.code ({ cls := "java/lang/Record", name := "<init>", desc := "()V" } : Jvm.MethodName) jdk_30_method_1_code (1 : Nat) (Option.none : Option Jvm.ClassFile.FieldType)).before args0 about1 = true := code_word (m := ⟨2, 0⟩) (meth := k2m0) (c := k2c0) (by decide +kernel) rfl rfl rfl (by decide +kernel)
set_option maxRecDepth 65536 in
theorem w_c3 : (Jvm.Cond.code ({ cls := "java/lang/Object", name := "<init>", desc := "()V" } : Jvm.MethodName) object_method_1_code (1 : Nat) (Option.none : Option Jvm.ClassFile.FieldType)).before args0 about1 = true := code_word (m := ⟨0, 0⟩) (meth := k0m0) (c := k0c0) (by decide +kernel) rfl rfl rfl (by decide +kernel)
set_option maxRecDepth 65536 in
theorem w_c4 : (Jvm.Cond.code ({ cls := "java/lang/Double", name := "valueOf", desc := "(D)Ljava/lang/Double;" } : Jvm.MethodName) jdk_117_method_4_code (2 : Nat) (Option.some (Jvm.ClassFile.FieldType.object "java/lang/Double"))).before args0 about1 = true := code_word (m := ⟨10, 0⟩) (meth := k10m0) (c := k10c0) (by decide +kernel) rfl rfl rfl (by decide +kernel)
set_option maxRecDepth 65536 in
theorem w_c5 : (Jvm.Cond.code ({ cls := "java/lang/Double", name := "<init>", desc := "(D)V" } : Jvm.MethodName) jdk_117_method_9_code (3 : Nat) (Option.none : Option Jvm.ClassFile.FieldType)).before args0 about1 = true := code_word (m := ⟨10, 2⟩) (meth := k10m2) (c := k10c2) (by decide +kernel) rfl rfl rfl (by decide +kernel)
set_option maxRecDepth 65536 in
theorem w_c6 : (Jvm.Cond.code ({ cls := "java/lang/Number", name := "<init>", desc := "()V" } : Jvm.MethodName) jdk_18_method_1_code (1 : Nat) (Option.none : Option Jvm.ClassFile.FieldType)).before args0 about1 = true := code_word (m := ⟨6, 0⟩) (meth := k6m0) (c := k6c0) (by decide +kernel) rfl rfl rfl (by decide +kernel)
set_option maxRecDepth 65536 in
theorem w_c7 : (Jvm.Cond.code ({ cls := "java/util/List", name := "of", desc := "(Ljava/lang/Object;Ljava/lang/Object;Ljava/lang/Object;Ljava/lang/Object;)Ljava/util/List;" } : Jvm.MethodName) jdk_40_method_40_code (4 : Nat) (Option.some (Jvm.ClassFile.FieldType.object "java/util/List"))).before args0 about1 = true := code_word (m := ⟨14, 2⟩) (meth := k14m2) (c := k14c2) (by decide +kernel) rfl rfl rfl (by decide +kernel)
set_option maxRecDepth 65536 in
theorem w_c8 : (Jvm.Cond.code ({ cls := "java/util/ImmutableCollections", name := "listFromTrustedArray", desc := "([Ljava/lang/Object;)Ljava/util/List;" } : Jvm.MethodName) jdk_56_method_5_code (5 : Nat) (Option.some (Jvm.ClassFile.FieldType.object "java/util/List"))).before args0 about1 = true := code_word (m := ⟨15, 1⟩) (meth := k15m1) (c := k15c1) (by decide +kernel) rfl rfl rfl (by decide +kernel)
set_option maxRecDepth 65536 in
theorem w_c9 : (Jvm.Cond.code ({ cls := "java/util/Objects", name := "requireNonNull", desc := "(Ljava/lang/Object;)Ljava/lang/Object;" } : Jvm.MethodName) jdk_31_method_10_code (1 : Nat) (Option.some (Jvm.ClassFile.FieldType.object "java/lang/Object"))).before args0 about1 = true := code_word (m := ⟨16, 1⟩) (meth := k16m1) (c := k16c1) (by decide +kernel) rfl rfl rfl (by decide +kernel)
set_option maxRecDepth 65536 in
theorem w_c10 : (Jvm.Cond.code ({ cls := "java/util/ImmutableCollections$ListN", name := "<init>", desc := "([Ljava/lang/Object;Z)V" } : Jvm.MethodName) jdk_45_method_1_code (3 : Nat) (Option.none : Option Jvm.ClassFile.FieldType)).before args0 about1 = true := code_word (m := ⟨21, 0⟩) (meth := k21m0) (c := k21c0) (by decide +kernel) rfl rfl rfl (by decide +kernel)
set_option maxRecDepth 65536 in
theorem w_c11 : (Jvm.Cond.code ({ cls := "java/util/ImmutableCollections$AbstractImmutableList", name := "<init>", desc := "()V" } : Jvm.MethodName) jdk_46_method_1_code (1 : Nat) (Option.none : Option Jvm.ClassFile.FieldType)).before args0 about1 = true := code_word (m := ⟨20, 0⟩) (meth := k20m0) (c := k20c0) (by decide +kernel) rfl rfl rfl (by decide +kernel)
set_option maxRecDepth 65536 in
theorem w_c12 : (Jvm.Cond.code ({ cls := "java/util/ImmutableCollections$AbstractImmutableCollection", name := "<init>", desc := "()V" } : Jvm.MethodName) jdk_47_method_1_code (1 : Nat) (Option.none : Option Jvm.ClassFile.FieldType)).before args0 about1 = true := code_word (m := ⟨18, 0⟩) (meth := k18m0) (c := k18c0) (by decide +kernel) rfl rfl rfl (by decide +kernel)
set_option maxRecDepth 65536 in
theorem w_c13 : (Jvm.Cond.code ({ cls := "java/util/AbstractCollection", name := "<init>", desc := "()V" } : Jvm.MethodName) jdk_22_method_1_code (1 : Nat) (Option.none : Option Jvm.ClassFile.FieldType)).before args0 about1 = true := code_word (m := ⟨17, 0⟩) (meth := k17m0) (c := k17c0) (by decide +kernel) rfl rfl rfl (by decide +kernel)
set_option maxRecDepth 65536 in
theorem w_c14 : (Jvm.Cond.code ({ cls := "java/util/ImmutableCollections$AbstractImmutableList", name := "iterator", desc := "()Ljava/util/Iterator;" } : Jvm.MethodName) jdk_46_method_10_code (1 : Nat) (Option.some (Jvm.ClassFile.FieldType.object "java/util/Iterator"))).before args0 about1 = true := code_word (m := ⟨20, 1⟩) (meth := k20m1) (c := k20c1) (by decide +kernel) rfl rfl rfl (by decide +kernel)
set_option maxRecDepth 65536 in
theorem w_c15 : (Jvm.Cond.code ({ cls := "java/util/ImmutableCollections$ListN", name := "size", desc := "()I" } : Jvm.MethodName) jdk_45_method_3_code (1 : Nat) (Option.some Jvm.ClassFile.FieldType.int)).before args0 about1 = true := code_word (m := ⟨21, 1⟩) (meth := k21m1) (c := k21c1) (by decide +kernel) rfl rfl rfl (by decide +kernel)
set_option maxRecDepth 65536 in
theorem w_c16 : (Jvm.Cond.code ({ cls := "java/util/ImmutableCollections$ListItr", name := "<init>", desc := "(Ljava/util/List;I)V" } : Jvm.MethodName) jdk_53_method_1_code (3 : Nat) (Option.none : Option Jvm.ClassFile.FieldType)).before args0 about1 = true := code_word (m := ⟨24, 0⟩) (meth := k24m0) (c := k24c0) (by decide +kernel) rfl rfl rfl (by decide +kernel)
set_option maxRecDepth 65536 in
theorem w_c17 : (Jvm.Cond.code ({ cls := "java/util/ImmutableCollections$ListItr", name := "hasNext", desc := "()Z" } : Jvm.MethodName) jdk_53_method_3_code (1 : Nat) (Option.some Jvm.ClassFile.FieldType.boolean)).before args0 about1 = true := code_word (m := ⟨24, 1⟩) (meth := k24m1) (c := k24c1) (by decide +kernel) rfl rfl rfl (by decide +kernel)
set_option maxRecDepth 65536 in
theorem w_c18 : (Jvm.Cond.code ({ cls := "java/util/ImmutableCollections$ListN", name := "get", desc := "(I)Ljava/lang/Object;" } : Jvm.MethodName) jdk_45_method_4_code (2 : Nat) (Option.some (Jvm.ClassFile.FieldType.object "java/lang/Object"))).before args0 about1 = true := code_word (m := ⟨21, 2⟩) (meth := k21m2) (c := k21c2) (by decide +kernel) rfl rfl rfl (by decide +kernel)
set_option maxRecDepth 65536 in
theorem w_c19 : (Jvm.Cond.code ({ cls := "java/lang/Double", name := "doubleValue", desc := "()D" } : Jvm.MethodName) jdk_117_method_19_code (1 : Nat) (Option.some Jvm.ClassFile.FieldType.double)).before args0 about1 = true := code_word (m := ⟨10, 3⟩) (meth := k10m3) (c := k10c3) (by decide +kernel) rfl rfl rfl (by decide +kernel)
set_option maxRecDepth 65536 in
theorem w_c20 : (Jvm.Cond.code ({ cls := "java/lang/Double", name := "isFinite", desc := "(D)Z" } : Jvm.MethodName) jdk_117_method_8_code (2 : Nat) (Option.some Jvm.ClassFile.FieldType.boolean)).before args0 about1 = true := code_word (m := ⟨10, 1⟩) (meth := k10m1) (c := k10c1) (by decide +kernel) rfl rfl rfl (by decide +kernel)
set_option maxRecDepth 65536 in
theorem w_c21 : (Jvm.Cond.code ({ cls := "java/lang/Math", name := "abs", desc := "(D)D" } : Jvm.MethodName) jdk_29_method_64_code (2 : Nat) (Option.some Jvm.ClassFile.FieldType.double)).before args0 about1 = true := code_word (m := ⟨25, 1⟩) (meth := k25m1) (c := k25c1) (by decide +kernel) rfl rfl rfl (by decide +kernel)
set_option maxRecDepth 65536 in
theorem w_c22 : (Jvm.Cond.code ({ cls := "com/example/cairntree/cairntree/Window", name := "contains", desc := "(DD)Z" } : Jvm.MethodName) prog_39_method_4_code (5 : Nat) (Option.some Jvm.ClassFile.FieldType.boolean)).before args0 about1 = true := code_word (m := ⟨4, 1⟩) (meth := k4m1) (c := k4c1) (by decide +kernel) rfl rfl rfl (by decide +kernel)
def codes1 : List Jvm.Cond := [Jvm.Cond.code x code maxLocals ret, Jvm.Cond.code ({ cls := "com/example/cairntree/cairntree/Window", name := "<init>", desc := "(DDDD)V" } : Jvm.MethodName) prog_39_method_1_code (12 : Nat) (Option.none : Option Jvm.ClassFile.FieldType), Jvm.Cond.code ({ cls := "java/lang/Record", name := "<init>", desc := "()V" } : Jvm.MethodName) jdk_30_method_1_code (1 : Nat) (Option.none : Option Jvm.ClassFile.FieldType), Jvm.Cond.code ({ cls := "java/lang/Object", name := "<init>", desc := "()V" } : Jvm.MethodName) object_method_1_code (1 : Nat) (Option.none : Option Jvm.ClassFile.FieldType), Jvm.Cond.code ({ cls := "java/lang/Double", name := "valueOf", desc := "(D)Ljava/lang/Double;" } : Jvm.MethodName) jdk_117_method_4_code (2 : Nat) (Option.some (Jvm.ClassFile.FieldType.object "java/lang/Double")), Jvm.Cond.code ({ cls := "java/lang/Double", name := "<init>", desc := "(D)V" } : Jvm.MethodName) jdk_117_method_9_code (3 : Nat) (Option.none : Option Jvm.ClassFile.FieldType), Jvm.Cond.code ({ cls := "java/lang/Number", name := "<init>", desc := "()V" } : Jvm.MethodName) jdk_18_method_1_code (1 : Nat) (Option.none : Option Jvm.ClassFile.FieldType), Jvm.Cond.code ({ cls := "java/util/List", name := "of", desc := "(Ljava/lang/Object;Ljava/lang/Object;Ljava/lang/Object;Ljava/lang/Object;)Ljava/util/List;" } : Jvm.MethodName) jdk_40_method_40_code (4 : Nat) (Option.some (Jvm.ClassFile.FieldType.object "java/util/List")), Jvm.Cond.code ({ cls := "java/util/ImmutableCollections", name := "listFromTrustedArray", desc := "([Ljava/lang/Object;)Ljava/util/List;" } : Jvm.MethodName) jdk_56_method_5_code (5 : Nat) (Option.some (Jvm.ClassFile.FieldType.object "java/util/List")), Jvm.Cond.code ({ cls := "java/util/Objects", name := "requireNonNull", desc := "(Ljava/lang/Object;)Ljava/lang/Object;" } : Jvm.MethodName) jdk_31_method_10_code (1 : Nat) (Option.some (Jvm.ClassFile.FieldType.object "java/lang/Object")), Jvm.Cond.code ({ cls := "java/util/ImmutableCollections$ListN", name := "<init>", desc := "([Ljava/lang/Object;Z)V" } : Jvm.MethodName) jdk_45_method_1_code (3 : Nat) (Option.none : Option Jvm.ClassFile.FieldType), Jvm.Cond.code ({ cls := "java/util/ImmutableCollections$AbstractImmutableList", name := "<init>", desc := "()V" } : Jvm.MethodName) jdk_46_method_1_code (1 : Nat) (Option.none : Option Jvm.ClassFile.FieldType), Jvm.Cond.code ({ cls := "java/util/ImmutableCollections$AbstractImmutableCollection", name := "<init>", desc := "()V" } : Jvm.MethodName) jdk_47_method_1_code (1 : Nat) (Option.none : Option Jvm.ClassFile.FieldType), Jvm.Cond.code ({ cls := "java/util/AbstractCollection", name := "<init>", desc := "()V" } : Jvm.MethodName) jdk_22_method_1_code (1 : Nat) (Option.none : Option Jvm.ClassFile.FieldType), Jvm.Cond.code ({ cls := "java/util/ImmutableCollections$AbstractImmutableList", name := "iterator", desc := "()Ljava/util/Iterator;" } : Jvm.MethodName) jdk_46_method_10_code (1 : Nat) (Option.some (Jvm.ClassFile.FieldType.object "java/util/Iterator")), Jvm.Cond.code ({ cls := "java/util/ImmutableCollections$ListN", name := "size", desc := "()I" } : Jvm.MethodName) jdk_45_method_3_code (1 : Nat) (Option.some Jvm.ClassFile.FieldType.int), Jvm.Cond.code ({ cls := "java/util/ImmutableCollections$ListItr", name := "<init>", desc := "(Ljava/util/List;I)V" } : Jvm.MethodName) jdk_53_method_1_code (3 : Nat) (Option.none : Option Jvm.ClassFile.FieldType), Jvm.Cond.code ({ cls := "java/util/ImmutableCollections$ListItr", name := "hasNext", desc := "()Z" } : Jvm.MethodName) jdk_53_method_3_code (1 : Nat) (Option.some Jvm.ClassFile.FieldType.boolean), Jvm.Cond.code ({ cls := "java/util/ImmutableCollections$ListN", name := "get", desc := "(I)Ljava/lang/Object;" } : Jvm.MethodName) jdk_45_method_4_code (2 : Nat) (Option.some (Jvm.ClassFile.FieldType.object "java/lang/Object")), Jvm.Cond.code ({ cls := "java/lang/Double", name := "doubleValue", desc := "()D" } : Jvm.MethodName) jdk_117_method_19_code (1 : Nat) (Option.some Jvm.ClassFile.FieldType.double), Jvm.Cond.code ({ cls := "java/lang/Double", name := "isFinite", desc := "(D)Z" } : Jvm.MethodName) jdk_117_method_8_code (2 : Nat) (Option.some Jvm.ClassFile.FieldType.boolean), Jvm.Cond.code ({ cls := "java/lang/Math", name := "abs", desc := "(D)D" } : Jvm.MethodName) jdk_29_method_64_code (2 : Nat) (Option.some Jvm.ClassFile.FieldType.double), Jvm.Cond.code ({ cls := "com/example/cairntree/cairntree/Window", name := "contains", desc := "(DD)Z" } : Jvm.MethodName) prog_39_method_4_code (5 : Nat) (Option.some Jvm.ClassFile.FieldType.boolean)]
set_option maxRecDepth 65536 in
theorem codes_eq : words1.filter isCode = codes1 := rfl
theorem w_codes : ∀ c ∈ words1.filter isCode, c.before args0 about1 = true := by
  rw [codes_eq]
  intro c hc
  simp only [codes1, List.mem_cons, List.not_mem_nil, or_false] at hc
  rcases hc with rfl | rfl | rfl | rfl | rfl | rfl | rfl | rfl | rfl | rfl | rfl | rfl | rfl | rfl | rfl | rfl | rfl | rfl | rfl | rfl | rfl | rfl | rfl
  · exact w_c0
  · exact w_c1
  · exact w_c2
  · exact w_c3
  · exact w_c4
  · exact w_c5
  · exact w_c6
  · exact w_c7
  · exact w_c8
  · exact w_c9
  · exact w_c10
  · exact w_c11
  · exact w_c12
  · exact w_c13
  · exact w_c14
  · exact w_c15
  · exact w_c16
  · exact w_c17
  · exact w_c18
  · exact w_c19
  · exact w_c20
  · exact w_c21
  · exact w_c22
set_option maxRecDepth 65536 in
theorem w_t1 : (words1.take 24).all (fun c => isCode c || c.before args0 about1) = true := by decide +kernel
set_option maxRecDepth 65536 in
theorem w_t2 : ((words1.drop 24).take 24).all (fun c => isCode c || c.before args0 about1) = true := by decide +kernel
set_option maxRecDepth 65536 in
theorem w_t3 : (((words1.drop 24).drop 24).take 24).all (fun c => isCode c || c.before args0 about1) = true := by decide +kernel
set_option maxRecDepth 65536 in
theorem w_t4 : ((((words1.drop 24).drop 24).drop 24).take 24).all (fun c => isCode c || c.before args0 about1) = true := by decide +kernel
set_option maxRecDepth 65536 in
theorem w_t5 : (((((words1.drop 24).drop 24).drop 24).drop 24).take 24).all (fun c => isCode c || c.before args0 about1) = true := by decide +kernel
set_option maxRecDepth 65536 in
theorem w_t6 : ((((((words1.drop 24).drop 24).drop 24).drop 24).drop 24).take 24).all (fun c => isCode c || c.before args0 about1) = true := by decide +kernel
set_option maxRecDepth 65536 in
theorem w_t7 : ((((((words1.drop 24).drop 24).drop 24).drop 24).drop 24).drop 24).all (fun c => isCode c || c.before args0 about1) = true := by decide +kernel
theorem w_tables : (allAtoms (Jvm.Cond.code x code maxLocals ret :: tables_1)).before args0 about1 = true := by
  rw [allAtoms_all]
  show words1.all (fun c => c.before args0 about1) = true
  refine all_split ?_ w_codes
  rw [← List.take_append_drop 24 words1, List.all_append, w_t1, ← List.take_append_drop 24 (words1.drop 24), List.all_append, w_t2, ← List.take_append_drop 24 ((words1.drop 24).drop 24), List.all_append, w_t3, ← List.take_append_drop 24 (((words1.drop 24).drop 24).drop 24), List.all_append, w_t4, ← List.take_append_drop 24 ((((words1.drop 24).drop 24).drop 24).drop 24), List.all_append, w_t5, ← List.take_append_drop 24 (((((words1.drop 24).drop 24).drop 24).drop 24).drop 24), List.all_append, w_t6, w_t7]
  rfl
set_option maxRecDepth 65536 in
theorem w_rest : rest_1_c.before args0 about1 = true := by decide +kernel
set_option maxRecDepth 65536 in
theorem w_case : (Jvm.Cond.and given_1 narrow_1).before args0 about1 = true := by decide +kernel
theorem w_applies : (headSpec (Jvm.Cond.code x code maxLocals ret :: tables_1) room_1).applies x e0.platform about1 = true :=
  (Spec.applies_iff w_frames).mpr ⟨w_running, w_runnable, w_alone, w_named, w_hears, w_ripe, w_room, w_tables⟩
theorem atStart : AtStart classFile x code maxLocals ret World_1 tables_1 room_1 Calls_1 rest_1 Pre_1 launch0 p0 e0 about1 theMethod args0 below0 :=
  ⟨lists_1, trivial, launch0.admits_env _ _ _, launch0.least_env, fairChoices_fair.cas, fairChoices_fair.clock, w_frames, w_args, w_heap, w_applies, trivial, w_rest, w_case⟩
end start1
theorem witness_1 : WitnessClaimed_1 := ⟨start1.p0, start1.e0, start1.about1, start1.theMethod, start1.args0, start1.below0, start1.atStart⟩
end Jvm.Pilot.@@N@@
