import JvmDerived
import JvmDerived.Pilot.@@N@@Statement
import JvmDerived.Pilot.@@N@@Code
set_option linter.unusedVariables false
set_option linter.unusedSimpArgs false
namespace Jvm.RoadKit
open Sem ClassFile Op Lib Jvm.Stand Jvm.Free Jvm.LawKit
section New
variable {p : Program} {l : Launch} {e : Env} {R : Room} {s : State} {m : MethodId} {args : Array Value} {below : List Frame} {meth : Method} {c : Code} {T : State} {locs : List Loc} {cells slots : Nat}
theorem retI (X : Stand p l e R s m args below meth c T locs cells slots) (hx : p.tables.exec = Jvm.exec) {pc : Nat} {Ls : Array Slot} {z : Int32} {rest : List Value} (hret : meth.sig.returnType = some .int) (hd : decode c.code pc = .ok (.ireturn, 1)) {fs : List Frame}
    (hl : ∀ (f : JFrame) (acts : List Action), f.method = m → f.locked = none → f.entered = [] → (doReturn e (T.setTop f) acts (some (.int z))).1 = T.setFrames fs) : Steps p.tables e below (T.setTop (mkF m pc Ls (.int z :: rest))) (T.setFrames fs) :=
  retOut X hx (t := .int) hret rfl (Or.inl ⟨rfl, Or.inl rfl, _, rfl⟩) hd hl
end New
end Jvm.RoadKit
namespace Jvm.Pilot.@@N@@
open Jvm Jvm.ClassFile Sem Op Lib Jvm.Free Jvm.Stand Jvm.LawKit Jvm.RoadKit Bundle Jvm.Pilot.@@N@@.Jvm.D
/-! own layer 0: a goal that is walked forward -/
def own_W (p : Program) (e : Env) (below : List Frame) (R : State → Outcome → Prop) (A : State) : Prop := ∃ s₂ o, Steps p.tables e below A s₂ ∧ R s₂ o
theorem own_go {p : Program} {e : Env} {below : List Frame} {R : State → Outcome → Prop} {A A' : State} (h : ∀ t, Steps p.tables e below A' t → Steps p.tables e below A t) (k : own_W p e below R A') : own_W p e below R A := by
  obtain ⟨s₂, o, st, r⟩ := k
  exact ⟨s₂, o, h _ st, r⟩
theorem own_any {Z : State} {h : Heap} {a : Addr} {C O O' n n' d d' : String} {w : Value} {a0 : Array Value} {k : Nat} (F : Fld Z h a O n d w) (E : Exa Z h a C) (wi : (Cond.instantiable C k).before a0 Z = true) (L : Laid Z a0 C O' n' d') : ∃ w', Fld Z h a O' n' d' w' := by
  obtain ⟨cell, cf, kf, i, f, h1, h2, h3, h4, h5, h6, h7⟩ := F
  obtain ⟨cell', k', e1, e2, e3, e4, e5⟩ := E
  cases h1.symm.trans e1
  obtain ⟨c, k2, cf', kf', i', f', a1, a2, a3, a4, a5, a6, -⟩ := L.spec
  cases e2.symm.trans a1
  cases e3.symm.trans a2
  obtain ⟨c3, k3, i1, i2, i3, -⟩ := Cond.instantiable_spec wi
  cases e2.symm.trans i1
  cases e3.symm.trans i2
  have hs := e5 i3
  have hlt : f'.slot < cell.slots.size := by rw [hs]; exact (Array.getElem?_eq_some_iff.mp a6).1
  exact ⟨_, cell, cf', kf', i', f', h1, a3, a4, h4, h5, a5, Array.getElem?_eq_getElem hlt⟩
theorem own_open {p : Program} {e : Env} {below : List Frame} {Q : State → Outcome → Prop} {A : State} (h : ∀ R : State → Outcome → Prop, (∀ s₂ o, Q s₂ o → R s₂ o) → own_W p e below R A) : ∃ s₂ o, Steps p.tables e below A s₂ ∧ Q s₂ o := h Q fun _ _ q => q
/-! own layer 1: doubles as whole numbers of 2^k units (value n * 2^(k - 1074)), over the library's zval -/
section OwnFP
open Jvm.FP Jvm.FP.Core Jvm.Free.Fl
/-- x is finite and worth v units of 2^-1074 -/
def own_Is (x : UInt64) (v : Int) : Prop := DFin x ∧ zval b64 (val64 x) = v
/-- some double is worth v -/
def own_Rep (v : Int) : Prop := ∃ d : Datum, Jvm.FP.Core.fits b64 d ∧ (∃ s c q, d = .fin s c q) ∧ zval b64 d = v
/-- x is finite and worth n units of 2^(k - 1074) -/
def own_At (k : Nat) (x : UInt64) (n : Int) : Prop := own_Is x (n * 2 ^ k)
theorem own_Is.rep {x : UInt64} {v : Int} (h : own_Is x v) : own_Rep v := ⟨val64 x, val64_fits x, h.1, h.2⟩
theorem own_Is.nn {x : UInt64} {v : Int} (h : own_Is x v) : NoNaN64 x := noNaN64_no.mpr h.1.notNaN
theorem own_At.nn {k : Nat} {x : UInt64} {n : Int} (h : own_At k x n) : NoNaN64 x := own_Is.nn h
theorem own_At.cast {k : Nat} {x : UInt64} {n n' : Int} (h : own_At k x n) (e : n = n') : own_At k x n' := e ▸ h
theorem own_zval_fin (s : Bool) (c : Nat) (q : Int) : zval b64 (.fin s c q) = signed s (inUnits c q b64.qmin) := rfl
theorem own_pos_pow (k : Nat) : (0 : Int) < 2 ^ k := Int.pow_pos (by decide)
theorem own_signed_abs (n : Int) : signed (decide (n < 0)) n.natAbs = n := by
  by_cases h : n < 0
  · simp only [h, decide_true, signed, if_true]; omega
  · simp only [h, decide_false, signed]; simp; omega
theorem own_rep_mk (n : Int) (k : Nat) (hn : n.natAbs < 2 ^ 53) (hk : k ≤ 2045) : own_Rep (n * 2 ^ k) := by
  have hq : b64.qmin = -1074 := qmin_b64
  have hm : b64.qmax = 971 := by decide
  obtain ⟨c', q', h1, h2⟩ := round_exact good_b64 (decide (n < 0)) (c := n.natAbs) (q := (k : Int) + b64.qmin) hn (by omega) (by omega)
  refine ⟨.fin (decide (n < 0)) c' q', ?_, ⟨_, _, _, rfl⟩, ?_⟩
  · rw [← h1]; exact round_fits good_b64 _
  · rw [own_zval_fin, h2]
    unfold inUnits
    rw [show ((k : Int) + b64.qmin - b64.qmin).toNat = k by omega, signed_mul, own_signed_abs]
    simp
theorem own_rep_top {v : Int} (h : own_Rep v) : -((b64.tails * 2 ^ (b64.exps - 2) : Nat) : Int) < v ∧ v < ((b64.tails * 2 ^ (b64.exps - 2) : Nat) : Int) := by
  obtain ⟨d, hf, ⟨s, c, q, rfl⟩, rfl⟩ := h
  have hz := zmag_lt_top good_b64 hf
  rw [own_zval_fin]
  generalize b64.tails * 2 ^ (b64.exps - 2) = top at hz ⊢
  generalize inUnits c q b64.qmin = z at hz ⊢
  cases s <;> simp only [signed] <;> simp <;> omega
theorem own_fin_of {x : UInt64} {lo hi : Int} (hx : val64 x ≠ .nan) (rl : own_Rep lo) (rh : own_Rep hi) (h1 : lo ≤ zval b64 (val64 x)) (h2 : zval b64 (val64 x) ≤ hi) : DFin x := by
  have t1 := own_rep_top rl
  have t2 := own_rep_top rh
  unfold DFin
  cases h : val64 x with
  | nan => exact absurd h hx
  | fin s c q => exact ⟨s, c, q, rfl⟩
  | inf s =>
    rw [h] at h1 h2
    have e : zval b64 (.inf s) = signed s (b64.tails * 2 ^ (b64.exps - 2)) := rfl
    rw [e] at h1 h2
    generalize b64.tails * 2 ^ (b64.exps - 2) = top at *
    exfalso
    cases s <;> simp only [signed] at h1 h2 <;> simp at h1 h2 <;> omega
theorem own_add {a b : UInt64} {v w lo hi : Int} (ha : own_Is a v) (hb : own_Is b w) (rl : own_Rep lo) (rh : own_Rep hi) (h1 : lo ≤ v + w) (h2 : v + w ≤ hi) :
    ∃ u, own_Is (FP.dadd a b) u ∧ lo ≤ u ∧ u ≤ hi := by
  have hn : val64 (Core.dadd a b) ≠ .nan := (notNaN_iff _).mp (dadd_out ha.1.notNaN hb.1)
  obtain ⟨dl, fl, ⟨sl, cl, ql, el⟩, zl⟩ := rl
  obtain ⟨dh, fh, ⟨sh, ch, qh, eh⟩, zh⟩ := rh
  have g1 := sum_ge good_b64 ha.1 hb.1 (val64_fits a) (val64_fits b) fl (by rw [el]; nofun) (by rw [ha.2, hb.2, zl]; exact h1)
  have g2 := sum_le good_b64 ha.1 hb.1 (val64_fits a) (val64_fits b) fh (by rw [eh]; nofun) (by rw [ha.2, hb.2, zh]; exact h2)
  rw [← val64_dadd, zl] at g1
  rw [← val64_dadd, zh] at g2
  exact ⟨_, ⟨own_fin_of hn ⟨dl, fl, ⟨sl, cl, ql, el⟩, zl⟩ ⟨dh, fh, ⟨sh, ch, qh, eh⟩, zh⟩ g1 g2, rfl⟩, g1, g2⟩
theorem own_cneg {b : UInt64} {w : Int} (hb : own_Is b w) : own_Is (Core.dneg b) (-w) := by
  obtain ⟨⟨s, c, q, e⟩, h⟩ := hb
  refine ⟨⟨!s, c, q, ?_⟩, ?_⟩
  · rw [Jvm.FP.Core.val64_dneg, e]; rfl
  · rw [Jvm.FP.Core.val64_dneg, zval_negate, h]
theorem own_sub {a b : UInt64} {v w lo hi : Int} (ha : own_Is a v) (hb : own_Is b w) (rl : own_Rep lo) (rh : own_Rep hi) (h1 : lo ≤ v - w) (h2 : v - w ≤ hi) :
    ∃ u, own_Is (FP.dsub a b) u ∧ lo ≤ u ∧ u ≤ hi := by
  have e : FP.dsub a b = FP.dadd a (Core.dneg b) := dsub_eq a b
  rw [e]
  exact own_add ha (own_cneg hb) rl rh (by omega) (by omega)
theorem own_mul {a b : UInt64} {v w lo hi : Int} (ha : own_Is a v) (hb : own_Is b w) (rl : own_Rep lo) (rh : own_Rep hi) (h1 : lo * 2 ^ 1074 ≤ v * w) (h2 : v * w ≤ hi * 2 ^ 1074) :
    ∃ u, own_Is (FP.dmul a b) u ∧ lo ≤ u ∧ u ≤ hi := by
  have hn : val64 (Core.dmul a b) ≠ .nan := (notNaN_iff _).mp (dmul_out ha.1 hb.1)
  obtain ⟨⟨s, c, q, ea⟩, za⟩ := ha
  obtain ⟨⟨t, d, r, eb⟩, zb⟩ := hb
  have fa := val64_fits a
  have fb := val64_fits b
  rw [ea] at fa za
  rw [eb] at fb zb
  obtain ⟨p1, p2, p3⟩ := product_units fa fb
  have ev : signed (s != t) (inUnits (c * d) (q + r) (2 * b64.qmin)) = v * w := by rw [p3, signed_xor, ← za, ← zb]; rfl
  have eq : (b64.qmin - 2 * b64.qmin).toNat = 1074 := by rw [qmin_b64]; rfl
  have hle : 2 * b64.qmin ≤ b64.qmin := by rw [qmin_b64]; decide
  have em : val64 (Core.dmul a b) = round b64 (.fin (s != t) (c * d) (q + r)) := by rw [val64_dmul, ea, eb, p1]
  obtain ⟨dl, fl, ⟨sl, cl, ql, el⟩, zl⟩ := rl
  obtain ⟨dh, fh, ⟨sh, ch, qh, eh⟩, zh⟩ := rh
  have g1 := zval_round_ge good_b64 (s := (s != t)) (c := c * d) (q := q + r) (e0 := 2 * b64.qmin) (V := dl) fl (by rw [el]; nofun) hle p2 (by rw [ev, eq, zl]; simpa using h1)
  have g2 := zval_round_le good_b64 (s := (s != t)) (c := c * d) (q := q + r) (e0 := 2 * b64.qmin) (V := dh) fh (by rw [eh]; nofun) hle p2 (by rw [ev, eq, zh]; simpa using h2)
  rw [← em, zl] at g1
  rw [← em, zh] at g2
  exact ⟨_, ⟨own_fin_of hn ⟨dl, fl, ⟨sl, cl, ql, el⟩, zl⟩ ⟨dh, fh, ⟨sh, ch, qh, eh⟩, zh⟩ g1 g2, rfl⟩, g1, g2⟩
theorem own_signed_nonneg {s : Bool} {z : Nat} {v : Int} (h : signed s z = v) (hv : 0 ≤ v) : (z : Int) = v := by
  cases s <;> simp only [signed] at h <;> simp at h <;> omega
theorem own_div_up (K : Nat) {c d q1 r1 z : Nat} {t f : Nat} (h : c * 2 ^ q1 * 2 ^ K ≤ z * (d * 2 ^ r1)) (e : t + r1 = q1 + K + f) : c * 2 ^ t ≤ z * 2 ^ f * d := by
  have hp : 0 < 2 ^ r1 := Nat.two_pow_pos r1
  refine Nat.le_of_mul_le_mul_right (c := 2 ^ r1) ?_ hp
  calc c * 2 ^ t * 2 ^ r1 = c * 2 ^ (t + r1) := by rw [Nat.pow_add]; ac_rfl
    _ = (c * 2 ^ q1 * 2 ^ K) * 2 ^ f := by rw [e, Nat.pow_add, Nat.pow_add]; ac_rfl
    _ ≤ (z * (d * 2 ^ r1)) * 2 ^ f := Nat.mul_le_mul_right _ h
    _ = z * 2 ^ f * d * 2 ^ r1 := by ac_rfl
theorem own_div_dn (K : Nat) {c d q1 r1 z : Nat} {t f : Nat} (h : z * (d * 2 ^ r1) ≤ c * 2 ^ q1 * 2 ^ K) (e : t + r1 = q1 + K + f) : z * 2 ^ f * d ≤ c * 2 ^ t := by
  have hp : 0 < 2 ^ r1 := Nat.two_pow_pos r1
  refine Nat.le_of_mul_le_mul_right (c := 2 ^ r1) ?_ hp
  calc z * 2 ^ f * d * 2 ^ r1 = (z * (d * 2 ^ r1)) * 2 ^ f := by ac_rfl
    _ ≤ (c * 2 ^ q1 * 2 ^ K) * 2 ^ f := Nat.mul_le_mul_right _ h
    _ = c * 2 ^ (t + r1) := by rw [e, Nat.pow_add, Nat.pow_add]; ac_rfl
    _ = c * 2 ^ t * 2 ^ r1 := by rw [Nat.pow_add]; ac_rfl
theorem own_ac2 (c A w B : Int) : c * A * (w * B) = (c * w) * (A * B) := by ac_rfl
/-- the quotient of two numbers at or above nought -/
theorem own_div0 {a b : UInt64} {v w lo hi : Int} (ha : own_Is a v) (hb : own_Is b w) (hv : 0 ≤ v) (hw : 0 < w) (rl : own_Rep lo) (rh : own_Rep hi) (h0 : 0 ≤ lo) (h1 : lo * w ≤ v * 2 ^ 1074) (h2 : v * 2 ^ 1074 ≤ hi * w) :
    ∃ u, own_Is (FP.ddiv a b) u ∧ lo ≤ u ∧ u ≤ hi := by
  have hq : b64.qmin = -1074 := qmin_b64
  obtain ⟨⟨s, c, q, ea⟩, za⟩ := ha
  obtain ⟨⟨t, d, r, eb⟩, zb⟩ := hb
  have fa := val64_fits a
  have fb := val64_fits b
  rw [ea] at fa za
  rw [eb] at fb zb
  rw [own_zval_fin] at za zb
  have ma := own_signed_nonneg za hv
  have mb := own_signed_nonneg zb (by omega)
  have hd : d ≠ 0 := by
    rintro rfl
    simp [inUnits] at mb; omega
  have hs : c = 0 ∨ (s != t) = false := by
    have ht : t = false := by
      cases t with
      | false => rfl
      | true => simp only [signed] at zb; simp at zb; omega
    cases hs : s with
    | false => right; rw [ht]; rfl
    | true =>
      left
      rw [hs] at za
      simp only [signed] at za; simp at za
      have : inUnits c q b64.qmin = 0 := by omega
      unfold inUnits at this
      have hp := Nat.two_pow_pos (q - b64.qmin).toNat
      rcases Nat.mul_eq_zero.mp this with h | h
      · exact h
      · omega
  have ev : val64 (Core.ddiv a b) = roundRatio b64 (s != t) c d (q - r) := by rw [val64_ddiv, ea, eb]; simp only [quotient, if_neg hd]
  have hn : val64 (Core.ddiv a b) ≠ .nan := by rw [ev]; exact roundRatio_ne_nan _ _ _ _ _
  obtain ⟨dl, fl, ⟨sl, cl, ql, el⟩, zl⟩ := rl
  obtain ⟨dh, fh, ⟨sh, ch, qh, eh⟩, zh⟩ := rh
  have hhi : 0 ≤ hi := by
    have : 0 ≤ hi * w := Int.le_trans (Int.mul_nonneg hv (Int.le_of_lt (own_pos_pow _))) h2
    exact Int.nonneg_of_mul_nonneg_left this hw
  have ml : (zmag b64 dl : Int) = lo := own_signed_nonneg zl h0
  have mh : (zmag b64 dh : Int) = hi := own_signed_nonneg zh hhi
  have e0 : ∃ e0 : Int, e0 ≤ b64.qmin ∧ e0 ≤ q - r := ⟨min b64.qmin (q - r), Int.min_le_left _ _, Int.min_le_right _ _⟩
  obtain ⟨e0, k1, k2⟩ := e0
  have fq := fa.2.1
  have fr := fb.2.1
  have ee : ((q - r) - e0).toNat + (r - b64.qmin).toNat = (q - b64.qmin).toNat + 1074 + (b64.qmin - e0).toNat := by omega
  have g1 : zmag b64 dl ≤ zmag b64 (roundRatio b64 (s != t) c d (q - r)) := by
    refine zmag_roundRatio_ge good_b64 (e0 := e0) (Nat.pos_of_ne_zero hd) fl k1 k2 ?_
    refine own_div_dn 1074 (q1 := (q - b64.qmin).toNat) (r1 := (r - b64.qmin).toNat) ?_ ee
    have h := h1
    rw [← ml, ← ma, ← mb] at h
    unfold inUnits at h
    exact_mod_cast h
  have g2 : zmag b64 (roundRatio b64 (s != t) c d (q - r)) ≤ zmag b64 dh := by
    refine zmag_roundRatio_le good_b64 (e0 := e0) (Nat.pos_of_ne_zero hd) fh (by rw [eh]; nofun) k1 k2 ?_
    refine own_div_up 1074 (q1 := (q - b64.qmin).toNat) (r1 := (r - b64.qmin).toNat) ?_ ee
    have h := h2
    rw [← mh, ← ma, ← mb] at h
    unfold inUnits at h
    exact_mod_cast h
  have gz : zval b64 (val64 (Core.ddiv a b)) = (zmag b64 (roundRatio b64 (s != t) c d (q - r)) : Int) := by
    rw [ev]
    unfold zval
    rw [sgn_roundRatio]
    rcases hs with rfl | hs
    · have : zmag b64 (roundRatio b64 (s != t) 0 d (q - r)) = 0 := by simp [roundRatio, zmag, inUnits]
      rw [this]; simp [signed]
    · rw [hs]; simp [signed]
  have f1 : lo ≤ zval b64 (val64 (Core.ddiv a b)) := by rw [gz, ← ml]; exact_mod_cast g1
  have f2 : zval b64 (val64 (Core.ddiv a b)) ≤ hi := by rw [gz, ← mh]; exact_mod_cast g2
  exact ⟨_, ⟨own_fin_of hn ⟨dl, fl, ⟨sl, cl, ql, el⟩, zl⟩ ⟨dh, fh, ⟨sh, ch, qh, eh⟩, zh⟩ f1 f2, rfl⟩, f1, f2⟩
/-- the quotient by a number above nought, where it comes out whole: v * 2^1074 = u * w -/
theorem own_div {a b : UInt64} {v w u : Int} (ha : own_Is a v) (hb : own_Is b w) (hw : 0 < w) (ru : own_Rep u) (h : u * w = v * 2 ^ 1074) : own_Is (FP.ddiv a b) u := by
  by_cases hv : 0 ≤ v
  · have hu : 0 ≤ u := by
      have : 0 ≤ u * w := by rw [h]; exact Int.mul_nonneg hv (Int.le_of_lt (own_pos_pow _))
      exact Int.nonneg_of_mul_nonneg_left this hw
    obtain ⟨z, hz, z1, z2⟩ := own_div0 ha hb hv hw ru ru hu (Int.le_of_eq h) (Int.le_of_eq h.symm)
    exact (Int.le_antisymm z2 z1) ▸ hz
  · have hneg : own_Rep (-u) := by
      obtain ⟨d, h1, ⟨s, c, q, rfl⟩, h3⟩ := ru
      exact ⟨.fin (!s) c q, h1, ⟨_, _, _, rfl⟩, by rw [← h3]; exact zval_negate b64 (.fin s c q)⟩
    have hp := own_pos_pow 1074
    have hu : 0 ≤ -u := by
      have : u * w < 0 := by rw [h]; exact Int.mul_neg_of_neg_of_pos (by omega) hp
      by_cases q : 0 ≤ -u
      · exact q
      · exact absurd (Int.mul_nonneg (show 0 ≤ u by omega) (Int.le_of_lt hw)) (by omega)
    have h' : -u * w = -v * 2 ^ 1074 := by rw [Int.neg_mul, Int.neg_mul, h]
    obtain ⟨z, hz, z1, z2⟩ := own_div0 (own_cneg ha) hb (by omega) hw hneg hneg hu (Int.le_of_eq h') (Int.le_of_eq h'.symm)
    have e : Core.ddiv (Core.dneg a) b = Core.dneg (Core.ddiv a b) := ddiv_dneg a b
    have nn : val64 (Core.ddiv a b) ≠ .nan := by
      have q := hz.1.ne_nan
      intro k
      apply q
      show val64 (Core.ddiv (Core.dneg a) b) = .nan
      rw [e, Jvm.FP.Core.val64_dneg, k]; rfl
    have hz2 : own_Is (Core.dneg (Core.ddiv (Core.dneg a) b)) (-z) := own_cneg hz
    rw [e, dneg_dneg nn] at hz2
    have : -z = u := by omega
    exact this ▸ hz2
theorem own_i2d (n : Int32) : own_At 1074 (FP.i2d n) n.toInt := by
  refine ⟨Core.i2d_fin n, ?_⟩
  rw [show FP.i2d n = Core.i2d n from rfl, DInt_zval (i2d_int n)]
  unfold one64; norm_cast
theorem own_l2d (n : Int64) (h : n.toInt.natAbs ≤ 2 ^ 53) : own_At 1074 (FP.l2d n) n.toInt := by
  refine ⟨Core.l2d_fin n, ?_⟩
  rw [show FP.l2d n = Core.l2d n from rfl, DInt_zval (l2d_int h)]
  unfold one64; norm_cast
theorem own_cmp {a b : UInt64} {v w : Int} (ha : own_Is a v) (hb : own_Is b w) : FP.dcmp a b = some (compare v w) := by
  rw [show FP.dcmp a b = Core.dcmp a b from rfl, dcmp_zval ha.1.ne_nan hb.1.ne_nan, ha.2, hb.2]
theorem own_cmpV {a b : UInt64} {v w : Int} (ha : own_Is a v) (hb : own_Is b w) (o : CmpOp) : cmpValue (FP.dcmp a b) o = if v < w then -1 else if v = w then 0 else 1 := by
  rw [own_cmp ha hb, compare_ite]
  by_cases h1 : v < w
  · simp only [h1, if_true]; rfl
  · by_cases h2 : v = w
    · simp only [h1, h2, if_true, if_false, Int.lt_irrefl]; rfl
    · simp only [h1, h2, if_false]; rfl
theorem own_cmpAt {k : Nat} {a b : UInt64} {v w : Int} (ha : own_At k a v) (hb : own_At k b w) (o : CmpOp) : cmpValue (FP.dcmp a b) o = if v < w then -1 else if v = w then 0 else 1 := by
  rw [own_cmpV ha hb o]
  have hp := own_pos_pow k
  have e1 : (v * 2 ^ k < w * 2 ^ k) ↔ v < w := ⟨fun h => Int.lt_of_mul_lt_mul_right h (Int.le_of_lt hp), fun h => Int.mul_lt_mul_of_pos_right h hp⟩
  have e2 : (v * 2 ^ k = w * 2 ^ k) ↔ v = w := ⟨fun h => Int.eq_of_mul_eq_mul_right (Int.ne_of_gt hp) h, fun h => by rw [h]⟩
  simp only [e1, e2]
theorem own_addAt {k : Nat} {a b : UInt64} {v w : Int} (ha : own_At k a v) (hb : own_At k b w) (hk : k ≤ 2045) (h : (v + w).natAbs < 2 ^ 53) : own_At k (FP.dadd a b) (v + w) := by
  have r := own_rep_mk (v + w) k h hk
  have e : (v + w) * 2 ^ k = v * 2 ^ k + w * 2 ^ k := Int.add_mul _ _ _
  obtain ⟨u, hu, u1, u2⟩ := own_add ha hb r r (Int.le_of_eq e) (Int.le_of_eq e.symm)
  have eu := Int.le_antisymm u2 u1
  rw [eu] at hu
  exact hu
theorem own_subAt {k : Nat} {a b : UInt64} {v w : Int} (ha : own_At k a v) (hb : own_At k b w) (hk : k ≤ 2045) (h : (v - w).natAbs < 2 ^ 53) : own_At k (FP.dsub a b) (v - w) := by
  have r := own_rep_mk (v - w) k h hk
  have e : (v - w) * 2 ^ k = v * 2 ^ k - w * 2 ^ k := Int.sub_mul _ _ _
  obtain ⟨u, hu, u1, u2⟩ := own_sub ha hb r r (Int.le_of_eq e) (Int.le_of_eq e.symm)
  have eu := Int.le_antisymm u2 u1
  rw [eu] at hu
  exact hu
theorem own_mulAt {k j i : Nat} {a b : UInt64} {v w : Int} (ha : own_At k a v) (hb : own_At j b w) (hi : i ≤ 2045) (hk : k + j = i + 1074) (h : (v * w).natAbs < 2 ^ 53) : own_At i (FP.dmul a b) (v * w) := by
  have r := own_rep_mk (v * w) i h hi
  have e : (v * w) * 2 ^ i * 2 ^ 1074 = (v * 2 ^ k) * (w * 2 ^ j) := by
    rw [own_ac2, Int.mul_assoc (v * w), ← Int.pow_add, ← Int.pow_add, hk]
  obtain ⟨u, hu, u1, u2⟩ := own_mul ha hb r r (Int.le_of_eq e) (Int.le_of_eq e.symm)
  have eu := Int.le_antisymm u2 u1
  rw [eu] at hu
  exact hu
theorem own_divAt {k j i : Nat} {a b : UInt64} {v w c : Int} (ha : own_At k a v) (hb : own_At j b w) (hw : 0 < w) (hi : i ≤ 2045) (hk : k + 1074 = i + j) (h : c.natAbs < 2 ^ 53) (hc : c * w = v) : own_At i (FP.ddiv a b) c := by
  refine own_div ha hb (Int.mul_pos hw (own_pos_pow _)) (own_rep_mk c i h hi) ?_
  rw [own_ac2, hc, Int.mul_assoc v, ← Int.pow_add, ← Int.pow_add, hk]
theorem own_up {k j i : Nat} {a : UInt64} {v : Int} (ha : own_At k a v) (hk : k = i + j) : own_At i a (v * 2 ^ j) := by
  unfold own_At at *
  rw [Int.mul_assoc, ← Int.pow_add, Nat.add_comm j i, ← hk]; exact ha
theorem own_down {k j i : Nat} {a : UInt64} {v : Int} (ha : own_At i a (v * 2 ^ j)) (hk : k = i + j) : own_At k a v := by
  unfold own_At at *
  rw [Int.mul_assoc, ← Int.pow_add, Nat.add_comm j i, ← hk] at ha; exact ha
theorem own_zero {k : Nat} : own_At k 0 0 := ⟨⟨false, 0, _, val64_zero⟩, by rw [zval64_zero]; simp⟩
theorem own_c_gt {a b : UInt64} {v w : Int} (ha : own_Is a v) (hb : own_Is b w) (o : CmpOp) : (0 : Int32) < cmpValue (FP.dcmp a b) o ↔ w < v := by
  rw [own_cmpV ha hb o]
  split
  · exact ⟨fun h => absurd h (by decide), fun h => by omega⟩
  · split
    · exact ⟨fun h => absurd h (by decide), fun h => by omega⟩
    · exact ⟨fun h => by omega, fun h => by decide⟩
theorem own_c_lt {a b : UInt64} {v w : Int} (ha : own_Is a v) (hb : own_Is b w) (o : CmpOp) : cmpValue (FP.dcmp a b) o < (0 : Int32) ↔ v < w := by
  rw [own_cmpV ha hb o]
  split
  · exact ⟨fun h => by omega, fun h => by decide⟩
  · split
    · exact ⟨fun h => absurd h (by decide), fun h => by omega⟩
    · exact ⟨fun h => absurd h (by decide), fun h => by omega⟩
theorem own_c_eq {a b : UInt64} {v w : Int} (ha : own_Is a v) (hb : own_Is b w) (o : CmpOp) : cmpValue (FP.dcmp a b) o = (0 : Int32) ↔ v = w := by
  rw [own_cmpV ha hb o]
  split
  · exact ⟨fun h => absurd h (by decide), fun h => by omega⟩
  · split
    · exact ⟨fun h => by omega, fun h => by decide⟩
    · exact ⟨fun h => absurd h (by decide), fun h => by omega⟩
theorem own_mul_lt {k : Nat} {v w : Int} : (v * 2 ^ k < w * 2 ^ k) ↔ v < w :=
  ⟨fun h => Int.lt_of_mul_lt_mul_right h (Int.le_of_lt (own_pos_pow k)), fun h => Int.mul_lt_mul_of_pos_right h (own_pos_pow k)⟩
theorem own_mul_eq {k : Nat} {v w : Int} : (v * 2 ^ k = w * 2 ^ k) ↔ v = w :=
  ⟨fun h => Int.eq_of_mul_eq_mul_right (Int.ne_of_gt (own_pos_pow k)) h, fun h => by rw [h]⟩
theorem own_ca_gt {k : Nat} {a b : UInt64} {v w : Int} (ha : own_At k a v) (hb : own_At k b w) (o : CmpOp) : (0 : Int32) < cmpValue (FP.dcmp a b) o ↔ w < v := (own_c_gt ha hb o).trans own_mul_lt
theorem own_ca_lt {k : Nat} {a b : UInt64} {v w : Int} (ha : own_At k a v) (hb : own_At k b w) (o : CmpOp) : cmpValue (FP.dcmp a b) o < (0 : Int32) ↔ v < w := (own_c_lt ha hb o).trans own_mul_lt
theorem own_ca_eq {k : Nat} {a b : UInt64} {v w : Int} (ha : own_At k a v) (hb : own_At k b w) (o : CmpOp) : cmpValue (FP.dcmp a b) o = (0 : Int32) ↔ v = w := (own_c_eq ha hb o).trans own_mul_eq
theorem own_neg {k : Nat} {x : UInt64} {n : Int} (h : own_At k x n) : own_At k (FP.dneg x) (-n) := by
  obtain ⟨⟨s, c, q, e⟩, hz⟩ := h
  have hv : val64 (FP.dneg x) = negate (val64 x) := Jvm.FP.val64_dneg x
  refine ⟨⟨!s, c, q, by rw [hv, e]; rfl⟩, ?_⟩
  rw [hv, zval_negate, hz, Int.neg_mul]
end OwnFP
/-! own layer 2: int and long comparisons -/
section OwnInt
theorem own_l_gt (x y : Int64) : (0 : Int32) < lcmpW x y ↔ y < x := by
  show (0 : Int32) < (if x > y then (1 : Int32) else if x = y then 0 else -1) ↔ y < x
  by_cases h1 : x > y
  · rw [if_pos h1]; exact ⟨fun _ => h1, fun _ => by decide⟩
  · rw [if_neg h1]
    by_cases h2 : x = y
    · rw [if_pos h2]; exact ⟨fun h => absurd h (by decide), fun h => absurd h h1⟩
    · rw [if_neg h2]; exact ⟨fun h => absurd h (by decide), fun h => absurd h h1⟩
theorem own_l_eq (x y : Int64) : lcmpW x y = (0 : Int32) ↔ x = y := by
  show (if x > y then (1 : Int32) else if x = y then 0 else -1) = 0 ↔ x = y
  by_cases h1 : x > y
  · have h3 := Int64.lt_iff_toInt_lt.mp h1
    rw [if_pos h1]; exact ⟨fun h => absurd h (by decide), fun h => by rw [h] at h3; omega⟩
  · rw [if_neg h1]
    by_cases h2 : x = y
    · rw [if_pos h2]; exact ⟨fun _ => h2, fun _ => rfl⟩
    · rw [if_neg h2]; exact ⟨fun h => absurd h (by decide), fun h => absurd h h2⟩
theorem own_l_lt (x y : Int64) : lcmpW x y < (0 : Int32) ↔ x < y := by
  show (if x > y then (1 : Int32) else if x = y then 0 else -1) < 0 ↔ x < y
  by_cases h1 : x > y
  · have h3 := Int64.lt_iff_toInt_lt.mp h1
    rw [if_pos h1]; exact ⟨fun h => absurd h (by decide), fun h => by have := Int64.lt_iff_toInt_lt.mp h; omega⟩
  · rw [if_neg h1]
    by_cases h2 : x = y
    · rw [if_pos h2]; exact ⟨fun h => absurd h (by decide), fun h => by rw [h2] at h; have := Int64.lt_iff_toInt_lt.mp h; omega⟩
    · rw [if_neg h2]
      have q1 : ¬ y.toInt < x.toInt := fun h => h1 (Int64.lt_iff_toInt_lt.mpr h)
      have q2 : x.toInt ≠ y.toInt := fun h => h2 (Int64.toInt_inj.mp h)
      exact ⟨fun _ => Int64.lt_iff_toInt_lt.mpr (by omega), fun _ => by decide⟩
theorem own_i2l (a : Int32) : a.toInt64.toInt = a.toInt := by simp
theorem own_i32_lo (a : Int32) : -2147483648 ≤ a.toInt := a.le_toInt
theorem own_i32_hi (a : Int32) : a.toInt < 2147483648 := by have := a.toInt_lt; omega
theorem own_mask (x m : Int32) (k : Nat) (hm : m.toBitVec.toNat = 2 ^ k - 1) (hk : k ≤ 31) : (x &&& m).toInt = ((x.toBitVec.toNat % 2 ^ k : Nat) : Int) := by
  have e : (x &&& m).toBitVec.toNat = x.toBitVec.toNat % 2 ^ k := by
    rw [Int32.toBitVec_and, BitVec.toNat_and, hm]; exact Nat.and_two_pow_sub_one_eq_mod _ k
  have hlt : x.toBitVec.toNat % 2 ^ k < 2 ^ 31 := Nat.lt_of_lt_of_le (Nat.mod_lt _ (Nat.two_pow_pos k)) (Nat.pow_le_pow_right (by decide) hk)
  show (x &&& m).toBitVec.toInt = _
  rw [BitVec.toInt_eq_toNat_of_lt (by rw [e]; omega), e]
theorem own_mask_bd (x m : Int32) (k : Nat) (hm : m.toBitVec.toNat = 2 ^ k - 1) (hk : k ≤ 31) : 0 ≤ (x &&& m).toInt ∧ (x &&& m).toInt < ((2 ^ k : Nat) : Int) := by
  rw [own_mask x m k hm hk]
  have := Nat.mod_lt x.toBitVec.toNat (Nat.two_pow_pos k)
  omega
end OwnInt

theorem own_c87 : own_Is 13740482463107383296 (-(2 ^ 1054)) := ⟨⟨true, 4503599627370496, -72, by decide +kernel⟩, by decide +kernel⟩
theorem own_scaleA (j : Nat) (d : Int) : d * 2 ^ (1054 + j) ≤ -(2 ^ 1054) ↔ 1 ≤ -d := by
  have hp := own_pos_pow 1054
  have hj := own_pos_pow j
  rw [Int.pow_add, Int.mul_comm (2 ^ 1054) (2 ^ j), ← Int.mul_assoc]
  generalize (2 : Int) ^ 1054 = P at *
  generalize (2 : Int) ^ j = J at *
  constructor
  · intro h
    by_cases q : 0 ≤ d
    · have : 0 ≤ d * J * P := Int.mul_nonneg (Int.mul_nonneg q (by omega)) (by omega)
      omega
    · omega
  · intro h
    have h1 : d * J ≤ -1 := by
      have h2 : 1 * 1 ≤ (-d) * J := Int.mul_le_mul h (by omega) (by omega) (by omega)
      rw [Int.neg_mul] at h2; omega
    have h3 : d * J * P ≤ -1 * P := Int.mul_le_mul_of_nonneg_right h1 (by omega)
    omega
theorem own_scaleB (k j : Nat) (hk : k + j = 1054) (d : Int) : d * 2 ^ k ≤ -(2 ^ 1054) ↔ 2 ^ j ≤ -d := by
  have hp := own_pos_pow k
  rw [← hk, Int.pow_add, Int.mul_comm (2 ^ k) (2 ^ j), ← Int.neg_mul]
  generalize (2 : Int) ^ k = P at *
  generalize (2 : Int) ^ j = J at *
  constructor
  · intro h
    have := Int.le_of_mul_le_mul_right h hp
    omega
  · intro h
    exact Int.mul_le_mul_of_nonneg_right (by omega) (by omega)
theorem own_sub64 (a b : Int32) : (b.toInt64 - a.toInt64).toInt = b.toInt - a.toInt := by
  have h1 := own_i32_lo a
  have h2 := own_i32_hi a
  have h3 := own_i32_lo b
  have h4 := own_i32_hi b
  rw [Jvm.FP.Core.int64_sub (by rw [own_i2l, own_i2l]; omega) (by rw [own_i2l, own_i2l]; omega), own_i2l, own_i2l]
theorem own_logit {k : Nat} {sc : UInt64} (hsc : own_At k sc 1) (hk : k ≤ 2045) (a : Int32) : own_At k (FP.dmul (FP.i2d a) sc) a.toInt := by
  have h1 := own_i32_lo a
  have h2 := own_i32_hi a
  exact (own_mulAt (own_i2d a) hsc hk (by omega) (by omega)).cast (by omega)
theorem own_diff {k : Nat} {x y : UInt64} {a b : Int32} (hx : own_At k x a.toInt) (hy : own_At k y b.toInt) (hk : k ≤ 2045) : own_Is (FP.dsub x y) ((a.toInt - b.toInt) * 2 ^ k) := by
  have h1 := own_i32_lo a
  have h2 := own_i32_hi a
  have h3 := own_i32_lo b
  have h4 := own_i32_hi b
  exact own_subAt hx hy hk (by omega)
theorem own_mask7 (k : Int32) : (k &&& 7) = 0 ∨ (k &&& 7) = 1 ∨ (k &&& 7) = 2 ∨ (k &&& 7) = 3 ∨ (k &&& 7) = 4 ∨ (k &&& 7) = 5 ∨ (k &&& 7) = 6 ∨ (k &&& 7) = 7 := by
  have h : ∀ z : BitVec 32, (z &&& 7#32) = 0#32 ∨ (z &&& 7#32) = 1#32 ∨ (z &&& 7#32) = 2#32 ∨ (z &&& 7#32) = 3#32 ∨ (z &&& 7#32) = 4#32 ∨ (z &&& 7#32) = 5#32 ∨ (z &&& 7#32) = 6#32 ∨ (z &&& 7#32) = 7#32 := by
    intro z
    have : (z &&& 7#32).toNat = z.toNat % 8 := by
      rw [BitVec.toNat_and]; exact Nat.and_two_pow_sub_one_eq_mod z.toNat 3
    have h8 : z.toNat % 8 < 8 := Nat.mod_lt _ (by decide)
    simp only [← BitVec.toNat_inj, this]
    simp
    omega
  have := h k.toBitVec
  simp only [← Int32.toBitVec_inj, Int32.toBitVec_and]
  exact this
theorem own_d1_0 : decode prog_11_method_7_code 0 = .ok (.dload_n 0, 1) := by decide +kernel
theorem own_d1_1 : decode prog_11_method_7_code 1 = .ok (.dload_n 2, 1) := by decide +kernel
theorem own_d1_2 : decode prog_11_method_7_code 2 = .ok (.dsub, 1) := by decide +kernel
theorem own_d1_3 : decode prog_11_method_7_code 3 = .ok (.ldc2_w 87, 3) := by decide +kernel
theorem own_d1_6 : decode prog_11_method_7_code 6 = .ok (.dcmp .g, 1) := by decide +kernel
theorem own_d1_7 : decode prog_11_method_7_code 7 = .ok (.ifCond .gt 7, 3) := by decide +kernel
theorem own_d1_10 : decode prog_11_method_7_code 10 = .ok (.iconst 1, 1) := by decide +kernel
theorem own_d1_11 : decode prog_11_method_7_code 11 = .ok (.goto 4, 3) := by decide +kernel
theorem own_d1_14 : decode prog_11_method_7_code 14 = .ok (.iconst 0, 1) := by decide +kernel
theorem own_d1_15 : decode prog_11_method_7_code 15 = .ok (.ireturn, 1) := by decide +kernel
theorem own_pd0 : parseMethodDescriptor "(DD)Z" = some ⟨[.double, .double], some .boolean⟩ := by decide +kernel
theorem own_pn0 : plainName "com/example/tallyfold/tallyfold/ScoreDistributionFarBelowPinLaw" = true := by first | (simp [plainName, overriddenIn]; done) | decide +kernel
theorem own_pn1 : plainName "com/example/tallyfold/tallyfold/ScoreDistribution" = true := by first | (simp [plainName, overriddenIn]; done) | decide +kernel
theorem own_ef_own_far (m : MethodId) (d1 : UInt64) (d2 : UInt64) : entryFrame m #[(.double d1), (.double d2)] 4 = mkF m 0 #[.val (.double d1), .second, .val (.double d2), .second] [] := by first | (simp [entryFrame, mkF, argsToLocals, Value.category]; done) | rfl
def own_Q_own_far (Z : State) (d1 : UInt64) (d2 : UInt64) (u : Int) (h0 : Heap) (n0 : Nat) (v : Option Value) (h : Heap) (L : List Loc) : Prop := v = some (.int (if u ≤ -(2 ^ 1054) then 1 else 0)) ∧ Fr n0 L ∧ h = h0
set_option maxRecDepth 65536 in
set_option maxHeartbeats 40000000 in
theorem own_far (l : Launch) (Z : State) (a0 : Array Value) (hw : ∀ d ∈ tables_1, d.before a0 Z = true) (ws : List Jvm.Cond) (d1 : UInt64) (d2 : UInt64) (u : Int) (h0 : Heap) (n0 : Nat) (Z0 : n0 ≤ h0.size) (U1 : own_Is (FP.dsub d1 d2) u) :
    MetFree l (⟨"com/example/tallyfold/tallyfold/ScoreDistribution", "farBelow", "(DD)Z"⟩ : MethodName) (head1 (Jvm.Cond.code (⟨"com/example/tallyfold/tallyfold/ScoreDistribution", "farBelow", "(DD)Z"⟩ : MethodName) prog_11_method_7_code 4 (some .boolean) :: ws) ({ frames := 0, cells := 0, slots := 0, locals := 0 } : Room)) (fun a U => a = #[(.double d1), (.double d2)] ∧ Z.Warmed39 U.vm ∧ U.heap = h0) (fun _ _ _ _ _ => True) (fun _ U o U' => ∃ v L, o = .returned v ∧ own_Q_own_far Z d1 d2 u h0 n0 v U'.heap L ∧ FrameEnd U o U' L ({ frames := 0, cells := 0, slots := 0, locals := 0 } : Room).cells ({ frames := 0, cells := 0, slots := 0, locals := 0 } : Room).slots) := by
  refine MetFree.of_bodySF (plainFor_of_name own_pn1) hisR ?_
  intro p e s m args below meth c s₁ Bd hml0 hP hK
  obtain ⟨rfl, hZ, hh⟩ := hP
  have hx := Bd.exec
  have hby := Bd.bytes
  have hml : c.maxLocals = 4 := hml0
  have hown : s.vm.findClass "com/example/tallyfold/tallyfold/ScoreDistribution" = some m.cls := findClass_of_methodNamed Bd.named
  have hnm := (name_of_methodNamed Bd.named Bd.method).1
  have X0 : Stand p l e ({ frames := 0, cells := 0, slots := 0, locals := 0 } : Room) s m #[(.double d1), (.double d2)] below meth c s₁ [] 0 0 := Stand.of_body Bd
  have e0 : s₁.heap = h0 := by rw [← hh, Bd.state]; rfl
  have N0 := Fr.nil n0
  refine own_open ?_
  intro R hR
  rw [own_ef_own_far m d1 d2]
  show own_W p e below R (s₁.setTop (mkF m 0 #[.val (.double d1), .second, .val (.double d2), .second] []))
  refine own_go (A' := (s₁.setTop (mkF m 1 #[.val (.double d1), .second, .val (.double d2), .second] [(.double d1)]))) (fun _ k => XS.dloadN X0.here hx rfl (hb hby own_d1_0) rfl k) ?_
  refine own_go (A' := (s₁.setTop (mkF m 2 #[.val (.double d1), .second, .val (.double d2), .second] [(.double d2), (.double d1)]))) (fun _ k => XS.dloadN X0.here hx rfl (hb hby own_d1_1) rfl k) ?_
  refine own_go (A' := (s₁.setTop (mkF m 3 #[.val (.double d1), .second, .val (.double d2), .second] [(.double (FP.dsub d1 d2))]))) (fun _ k => XS.dsubS X0.here hx rfl (hb hby own_d1_2) rfl U1.nn rfl k) ?_
  refine own_go (A' := (s₁.setTop (mkF m 6 #[.val (.double d1), .second, .val (.double d2), .second] [(.double (13740482463107383296 : UInt64)), (.double (FP.dsub d1 d2))]))) (fun _ k => X0.ldc2DoubleC hx hown (mvT hZ (hw _ (List.mem_of_getElem? (i := 5) rfl))) (g := (mkF m 3 #[.val (.double d1), .second, .val (.double d2), .second] [(.double (FP.dsub d1 d2))])) rfl (hb hby own_d1_3) _ k) ?_
  refine own_go (A' := (s₁.setTop (mkF m 7 #[.val (.double d1), .second, .val (.double d2), .second] [(.int (cmpValue (FP.dcmp (FP.dsub d1 d2) (13740482463107383296 : UInt64)) .g))]))) (fun _ k => XS.dcmpS X0.here hx rfl (hb hby own_d1_6) rfl rfl k) ?_
  have hq := own_c_gt U1 own_c87 .g
  by_cases hc : (0 : Int32) < (cmpValue (FP.dcmp (FP.dsub d1 d2) (13740482463107383296 : UInt64)) .g)
  · refine own_go (A' := (s₁.setTop (mkF m 14 #[.val (.double d1), .second, .val (.double d2), .second] []))) (fun _ k => XS.ifYes X0.here hx rfl (pc0 := 7) (pc' := 14) rfl (hb hby own_d1_7) rfl ((if0 _ _).trans (tlt hc).2.2.1) (by decide) (by decide) k) ?_
    refine own_go (A' := (s₁.setTop (mkF m 15 #[.val (.double d1), .second, .val (.double d2), .second] [(.int (0 : Int32))]))) (fun _ k => XS.iconst X0.here hx rfl (hb hby own_d1_14) k) ?_
    have hu : ¬ u ≤ -(2 ^ 1054) := by have := hq.mp hc; omega
    obtain ⟨fs, hr, hrun, hended, hW, hsame⟩ := X0.leave (v := some (.int (0 : Int32))) (fun h => by rw [Bd.returns] at h; cases h)
    refine ⟨_, _, retN X0 hx (t := .boolean) Bd.returns (by simp) (hb hby own_d1_15) hr, hR _ _ ⟨hrun, hended, _, _, rfl, ?_, ⟨_, rfl⟩, hW, hsame.mono (by decide) (by decide)⟩⟩
    show own_Q_own_far Z d1 d2 u h0 n0 _ s₁.heap _
    rw [e0]
    exact ⟨by rw [if_neg hu], N0, rfl⟩
  · refine own_go (A' := (s₁.setTop (mkF m 10 #[.val (.double d1), .second, .val (.double d2), .second] []))) (fun _ k => XS.ifNo X0.here hx rfl (hb hby own_d1_7) rfl ((if0 _ _).trans (flt hc).2.2.1) k) ?_
    refine own_go (A' := (s₁.setTop (mkF m 11 #[.val (.double d1), .second, .val (.double d2), .second] [(.int (1 : Int32))]))) (fun _ k => XS.iconst X0.here hx rfl (hb hby own_d1_10) k) ?_
    refine own_go (A' := (s₁.setTop (mkF m 15 #[.val (.double d1), .second, .val (.double d2), .second] [(.int (1 : Int32))]))) (fun _ k => XS.goto X0.here hx rfl (pc0 := 11) (pc' := 15) rfl (hb hby own_d1_11) (by decide) (by decide) k) ?_
    have hu : u ≤ -(2 ^ 1054) := by
      by_cases q : u ≤ -(2 ^ 1054)
      · exact q
      · exact absurd (hq.mpr (by omega)) hc
    obtain ⟨fs, hr, hrun, hended, hW, hsame⟩ := X0.leave (v := some (.int (1 : Int32))) (fun h => by rw [Bd.returns] at h; cases h)
    refine ⟨_, _, retN X0 hx (t := .boolean) Bd.returns (by simp) (hb hby own_d1_15) hr, hR _ _ ⟨hrun, hended, _, _, rfl, ?_, ⟨_, rfl⟩, hW, hsame.mono (by decide) (by decide)⟩⟩
    show own_Q_own_far Z d1 d2 u h0 n0 _ s₁.heap _
    rw [e0]
    exact ⟨by rw [if_pos hu], N0, rfl⟩
theorem own_ef_own_rm0 (m : MethodId) (p1 : Int32) (p2 : Int32) (p3 : Int32) : entryFrame m #[(.int p1), (.int p2), (.int p3)] maxLocals = mkF m 0 #[.val (.int p1), .val (.int p2), .val (.int p3), .unset, .unset, .unset, .unset, .unset, .unset, .unset, .unset, .unset, .unset] [] := by first | (simp [entryFrame, mkF, argsToLocals, Value.category, maxLocals]; done) | rfl
def own_Q_own_rm0 (Z : State) (p1 : Int32) (p2 : Int32) (p3 : Int32) (h0 : Heap) (n0 : Nat) (v : Option Value) (h : Heap) (L : List Loc) : Prop := v = some (.int 1) ∧ Fr n0 L
set_option maxRecDepth 65536 in
set_option maxHeartbeats 40000000 in
theorem own_rm0 (l : Launch) (Z : State) (a0 : Array Value) (hw : ∀ d ∈ tables_1, d.before a0 Z = true) (ws : List Jvm.Cond) (p1 : Int32) (p2 : Int32) (p3 : Int32) (h0 : Heap) (n0 : Nat) (Z0 : n0 ≤ h0.size)  :
    MetFree l x (head1 (Jvm.Cond.code x code maxLocals ret :: ws) room_1) (fun a U => a = #[(.int p1), (.int p2), (.int p3)] ∧ Z.Warmed39 U.vm ∧ U.heap = h0) (fun _ _ _ _ _ => True) (fun _ U o U' => ∃ v L, o = .returned v ∧ own_Q_own_rm0 Z p1 p2 p3 h0 n0 v U'.heap L ∧ FrameEnd U o U' L room_1.cells room_1.slots) := by
  refine MetFree.of_bodySF (plainFor_of_name own_pn0) hisR ?_
  intro p e s m args below meth c s₁ Bd hml0 hP hK
  obtain ⟨rfl, hZ, hh⟩ := hP
  have hx := Bd.exec
  have hby := Bd.bytes
  have hml : c.maxLocals = 13 := hml0
  have hown : s.vm.findClass "com/example/tallyfold/tallyfold/ScoreDistributionFarBelowPinLaw" = some m.cls := findClass_of_methodNamed Bd.named
  have hnm := (name_of_methodNamed Bd.named Bd.method).1
  have X0 : Stand p l e room_1 s m #[(.int p1), (.int p2), (.int p3)] below meth c s₁ [] 0 0 := Stand.of_body Bd
  have e0 : s₁.heap = h0 := by rw [← hh, Bd.state]; rfl
  have N0 := Fr.nil n0
  refine own_open ?_
  intro R hR
  rw [own_ef_own_rm0 m p1 p2 p3]
  show own_W p e below R (s₁.setTop (mkF m 0 #[.val (.int p1), .val (.int p2), .val (.int p3), .unset, .unset, .unset, .unset, .unset, .unset, .unset, .unset, .unset, .unset] []))
  have J135 : ∀ (sc : UInt64) (th : Int64) (k : Nat), own_At k sc 1 → k ≤ 2045 → (∀ d : Int, d * 2 ^ k ≤ -(2 ^ 1054) ↔ th.toInt ≤ -d) → own_W p e below R (s₁.setTop (mkF m 135 #[.val (.int p1), .val (.int p2), .val (.int p3), .val (.int (p3 &&& (7 : Int32))), .val (.double sc), .second, .val (.long th), .second, .unset, .unset, .unset, .unset, .unset] [])) := by
    intro sc th k hsc hk hth
    have hA := own_logit hsc hk p1
    have hB := own_logit hsc hk p2
    have hU := own_diff hA hB hk
    refine own_go (A' := (s₁.setTop (mkF m 136 #[.val (.int p1), .val (.int p2), .val (.int p3), .val (.int (p3 &&& (7 : Int32))), .val (.double sc), .second, .val (.long th), .second, .unset, .unset, .unset, .unset, .unset] [(.int p1)]))) (fun _ k => XS.iloadN X0.here hx rfl (hb hby at_135) rfl k) ?_
    refine own_go (A' := (s₁.setTop (mkF m 137 #[.val (.int p1), .val (.int p2), .val (.int p3), .val (.int (p3 &&& (7 : Int32))), .val (.double sc), .second, .val (.long th), .second, .unset, .unset, .unset, .unset, .unset] [(.double (FP.i2d p1))]))) (fun _ k => XS.i2dS X0.here hx rfl (hb hby at_136) rfl rfl k) ?_
    refine own_go (A' := (s₁.setTop (mkF m 139 #[.val (.int p1), .val (.int p2), .val (.int p3), .val (.int (p3 &&& (7 : Int32))), .val (.double sc), .second, .val (.long th), .second, .unset, .unset, .unset, .unset, .unset] [(.double sc), (.double (FP.i2d p1))]))) (fun _ k => XS.dload X0.here hx rfl (hb hby at_137) rfl k) ?_
    refine own_go (A' := (s₁.setTop (mkF m 140 #[.val (.int p1), .val (.int p2), .val (.int p3), .val (.int (p3 &&& (7 : Int32))), .val (.double sc), .second, .val (.long th), .second, .unset, .unset, .unset, .unset, .unset] [(.double (FP.dmul (FP.i2d p1) sc))]))) (fun _ k => XS.dmulS X0.here hx rfl (hb hby at_139) rfl hA.nn rfl k) ?_
    refine own_go (A' := (s₁.setTop (mkF m 142 #[.val (.int p1), .val (.int p2), .val (.int p3), .val (.int (p3 &&& (7 : Int32))), .val (.double sc), .second, .val (.long th), .second, .val (.double (FP.dmul (FP.i2d p1) sc)), .second, .unset, .unset, .unset] []))) (fun _ k => XS.dstore X0.here hx rfl (hb hby at_140) rfl (l' := #[.val (.int p1), .val (.int p2), .val (.int p3), .val (.int (p3 &&& (7 : Int32))), .val (.double sc), .second, .val (.long th), .second, .val (.double (FP.dmul (FP.i2d p1) sc)), .second, .unset, .unset, .unset]) rfl k) ?_
    refine own_go (A' := (s₁.setTop (mkF m 143 #[.val (.int p1), .val (.int p2), .val (.int p3), .val (.int (p3 &&& (7 : Int32))), .val (.double sc), .second, .val (.long th), .second, .val (.double (FP.dmul (FP.i2d p1) sc)), .second, .unset, .unset, .unset] [(.int p2)]))) (fun _ k => XS.iloadN X0.here hx rfl (hb hby at_142) rfl k) ?_
    refine own_go (A' := (s₁.setTop (mkF m 144 #[.val (.int p1), .val (.int p2), .val (.int p3), .val (.int (p3 &&& (7 : Int32))), .val (.double sc), .second, .val (.long th), .second, .val (.double (FP.dmul (FP.i2d p1) sc)), .second, .unset, .unset, .unset] [(.double (FP.i2d p2))]))) (fun _ k => XS.i2dS X0.here hx rfl (hb hby at_143) rfl rfl k) ?_
    refine own_go (A' := (s₁.setTop (mkF m 146 #[.val (.int p1), .val (.int p2), .val (.int p3), .val (.int (p3 &&& (7 : Int32))), .val (.double sc), .second, .val (.long th), .second, .val (.double (FP.dmul (FP.i2d p1) sc)), .second, .unset, .unset, .unset] [(.double sc), (.double (FP.i2d p2))]))) (fun _ k => XS.dload X0.here hx rfl (hb hby at_144) rfl k) ?_
    refine own_go (A' := (s₁.setTop (mkF m 147 #[.val (.int p1), .val (.int p2), .val (.int p3), .val (.int (p3 &&& (7 : Int32))), .val (.double sc), .second, .val (.long th), .second, .val (.double (FP.dmul (FP.i2d p1) sc)), .second, .unset, .unset, .unset] [(.double (FP.dmul (FP.i2d p2) sc))]))) (fun _ k => XS.dmulS X0.here hx rfl (hb hby at_146) rfl hB.nn rfl k) ?_
    refine own_go (A' := (s₁.setTop (mkF m 149 #[.val (.int p1), .val (.int p2), .val (.int p3), .val (.int (p3 &&& (7 : Int32))), .val (.double sc), .second, .val (.long th), .second, .val (.double (FP.dmul (FP.i2d p1) sc)), .second, .val (.double (FP.dmul (FP.i2d p2) sc)), .second, .unset] []))) (fun _ k => XS.dstore X0.here hx rfl (hb hby at_147) rfl (l' := #[.val (.int p1), .val (.int p2), .val (.int p3), .val (.int (p3 &&& (7 : Int32))), .val (.double sc), .second, .val (.long th), .second, .val (.double (FP.dmul (FP.i2d p1) sc)), .second, .val (.double (FP.dmul (FP.i2d p2) sc)), .second, .unset]) rfl k) ?_
    refine own_go (A' := (s₁.setTop (mkF m 150 #[.val (.int p1), .val (.int p2), .val (.int p3), .val (.int (p3 &&& (7 : Int32))), .val (.double sc), .second, .val (.long th), .second, .val (.double (FP.dmul (FP.i2d p1) sc)), .second, .val (.double (FP.dmul (FP.i2d p2) sc)), .second, .unset] [(.int p2)]))) (fun _ k => XS.iloadN X0.here hx rfl (hb hby at_149) rfl k) ?_
    refine own_go (A' := (s₁.setTop (mkF m 151 #[.val (.int p1), .val (.int p2), .val (.int p3), .val (.int (p3 &&& (7 : Int32))), .val (.double sc), .second, .val (.long th), .second, .val (.double (FP.dmul (FP.i2d p1) sc)), .second, .val (.double (FP.dmul (FP.i2d p2) sc)), .second, .unset] [(.long (p2.toInt64))]))) (fun _ k => XS.i2l X0.here hx rfl (hb hby at_150) rfl k) ?_
    refine own_go (A' := (s₁.setTop (mkF m 152 #[.val (.int p1), .val (.int p2), .val (.int p3), .val (.int (p3 &&& (7 : Int32))), .val (.double sc), .second, .val (.long th), .second, .val (.double (FP.dmul (FP.i2d p1) sc)), .second, .val (.double (FP.dmul (FP.i2d p2) sc)), .second, .unset] [(.int p1), (.long (p2.toInt64))]))) (fun _ k => XS.iloadN X0.here hx rfl (hb hby at_151) rfl k) ?_
    refine own_go (A' := (s₁.setTop (mkF m 153 #[.val (.int p1), .val (.int p2), .val (.int p3), .val (.int (p3 &&& (7 : Int32))), .val (.double sc), .second, .val (.long th), .second, .val (.double (FP.dmul (FP.i2d p1) sc)), .second, .val (.double (FP.dmul (FP.i2d p2) sc)), .second, .unset] [(.long (p1.toInt64)), (.long (p2.toInt64))]))) (fun _ k => XS.i2l X0.here hx rfl (hb hby at_152) rfl k) ?_
    refine own_go (A' := (s₁.setTop (mkF m 154 #[.val (.int p1), .val (.int p2), .val (.int p3), .val (.int (p3 &&& (7 : Int32))), .val (.double sc), .second, .val (.long th), .second, .val (.double (FP.dmul (FP.i2d p1) sc)), .second, .val (.double (FP.dmul (FP.i2d p2) sc)), .second, .unset] [(.long ((p2.toInt64) - (p1.toInt64)))]))) (fun _ k => XS.lsub X0.here hx rfl (hb hby at_153) rfl k) ?_
    refine own_go (A' := (s₁.setTop (mkF m 156 #[.val (.int p1), .val (.int p2), .val (.int p3), .val (.int (p3 &&& (7 : Int32))), .val (.double sc), .second, .val (.long th), .second, .val (.double (FP.dmul (FP.i2d p1) sc)), .second, .val (.double (FP.dmul (FP.i2d p2) sc)), .second, .unset] [(.long th), (.long ((p2.toInt64) - (p1.toInt64)))]))) (fun _ k => XS.lload X0.here hx rfl (hb hby at_154) rfl k) ?_
    refine own_go (A' := (s₁.setTop (mkF m 157 #[.val (.int p1), .val (.int p2), .val (.int p3), .val (.int (p3 &&& (7 : Int32))), .val (.double sc), .second, .val (.long th), .second, .val (.double (FP.dmul (FP.i2d p1) sc)), .second, .val (.double (FP.dmul (FP.i2d p2) sc)), .second, .unset] [(.int (lcmpW ((p2.toInt64) - (p1.toInt64)) th))]))) (fun _ k => XS.lcmp X0.here hx rfl (hb hby at_156) rfl k) ?_
    have J165 : ∀ ex : Int32, ex = (if (p1.toInt - p2.toInt) * 2 ^ k ≤ -(2 ^ 1054) then 1 else 0) → own_W p e below R (s₁.setTop (mkF m 165 #[.val (.int p1), .val (.int p2), .val (.int p3), .val (.int (p3 &&& (7 : Int32))), .val (.double sc), .second, .val (.long th), .second, .val (.double (FP.dmul (FP.i2d p1) sc)), .second, .val (.double (FP.dmul (FP.i2d p2) sc)), .second, .unset] [(.int ex)])) := by
      intro ex hex
      refine own_go (A' := (s₁.setTop (mkF m 167 #[.val (.int p1), .val (.int p2), .val (.int p3), .val (.int (p3 &&& (7 : Int32))), .val (.double sc), .second, .val (.long th), .second, .val (.double (FP.dmul (FP.i2d p1) sc)), .second, .val (.double (FP.dmul (FP.i2d p2) sc)), .second, .val (.int ex)] []))) (fun _ k => XS.istore X0.here hx rfl (hb hby at_165) rfl (l' := #[.val (.int p1), .val (.int p2), .val (.int p3), .val (.int (p3 &&& (7 : Int32))), .val (.double sc), .second, .val (.long th), .second, .val (.double (FP.dmul (FP.i2d p1) sc)), .second, .val (.double (FP.dmul (FP.i2d p2) sc)), .second, .val (.int ex)]) rfl k) ?_
      refine own_go (A' := (s₁.setTop (mkF m 169 #[.val (.int p1), .val (.int p2), .val (.int p3), .val (.int (p3 &&& (7 : Int32))), .val (.double sc), .second, .val (.long th), .second, .val (.double (FP.dmul (FP.i2d p1) sc)), .second, .val (.double (FP.dmul (FP.i2d p2) sc)), .second, .val (.int ex)] [(.double (FP.dmul (FP.i2d p1) sc))]))) (fun _ k => XS.dload X0.here hx rfl (hb hby at_167) rfl k) ?_
      refine own_go (A' := (s₁.setTop (mkF m 171 #[.val (.int p1), .val (.int p2), .val (.int p3), .val (.int (p3 &&& (7 : Int32))), .val (.double sc), .second, .val (.long th), .second, .val (.double (FP.dmul (FP.i2d p1) sc)), .second, .val (.double (FP.dmul (FP.i2d p2) sc)), .second, .val (.int ex)] [(.double (FP.dmul (FP.i2d p2) sc)), (.double (FP.dmul (FP.i2d p1) sc))]))) (fun _ k => XS.dload X0.here hx rfl (hb hby at_169) rfl k) ?_
      obtain ⟨_, _, ⟨T1, L1, k1, n1⟩, -, X1, ⟨Lc1, hQ1, l1, y1, z1⟩, st1⟩ := Jvm.LawKit.callS X0 hx (y := (⟨"com/example/tallyfold/tallyfold/ScoreDistribution", "farBelow", "(DD)Z"⟩ : MethodName)) hown (mvT hZ (hw _ (List.mem_of_getElem? (i := 1) rfl))) (mvT hZ (hw _ (List.mem_of_getElem? (i := 2) rfl))) (mvT hZ (hw _ (List.mem_of_getElem? (i := 3) rfl))) (mvT hZ (hw _ (List.mem_of_getElem? (i := 4) rfl))) (by decide) (backOf (W := 0) (own_far l Z a0 hw [] (FP.dmul (FP.i2d p1) sc) (FP.dmul (FP.i2d p2) sc) _ h0 n0 Z0 hU) hZ (hw _ (List.mem_of_getElem? (i := 4) rfl)) (hw _ (List.mem_of_getElem? (i := 3) rfl)) (by decide) (by decide)) (g := (mkF m 171 #[.val (.int p1), .val (.int p2), .val (.int p3), .val (.int (p3 &&& (7 : Int32))), .val (.double sc), .second, .val (.long th), .second, .val (.double (FP.dmul (FP.i2d p1) sc)), .second, .val (.double (FP.dmul (FP.i2d p2) sc)), .second, .val (.int ex)] [(.double (FP.dmul (FP.i2d p2) sc)), (.double (FP.dmul (FP.i2d p1) sc))])) rfl (by rw [hml]; rfl) (argsL := [(.double (FP.dmul (FP.i2d p1) sc)), (.double (FP.dmul (FP.i2d p2) sc))]) (rest := []) (lenOf own_pd0 rfl) rfl (by show 2 * 0 + _ ≤ _; exact Nat.le_of_eq rfl) (hb hby at_171) (fun _ _ => ⟨rfl, e0, (by decide : 0 + 0 ≤ _), (by decide : 0 + 0 ≤ _)⟩)
      dsimp only [Pt.U, Pt.locs, Pt.cells, Pt.slots] at X1 l1 y1 z1 st1 hQ1
      subst l1 y1 z1
      obtain ⟨rfl, N1q, hh1⟩ := hQ1
      have N1 := Fr.app N0 N1q
      refine own_go (A' := (T1.setTop (mkF m 174 #[.val (.int p1), .val (.int p2), .val (.int p3), .val (.int (p3 &&& (7 : Int32))), .val (.double sc), .second, .val (.long th), .second, .val (.double (FP.dmul (FP.i2d p1) sc)), .second, .val (.double (FP.dmul (FP.i2d p2) sc)), .second, .val (.int ex)] [(.int (if (p1.toInt - p2.toInt) * 2 ^ k ≤ -(2 ^ 1054) then 1 else 0))]))) (fun _ k => st1 _ k) ?_
      refine own_go (A' := (T1.setTop (mkF m 176 #[.val (.int p1), .val (.int p2), .val (.int p3), .val (.int (p3 &&& (7 : Int32))), .val (.double sc), .second, .val (.long th), .second, .val (.double (FP.dmul (FP.i2d p1) sc)), .second, .val (.double (FP.dmul (FP.i2d p2) sc)), .second, .val (.int ex)] [(.int ex), (.int (if (p1.toInt - p2.toInt) * 2 ^ k ≤ -(2 ^ 1054) then 1 else 0))]))) (fun _ k => XS.iload X1.here hx rfl (hb hby at_174) rfl k) ?_
      refine own_go (A' := (T1.setTop (mkF m 179 #[.val (.int p1), .val (.int p2), .val (.int p3), .val (.int (p3 &&& (7 : Int32))), .val (.double sc), .second, .val (.long th), .second, .val (.double (FP.dmul (FP.i2d p1) sc)), .second, .val (.double (FP.dmul (FP.i2d p2) sc)), .second, .val (.int ex)] []))) (fun _ k => XS.icmpNo X1.here hx rfl (hb hby at_176) rfl (teq hex.symm).2 k) ?_
      refine own_go (A' := (T1.setTop (mkF m 180 #[.val (.int p1), .val (.int p2), .val (.int p3), .val (.int (p3 &&& (7 : Int32))), .val (.double sc), .second, .val (.long th), .second, .val (.double (FP.dmul (FP.i2d p1) sc)), .second, .val (.double (FP.dmul (FP.i2d p2) sc)), .second, .val (.int ex)] [(.int (1 : Int32))]))) (fun _ k => XS.iconst X1.here hx rfl (hb hby at_179) k) ?_
      refine own_go (A' := (T1.setTop (mkF m 184 #[.val (.int p1), .val (.int p2), .val (.int p3), .val (.int (p3 &&& (7 : Int32))), .val (.double sc), .second, .val (.long th), .second, .val (.double (FP.dmul (FP.i2d p1) sc)), .second, .val (.double (FP.dmul (FP.i2d p2) sc)), .second, .val (.int ex)] [(.int (1 : Int32))]))) (fun _ k => XS.goto X1.here hx rfl (pc0 := 180) (pc' := 184) rfl (hb hby at_180) (by decide) (by decide) k) ?_
      obtain ⟨fs, hr, hrun, hended, hW, hsame⟩ := X1.leave (v := some (.int (1 : Int32))) (fun h => by rw [Bd.returns] at h; cases h)
      refine ⟨_, _, retN X1 hx (t := .boolean) Bd.returns (by simp) (hb hby at_184) hr, hR _ _ ⟨hrun, hended, _, _, rfl, ?_, ⟨_, rfl⟩, hW, hsame.mono (by decide) (by decide)⟩⟩
      show own_Q_own_rm0 Z p1 p2 p3 h0 n0 _ T1.heap _
      exact ⟨rfl, N1⟩
    have hs := own_sub64 p1 p2
    have hl := own_l_lt (p2.toInt64 - p1.toInt64) th
    have ht := hth (p1.toInt - p2.toInt)
    by_cases hc : (lcmpW ((p2.toInt64) - (p1.toInt64)) th) < (0 : Int32)
    · refine own_go (A' := (s₁.setTop (mkF m 164 #[.val (.int p1), .val (.int p2), .val (.int p3), .val (.int (p3 &&& (7 : Int32))), .val (.double sc), .second, .val (.long th), .second, .val (.double (FP.dmul (FP.i2d p1) sc)), .second, .val (.double (FP.dmul (FP.i2d p2) sc)), .second, .unset] []))) (fun _ k => XS.ifYes X0.here hx rfl (pc0 := 157) (pc' := 164) rfl (hb hby at_157) rfl ((if0 _ _).trans (tlt hc).1) (by decide) (by decide) k) ?_
      refine own_go (A' := (s₁.setTop (mkF m 165 #[.val (.int p1), .val (.int p2), .val (.int p3), .val (.int (p3 &&& (7 : Int32))), .val (.double sc), .second, .val (.long th), .second, .val (.double (FP.dmul (FP.i2d p1) sc)), .second, .val (.double (FP.dmul (FP.i2d p2) sc)), .second, .unset] [(.int (0 : Int32))]))) (fun _ k => XS.iconst X0.here hx rfl (hb hby at_164) k) ?_
      refine J165 _ (if_neg ?_).symm
      intro q
      have h1 := ht.mp q
      have h2 := Int64.lt_iff_toInt_lt.mp (hl.mp hc)
      omega
    · refine own_go (A' := (s₁.setTop (mkF m 160 #[.val (.int p1), .val (.int p2), .val (.int p3), .val (.int (p3 &&& (7 : Int32))), .val (.double sc), .second, .val (.long th), .second, .val (.double (FP.dmul (FP.i2d p1) sc)), .second, .val (.double (FP.dmul (FP.i2d p2) sc)), .second, .unset] []))) (fun _ k => XS.ifNo X0.here hx rfl (hb hby at_157) rfl ((if0 _ _).trans (flt hc).1) k) ?_
      refine own_go (A' := (s₁.setTop (mkF m 161 #[.val (.int p1), .val (.int p2), .val (.int p3), .val (.int (p3 &&& (7 : Int32))), .val (.double sc), .second, .val (.long th), .second, .val (.double (FP.dmul (FP.i2d p1) sc)), .second, .val (.double (FP.dmul (FP.i2d p2) sc)), .second, .unset] [(.int (1 : Int32))]))) (fun _ k => XS.iconst X0.here hx rfl (hb hby at_160) k) ?_
      refine own_go (A' := (s₁.setTop (mkF m 165 #[.val (.int p1), .val (.int p2), .val (.int p3), .val (.int (p3 &&& (7 : Int32))), .val (.double sc), .second, .val (.long th), .second, .val (.double (FP.dmul (FP.i2d p1) sc)), .second, .val (.double (FP.dmul (FP.i2d p2) sc)), .second, .unset] [(.int (1 : Int32))]))) (fun _ k => XS.goto X0.here hx rfl (pc0 := 161) (pc' := 165) rfl (hb hby at_161) (by decide) (by decide) k) ?_
      refine J165 _ (if_pos (ht.mpr ?_)).symm
      have h2 : ¬ (p2.toInt64 - p1.toInt64).toInt < th.toInt := fun q => hc (hl.mpr (Int64.lt_iff_toInt_lt.mpr q))
      omega
  refine own_go (A' := (s₁.setTop (mkF m 1 #[.val (.int p1), .val (.int p2), .val (.int p3), .unset, .unset, .unset, .unset, .unset, .unset, .unset, .unset, .unset, .unset] [(.int p3)]))) (fun _ k => XS.iloadN X0.here hx rfl (hb hby at_0) rfl k) ?_
  refine own_go (A' := (s₁.setTop (mkF m 3 #[.val (.int p1), .val (.int p2), .val (.int p3), .unset, .unset, .unset, .unset, .unset, .unset, .unset, .unset, .unset, .unset] [(.int (7 : Int32)), (.int p3)]))) (fun _ k => XS.bipush X0.here hx rfl (hb hby at_1) k) ?_
  refine own_go (A' := (s₁.setTop (mkF m 4 #[.val (.int p1), .val (.int p2), .val (.int p3), .unset, .unset, .unset, .unset, .unset, .unset, .unset, .unset, .unset, .unset] [(.int (p3 &&& (7 : Int32)))]))) (fun _ k => XS.iand X0.here hx rfl (hb hby at_3) rfl k) ?_
  refine own_go (A' := (s₁.setTop (mkF m 5 #[.val (.int p1), .val (.int p2), .val (.int p3), .val (.int (p3 &&& (7 : Int32))), .unset, .unset, .unset, .unset, .unset, .unset, .unset, .unset, .unset] []))) (fun _ k => XS.istoreN X0.here hx rfl (hb hby at_4) rfl (l' := #[.val (.int p1), .val (.int p2), .val (.int p3), .val (.int (p3 &&& (7 : Int32))), .unset, .unset, .unset, .unset, .unset, .unset, .unset, .unset, .unset]) rfl k) ?_
  refine own_go (A' := (s₁.setTop (mkF m 6 #[.val (.int p1), .val (.int p2), .val (.int p3), .val (.int (p3 &&& (7 : Int32))), .unset, .unset, .unset, .unset, .unset, .unset, .unset, .unset, .unset] [(.int (p3 &&& (7 : Int32)))]))) (fun _ k => XS.iloadN X0.here hx rfl (hb hby at_5) rfl k) ?_
  by_cases hc0 : (p3 &&& (7 : Int32)) = (0 : Int32)
  · refine own_go (A' := (s₁.setTop (mkF m 9 #[.val (.int p1), .val (.int p2), .val (.int p3), .val (.int (p3 &&& (7 : Int32))), .unset, .unset, .unset, .unset, .unset, .unset, .unset, .unset, .unset] []))) (fun _ k => XS.ifNo X0.here hx rfl (hb hby at_6) rfl ((if0 _ _).trans (teq hc0).2) k) ?_
    refine own_go (A' := (s₁.setTop (mkF m 12 #[.val (.int p1), .val (.int p2), .val (.int p3), .val (.int (p3 &&& (7 : Int32))), .unset, .unset, .unset, .unset, .unset, .unset, .unset, .unset, .unset] [(.double (4787326403894837248 : UInt64))]))) (fun _ k => X0.ldc2DoubleC hx hown (mvT hZ (hw _ (List.mem_of_getElem? (i := 13) rfl))) (g := (mkF m 9 #[.val (.int p1), .val (.int p2), .val (.int p3), .val (.int (p3 &&& (7 : Int32))), .unset, .unset, .unset, .unset, .unset, .unset, .unset, .unset, .unset] [])) rfl (hb hby at_9) _ k) ?_
    refine own_go (A' := (s₁.setTop (mkF m 14 #[.val (.int p1), .val (.int p2), .val (.int p3), .val (.int (p3 &&& (7 : Int32))), .val (.double (4787326403894837248 : UInt64)), .second, .unset, .unset, .unset, .unset, .unset, .unset, .unset] []))) (fun _ k => XS.dstore X0.here hx rfl (hb hby at_12) rfl (l' := #[.val (.int p1), .val (.int p2), .val (.int p3), .val (.int (p3 &&& (7 : Int32))), .val (.double (4787326403894837248 : UInt64)), .second, .unset, .unset, .unset, .unset, .unset, .unset, .unset]) rfl k) ?_
    refine own_go (A' := (s₁.setTop (mkF m 15 #[.val (.int p1), .val (.int p2), .val (.int p3), .val (.int (p3 &&& (7 : Int32))), .val (.double (4787326403894837248 : UInt64)), .second, .unset, .unset, .unset, .unset, .unset, .unset, .unset] [(.long (1 : Int64))]))) (fun _ k => XS.lconst X0.here hx rfl (hb hby at_14) k) ?_
    refine own_go (A' := (s₁.setTop (mkF m 17 #[.val (.int p1), .val (.int p2), .val (.int p3), .val (.int (p3 &&& (7 : Int32))), .val (.double (4787326403894837248 : UInt64)), .second, .val (.long (1 : Int64)), .second, .unset, .unset, .unset, .unset, .unset] []))) (fun _ k => XS.lstore X0.here hx rfl (hb hby at_15) rfl (l' := #[.val (.int p1), .val (.int p2), .val (.int p3), .val (.int (p3 &&& (7 : Int32))), .val (.double (4787326403894837248 : UInt64)), .second, .val (.long (1 : Int64)), .second, .unset, .unset, .unset, .unset, .unset]) rfl k) ?_
    refine own_go (A' := (s₁.setTop (mkF m 135 #[.val (.int p1), .val (.int p2), .val (.int p3), .val (.int (p3 &&& (7 : Int32))), .val (.double (4787326403894837248 : UInt64)), .second, .val (.long (1 : Int64)), .second, .unset, .unset, .unset, .unset, .unset] []))) (fun _ k => XS.goto X0.here hx rfl (pc0 := 17) (pc' := 135) rfl (hb hby at_17) (by decide) (by decide) k) ?_
    exact J135 _ _ 1114 ⟨⟨false, 4503599627370496, -12, by decide +kernel⟩, by decide +kernel⟩ (by decide) (fun d => own_scaleA 60 d)
  · refine own_go (A' := (s₁.setTop (mkF m 20 #[.val (.int p1), .val (.int p2), .val (.int p3), .val (.int (p3 &&& (7 : Int32))), .unset, .unset, .unset, .unset, .unset, .unset, .unset, .unset, .unset] []))) (fun _ k => XS.ifYes X0.here hx rfl (pc0 := 6) (pc' := 20) rfl (hb hby at_6) rfl ((if0 _ _).trans (feq hc0).2) (by decide) (by decide) k) ?_
    refine own_go (A' := (s₁.setTop (mkF m 21 #[.val (.int p1), .val (.int p2), .val (.int p3), .val (.int (p3 &&& (7 : Int32))), .unset, .unset, .unset, .unset, .unset, .unset, .unset, .unset, .unset] [(.int (p3 &&& (7 : Int32)))]))) (fun _ k => XS.iloadN X0.here hx rfl (hb hby at_20) rfl k) ?_
    refine own_go (A' := (s₁.setTop (mkF m 22 #[.val (.int p1), .val (.int p2), .val (.int p3), .val (.int (p3 &&& (7 : Int32))), .unset, .unset, .unset, .unset, .unset, .unset, .unset, .unset, .unset] [(.int (1 : Int32)), (.int (p3 &&& (7 : Int32)))]))) (fun _ k => XS.iconst X0.here hx rfl (hb hby at_21) k) ?_
    by_cases hc1 : (p3 &&& (7 : Int32)) = (1 : Int32)
    · refine own_go (A' := (s₁.setTop (mkF m 25 #[.val (.int p1), .val (.int p2), .val (.int p3), .val (.int (p3 &&& (7 : Int32))), .unset, .unset, .unset, .unset, .unset, .unset, .unset, .unset, .unset] []))) (fun _ k => XS.icmpNo X0.here hx rfl (hb hby at_22) rfl (teq hc1).2 k) ?_
      refine own_go (A' := (s₁.setTop (mkF m 28 #[.val (.int p1), .val (.int p2), .val (.int p3), .val (.int (p3 &&& (7 : Int32))), .unset, .unset, .unset, .unset, .unset, .unset, .unset, .unset, .unset] [(.double (4521614025879977984 : UInt64))]))) (fun _ k => X0.ldc2DoubleC hx hown (mvT hZ (hw _ (List.mem_of_getElem? (i := 12) rfl))) (g := (mkF m 25 #[.val (.int p1), .val (.int p2), .val (.int p3), .val (.int (p3 &&& (7 : Int32))), .unset, .unset, .unset, .unset, .unset, .unset, .unset, .unset, .unset] [])) rfl (hb hby at_25) _ k) ?_
      refine own_go (A' := (s₁.setTop (mkF m 30 #[.val (.int p1), .val (.int p2), .val (.int p3), .val (.int (p3 &&& (7 : Int32))), .val (.double (4521614025879977984 : UInt64)), .second, .unset, .unset, .unset, .unset, .unset, .unset, .unset] []))) (fun _ k => XS.dstore X0.here hx rfl (hb hby at_28) rfl (l' := #[.val (.int p1), .val (.int p2), .val (.int p3), .val (.int (p3 &&& (7 : Int32))), .val (.double (4521614025879977984 : UInt64)), .second, .unset, .unset, .unset, .unset, .unset, .unset, .unset]) rfl k) ?_
      refine own_go (A' := (s₁.setTop (mkF m 31 #[.val (.int p1), .val (.int p2), .val (.int p3), .val (.int (p3 &&& (7 : Int32))), .val (.double (4521614025879977984 : UInt64)), .second, .unset, .unset, .unset, .unset, .unset, .unset, .unset] [(.long (1 : Int64))]))) (fun _ k => XS.lconst X0.here hx rfl (hb hby at_30) k) ?_
      refine own_go (A' := (s₁.setTop (mkF m 33 #[.val (.int p1), .val (.int p2), .val (.int p3), .val (.int (p3 &&& (7 : Int32))), .val (.double (4521614025879977984 : UInt64)), .second, .val (.long (1 : Int64)), .second, .unset, .unset, .unset, .unset, .unset] []))) (fun _ k => XS.lstore X0.here hx rfl (hb hby at_31) rfl (l' := #[.val (.int p1), .val (.int p2), .val (.int p3), .val (.int (p3 &&& (7 : Int32))), .val (.double (4521614025879977984 : UInt64)), .second, .val (.long (1 : Int64)), .second, .unset, .unset, .unset, .unset, .unset]) rfl k) ?_
      refine own_go (A' := (s₁.setTop (mkF m 135 #[.val (.int p1), .val (.int p2), .val (.int p3), .val (.int (p3 &&& (7 : Int32))), .val (.double (4521614025879977984 : UInt64)), .second, .val (.long (1 : Int64)), .second, .unset, .unset, .unset, .unset, .unset] []))) (fun _ k => XS.goto X0.here hx rfl (pc0 := 33) (pc' := 135) rfl (hb hby at_33) (by decide) (by decide) k) ?_
      exact J135 _ _ 1055 ⟨⟨false, 4503599627370496, -71, by decide +kernel⟩, by decide +kernel⟩ (by decide) (fun d => own_scaleA 1 d)
    · refine own_go (A' := (s₁.setTop (mkF m 36 #[.val (.int p1), .val (.int p2), .val (.int p3), .val (.int (p3 &&& (7 : Int32))), .unset, .unset, .unset, .unset, .unset, .unset, .unset, .unset, .unset] []))) (fun _ k => XS.icmpYes X0.here hx rfl (pc0 := 22) (pc' := 36) rfl (hb hby at_22) rfl (feq hc1).2 (by decide) (by decide) k) ?_
      refine own_go (A' := (s₁.setTop (mkF m 37 #[.val (.int p1), .val (.int p2), .val (.int p3), .val (.int (p3 &&& (7 : Int32))), .unset, .unset, .unset, .unset, .unset, .unset, .unset, .unset, .unset] [(.int (p3 &&& (7 : Int32)))]))) (fun _ k => XS.iloadN X0.here hx rfl (hb hby at_36) rfl k) ?_
      refine own_go (A' := (s₁.setTop (mkF m 38 #[.val (.int p1), .val (.int p2), .val (.int p3), .val (.int (p3 &&& (7 : Int32))), .unset, .unset, .unset, .unset, .unset, .unset, .unset, .unset, .unset] [(.int (2 : Int32)), (.int (p3 &&& (7 : Int32)))]))) (fun _ k => XS.iconst X0.here hx rfl (hb hby at_37) k) ?_
      by_cases hc2 : (p3 &&& (7 : Int32)) = (2 : Int32)
      · refine own_go (A' := (s₁.setTop (mkF m 41 #[.val (.int p1), .val (.int p2), .val (.int p3), .val (.int (p3 &&& (7 : Int32))), .unset, .unset, .unset, .unset, .unset, .unset, .unset, .unset, .unset] []))) (fun _ k => XS.icmpNo X0.here hx rfl (hb hby at_38) rfl (teq hc2).2 k) ?_
        refine own_go (A' := (s₁.setTop (mkF m 44 #[.val (.int p1), .val (.int p2), .val (.int p3), .val (.int (p3 &&& (7 : Int32))), .unset, .unset, .unset, .unset, .unset, .unset, .unset, .unset, .unset] [(.double (4517110426252607488 : UInt64))]))) (fun _ k => X0.ldc2DoubleC hx hown (mvT hZ (hw _ (List.mem_of_getElem? (i := 0) rfl))) (g := (mkF m 41 #[.val (.int p1), .val (.int p2), .val (.int p3), .val (.int (p3 &&& (7 : Int32))), .unset, .unset, .unset, .unset, .unset, .unset, .unset, .unset, .unset] [])) rfl (hb hby at_41) _ k) ?_
        refine own_go (A' := (s₁.setTop (mkF m 46 #[.val (.int p1), .val (.int p2), .val (.int p3), .val (.int (p3 &&& (7 : Int32))), .val (.double (4517110426252607488 : UInt64)), .second, .unset, .unset, .unset, .unset, .unset, .unset, .unset] []))) (fun _ k => XS.dstore X0.here hx rfl (hb hby at_44) rfl (l' := #[.val (.int p1), .val (.int p2), .val (.int p3), .val (.int (p3 &&& (7 : Int32))), .val (.double (4517110426252607488 : UInt64)), .second, .unset, .unset, .unset, .unset, .unset, .unset, .unset]) rfl k) ?_
        refine own_go (A' := (s₁.setTop (mkF m 47 #[.val (.int p1), .val (.int p2), .val (.int p3), .val (.int (p3 &&& (7 : Int32))), .val (.double (4517110426252607488 : UInt64)), .second, .unset, .unset, .unset, .unset, .unset, .unset, .unset] [(.long (1 : Int64))]))) (fun _ k => XS.lconst X0.here hx rfl (hb hby at_46) k) ?_
        refine own_go (A' := (s₁.setTop (mkF m 49 #[.val (.int p1), .val (.int p2), .val (.int p3), .val (.int (p3 &&& (7 : Int32))), .val (.double (4517110426252607488 : UInt64)), .second, .val (.long (1 : Int64)), .second, .unset, .unset, .unset, .unset, .unset] []))) (fun _ k => XS.lstore X0.here hx rfl (hb hby at_47) rfl (l' := #[.val (.int p1), .val (.int p2), .val (.int p3), .val (.int (p3 &&& (7 : Int32))), .val (.double (4517110426252607488 : UInt64)), .second, .val (.long (1 : Int64)), .second, .unset, .unset, .unset, .unset, .unset]) rfl k) ?_
        refine own_go (A' := (s₁.setTop (mkF m 135 #[.val (.int p1), .val (.int p2), .val (.int p3), .val (.int (p3 &&& (7 : Int32))), .val (.double (4517110426252607488 : UInt64)), .second, .val (.long (1 : Int64)), .second, .unset, .unset, .unset, .unset, .unset] []))) (fun _ k => XS.goto X0.here hx rfl (pc0 := 49) (pc' := 135) rfl (hb hby at_49) (by decide) (by decide) k) ?_
        exact J135 _ _ 1054 ⟨⟨false, 4503599627370496, -72, by decide +kernel⟩, by decide +kernel⟩ (by decide) (fun d => own_scaleA 0 d)
      · refine own_go (A' := (s₁.setTop (mkF m 52 #[.val (.int p1), .val (.int p2), .val (.int p3), .val (.int (p3 &&& (7 : Int32))), .unset, .unset, .unset, .unset, .unset, .unset, .unset, .unset, .unset] []))) (fun _ k => XS.icmpYes X0.here hx rfl (pc0 := 38) (pc' := 52) rfl (hb hby at_38) rfl (feq hc2).2 (by decide) (by decide) k) ?_
        refine own_go (A' := (s₁.setTop (mkF m 53 #[.val (.int p1), .val (.int p2), .val (.int p3), .val (.int (p3 &&& (7 : Int32))), .unset, .unset, .unset, .unset, .unset, .unset, .unset, .unset, .unset] [(.int (p3 &&& (7 : Int32)))]))) (fun _ k => XS.iloadN X0.here hx rfl (hb hby at_52) rfl k) ?_
        refine own_go (A' := (s₁.setTop (mkF m 54 #[.val (.int p1), .val (.int p2), .val (.int p3), .val (.int (p3 &&& (7 : Int32))), .unset, .unset, .unset, .unset, .unset, .unset, .unset, .unset, .unset] [(.int (3 : Int32)), (.int (p3 &&& (7 : Int32)))]))) (fun _ k => XS.iconst X0.here hx rfl (hb hby at_53) k) ?_
        by_cases hc3 : (p3 &&& (7 : Int32)) = (3 : Int32)
        · refine own_go (A' := (s₁.setTop (mkF m 57 #[.val (.int p1), .val (.int p2), .val (.int p3), .val (.int (p3 &&& (7 : Int32))), .unset, .unset, .unset, .unset, .unset, .unset, .unset, .unset, .unset] []))) (fun _ k => XS.icmpNo X0.here hx rfl (hb hby at_54) rfl (teq hc3).2 k) ?_
          refine own_go (A' := (s₁.setTop (mkF m 60 #[.val (.int p1), .val (.int p2), .val (.int p3), .val (.int (p3 &&& (7 : Int32))), .unset, .unset, .unset, .unset, .unset, .unset, .unset, .unset, .unset] [(.double (4512606826625236992 : UInt64))]))) (fun _ k => X0.ldc2DoubleC hx hown (mvT hZ (hw _ (List.mem_of_getElem? (i := 6) rfl))) (g := (mkF m 57 #[.val (.int p1), .val (.int p2), .val (.int p3), .val (.int (p3 &&& (7 : Int32))), .unset, .unset, .unset, .unset, .unset, .unset, .unset, .unset, .unset] [])) rfl (hb hby at_57) _ k) ?_
          refine own_go (A' := (s₁.setTop (mkF m 62 #[.val (.int p1), .val (.int p2), .val (.int p3), .val (.int (p3 &&& (7 : Int32))), .val (.double (4512606826625236992 : UInt64)), .second, .unset, .unset, .unset, .unset, .unset, .unset, .unset] []))) (fun _ k => XS.dstore X0.here hx rfl (hb hby at_60) rfl (l' := #[.val (.int p1), .val (.int p2), .val (.int p3), .val (.int (p3 &&& (7 : Int32))), .val (.double (4512606826625236992 : UInt64)), .second, .unset, .unset, .unset, .unset, .unset, .unset, .unset]) rfl k) ?_
          refine own_go (A' := (s₁.setTop (mkF m 65 #[.val (.int p1), .val (.int p2), .val (.int p3), .val (.int (p3 &&& (7 : Int32))), .val (.double (4512606826625236992 : UInt64)), .second, .unset, .unset, .unset, .unset, .unset, .unset, .unset] [(.long (2 : Int64))]))) (fun _ k => X0.ldc2Long hx hown (mvT hZ (hw _ (List.mem_of_getElem? (i := 7) rfl))) (g := (mkF m 62 #[.val (.int p1), .val (.int p2), .val (.int p3), .val (.int (p3 &&& (7 : Int32))), .val (.double (4512606826625236992 : UInt64)), .second, .unset, .unset, .unset, .unset, .unset, .unset, .unset] [])) rfl (hb hby at_62) _ k) ?_
          refine own_go (A' := (s₁.setTop (mkF m 67 #[.val (.int p1), .val (.int p2), .val (.int p3), .val (.int (p3 &&& (7 : Int32))), .val (.double (4512606826625236992 : UInt64)), .second, .val (.long (2 : Int64)), .second, .unset, .unset, .unset, .unset, .unset] []))) (fun _ k => XS.lstore X0.here hx rfl (hb hby at_65) rfl (l' := #[.val (.int p1), .val (.int p2), .val (.int p3), .val (.int (p3 &&& (7 : Int32))), .val (.double (4512606826625236992 : UInt64)), .second, .val (.long (2 : Int64)), .second, .unset, .unset, .unset, .unset, .unset]) rfl k) ?_
          refine own_go (A' := (s₁.setTop (mkF m 135 #[.val (.int p1), .val (.int p2), .val (.int p3), .val (.int (p3 &&& (7 : Int32))), .val (.double (4512606826625236992 : UInt64)), .second, .val (.long (2 : Int64)), .second, .unset, .unset, .unset, .unset, .unset] []))) (fun _ k => XS.goto X0.here hx rfl (pc0 := 67) (pc' := 135) rfl (hb hby at_67) (by decide) (by decide) k) ?_
          exact J135 _ _ 1053 ⟨⟨false, 4503599627370496, -73, by decide +kernel⟩, by decide +kernel⟩ (by decide) (fun d => own_scaleB 1053 1 (by decide) d)
        · refine own_go (A' := (s₁.setTop (mkF m 70 #[.val (.int p1), .val (.int p2), .val (.int p3), .val (.int (p3 &&& (7 : Int32))), .unset, .unset, .unset, .unset, .unset, .unset, .unset, .unset, .unset] []))) (fun _ k => XS.icmpYes X0.here hx rfl (pc0 := 54) (pc' := 70) rfl (hb hby at_54) rfl (feq hc3).2 (by decide) (by decide) k) ?_
          refine own_go (A' := (s₁.setTop (mkF m 71 #[.val (.int p1), .val (.int p2), .val (.int p3), .val (.int (p3 &&& (7 : Int32))), .unset, .unset, .unset, .unset, .unset, .unset, .unset, .unset, .unset] [(.int (p3 &&& (7 : Int32)))]))) (fun _ k => XS.iloadN X0.here hx rfl (hb hby at_70) rfl k) ?_
          refine own_go (A' := (s₁.setTop (mkF m 72 #[.val (.int p1), .val (.int p2), .val (.int p3), .val (.int (p3 &&& (7 : Int32))), .unset, .unset, .unset, .unset, .unset, .unset, .unset, .unset, .unset] [(.int (4 : Int32)), (.int (p3 &&& (7 : Int32)))]))) (fun _ k => XS.iconst X0.here hx rfl (hb hby at_71) k) ?_
          by_cases hc4 : (p3 &&& (7 : Int32)) = (4 : Int32)
          · refine own_go (A' := (s₁.setTop (mkF m 75 #[.val (.int p1), .val (.int p2), .val (.int p3), .val (.int (p3 &&& (7 : Int32))), .unset, .unset, .unset, .unset, .unset, .unset, .unset, .unset, .unset] []))) (fun _ k => XS.icmpNo X0.here hx rfl (hb hby at_72) rfl (teq hc4).2 k) ?_
            refine own_go (A' := (s₁.setTop (mkF m 78 #[.val (.int p1), .val (.int p2), .val (.int p3), .val (.int (p3 &&& (7 : Int32))), .unset, .unset, .unset, .unset, .unset, .unset, .unset, .unset, .unset] [(.double (4508103226997866496 : UInt64))]))) (fun _ k => X0.ldc2DoubleC hx hown (mvT hZ (hw _ (List.mem_of_getElem? (i := 16) rfl))) (g := (mkF m 75 #[.val (.int p1), .val (.int p2), .val (.int p3), .val (.int (p3 &&& (7 : Int32))), .unset, .unset, .unset, .unset, .unset, .unset, .unset, .unset, .unset] [])) rfl (hb hby at_75) _ k) ?_
            refine own_go (A' := (s₁.setTop (mkF m 80 #[.val (.int p1), .val (.int p2), .val (.int p3), .val (.int (p3 &&& (7 : Int32))), .val (.double (4508103226997866496 : UInt64)), .second, .unset, .unset, .unset, .unset, .unset, .unset, .unset] []))) (fun _ k => XS.dstore X0.here hx rfl (hb hby at_78) rfl (l' := #[.val (.int p1), .val (.int p2), .val (.int p3), .val (.int (p3 &&& (7 : Int32))), .val (.double (4508103226997866496 : UInt64)), .second, .unset, .unset, .unset, .unset, .unset, .unset, .unset]) rfl k) ?_
            refine own_go (A' := (s₁.setTop (mkF m 83 #[.val (.int p1), .val (.int p2), .val (.int p3), .val (.int (p3 &&& (7 : Int32))), .val (.double (4508103226997866496 : UInt64)), .second, .unset, .unset, .unset, .unset, .unset, .unset, .unset] [(.long (4 : Int64))]))) (fun _ k => X0.ldc2Long hx hown (mvT hZ (hw _ (List.mem_of_getElem? (i := 17) rfl))) (g := (mkF m 80 #[.val (.int p1), .val (.int p2), .val (.int p3), .val (.int (p3 &&& (7 : Int32))), .val (.double (4508103226997866496 : UInt64)), .second, .unset, .unset, .unset, .unset, .unset, .unset, .unset] [])) rfl (hb hby at_80) _ k) ?_
            refine own_go (A' := (s₁.setTop (mkF m 85 #[.val (.int p1), .val (.int p2), .val (.int p3), .val (.int (p3 &&& (7 : Int32))), .val (.double (4508103226997866496 : UInt64)), .second, .val (.long (4 : Int64)), .second, .unset, .unset, .unset, .unset, .unset] []))) (fun _ k => XS.lstore X0.here hx rfl (hb hby at_83) rfl (l' := #[.val (.int p1), .val (.int p2), .val (.int p3), .val (.int (p3 &&& (7 : Int32))), .val (.double (4508103226997866496 : UInt64)), .second, .val (.long (4 : Int64)), .second, .unset, .unset, .unset, .unset, .unset]) rfl k) ?_
            refine own_go (A' := (s₁.setTop (mkF m 135 #[.val (.int p1), .val (.int p2), .val (.int p3), .val (.int (p3 &&& (7 : Int32))), .val (.double (4508103226997866496 : UInt64)), .second, .val (.long (4 : Int64)), .second, .unset, .unset, .unset, .unset, .unset] []))) (fun _ k => XS.goto X0.here hx rfl (pc0 := 85) (pc' := 135) rfl (hb hby at_85) (by decide) (by decide) k) ?_
            exact J135 _ _ 1052 ⟨⟨false, 4503599627370496, -74, by decide +kernel⟩, by decide +kernel⟩ (by decide) (fun d => own_scaleB 1052 2 (by decide) d)
          · refine own_go (A' := (s₁.setTop (mkF m 88 #[.val (.int p1), .val (.int p2), .val (.int p3), .val (.int (p3 &&& (7 : Int32))), .unset, .unset, .unset, .unset, .unset, .unset, .unset, .unset, .unset] []))) (fun _ k => XS.icmpYes X0.here hx rfl (pc0 := 72) (pc' := 88) rfl (hb hby at_72) rfl (feq hc4).2 (by decide) (by decide) k) ?_
            refine own_go (A' := (s₁.setTop (mkF m 89 #[.val (.int p1), .val (.int p2), .val (.int p3), .val (.int (p3 &&& (7 : Int32))), .unset, .unset, .unset, .unset, .unset, .unset, .unset, .unset, .unset] [(.int (p3 &&& (7 : Int32)))]))) (fun _ k => XS.iloadN X0.here hx rfl (hb hby at_88) rfl k) ?_
            refine own_go (A' := (s₁.setTop (mkF m 90 #[.val (.int p1), .val (.int p2), .val (.int p3), .val (.int (p3 &&& (7 : Int32))), .unset, .unset, .unset, .unset, .unset, .unset, .unset, .unset, .unset] [(.int (5 : Int32)), (.int (p3 &&& (7 : Int32)))]))) (fun _ k => XS.iconst X0.here hx rfl (hb hby at_89) k) ?_
            by_cases hc5 : (p3 &&& (7 : Int32)) = (5 : Int32)
            · refine own_go (A' := (s₁.setTop (mkF m 93 #[.val (.int p1), .val (.int p2), .val (.int p3), .val (.int (p3 &&& (7 : Int32))), .unset, .unset, .unset, .unset, .unset, .unset, .unset, .unset, .unset] []))) (fun _ k => XS.icmpNo X0.here hx rfl (hb hby at_90) rfl (teq hc5).2 k) ?_
              refine own_go (A' := (s₁.setTop (mkF m 96 #[.val (.int p1), .val (.int p2), .val (.int p3), .val (.int (p3 &&& (7 : Int32))), .unset, .unset, .unset, .unset, .unset, .unset, .unset, .unset, .unset] [(.double (4472074429978902528 : UInt64))]))) (fun _ k => X0.ldc2DoubleC hx hown (mvT hZ (hw _ (List.mem_of_getElem? (i := 10) rfl))) (g := (mkF m 93 #[.val (.int p1), .val (.int p2), .val (.int p3), .val (.int (p3 &&& (7 : Int32))), .unset, .unset, .unset, .unset, .unset, .unset, .unset, .unset, .unset] [])) rfl (hb hby at_93) _ k) ?_
              refine own_go (A' := (s₁.setTop (mkF m 98 #[.val (.int p1), .val (.int p2), .val (.int p3), .val (.int (p3 &&& (7 : Int32))), .val (.double (4472074429978902528 : UInt64)), .second, .unset, .unset, .unset, .unset, .unset, .unset, .unset] []))) (fun _ k => XS.dstore X0.here hx rfl (hb hby at_96) rfl (l' := #[.val (.int p1), .val (.int p2), .val (.int p3), .val (.int (p3 &&& (7 : Int32))), .val (.double (4472074429978902528 : UInt64)), .second, .unset, .unset, .unset, .unset, .unset, .unset, .unset]) rfl k) ?_
              refine own_go (A' := (s₁.setTop (mkF m 101 #[.val (.int p1), .val (.int p2), .val (.int p3), .val (.int (p3 &&& (7 : Int32))), .val (.double (4472074429978902528 : UInt64)), .second, .unset, .unset, .unset, .unset, .unset, .unset, .unset] [(.long (1024 : Int64))]))) (fun _ k => X0.ldc2Long hx hown (mvT hZ (hw _ (List.mem_of_getElem? (i := 11) rfl))) (g := (mkF m 98 #[.val (.int p1), .val (.int p2), .val (.int p3), .val (.int (p3 &&& (7 : Int32))), .val (.double (4472074429978902528 : UInt64)), .second, .unset, .unset, .unset, .unset, .unset, .unset, .unset] [])) rfl (hb hby at_98) _ k) ?_
              refine own_go (A' := (s₁.setTop (mkF m 103 #[.val (.int p1), .val (.int p2), .val (.int p3), .val (.int (p3 &&& (7 : Int32))), .val (.double (4472074429978902528 : UInt64)), .second, .val (.long (1024 : Int64)), .second, .unset, .unset, .unset, .unset, .unset] []))) (fun _ k => XS.lstore X0.here hx rfl (hb hby at_101) rfl (l' := #[.val (.int p1), .val (.int p2), .val (.int p3), .val (.int (p3 &&& (7 : Int32))), .val (.double (4472074429978902528 : UInt64)), .second, .val (.long (1024 : Int64)), .second, .unset, .unset, .unset, .unset, .unset]) rfl k) ?_
              refine own_go (A' := (s₁.setTop (mkF m 135 #[.val (.int p1), .val (.int p2), .val (.int p3), .val (.int (p3 &&& (7 : Int32))), .val (.double (4472074429978902528 : UInt64)), .second, .val (.long (1024 : Int64)), .second, .unset, .unset, .unset, .unset, .unset] []))) (fun _ k => XS.goto X0.here hx rfl (pc0 := 103) (pc' := 135) rfl (hb hby at_103) (by decide) (by decide) k) ?_
              exact J135 _ _ 1044 ⟨⟨false, 4503599627370496, -82, by decide +kernel⟩, by decide +kernel⟩ (by decide) (fun d => own_scaleB 1044 10 (by decide) d)
            · refine own_go (A' := (s₁.setTop (mkF m 106 #[.val (.int p1), .val (.int p2), .val (.int p3), .val (.int (p3 &&& (7 : Int32))), .unset, .unset, .unset, .unset, .unset, .unset, .unset, .unset, .unset] []))) (fun _ k => XS.icmpYes X0.here hx rfl (pc0 := 90) (pc' := 106) rfl (hb hby at_90) rfl (feq hc5).2 (by decide) (by decide) k) ?_
              refine own_go (A' := (s₁.setTop (mkF m 107 #[.val (.int p1), .val (.int p2), .val (.int p3), .val (.int (p3 &&& (7 : Int32))), .unset, .unset, .unset, .unset, .unset, .unset, .unset, .unset, .unset] [(.int (p3 &&& (7 : Int32)))]))) (fun _ k => XS.iloadN X0.here hx rfl (hb hby at_106) rfl k) ?_
              refine own_go (A' := (s₁.setTop (mkF m 109 #[.val (.int p1), .val (.int p2), .val (.int p3), .val (.int (p3 &&& (7 : Int32))), .unset, .unset, .unset, .unset, .unset, .unset, .unset, .unset, .unset] [(.int (6 : Int32)), (.int (p3 &&& (7 : Int32)))]))) (fun _ k => XS.bipush X0.here hx rfl (hb hby at_107) k) ?_
              by_cases hc6 : (p3 &&& (7 : Int32)) = (6 : Int32)
              · refine own_go (A' := (s₁.setTop (mkF m 112 #[.val (.int p1), .val (.int p2), .val (.int p3), .val (.int (p3 &&& (7 : Int32))), .unset, .unset, .unset, .unset, .unset, .unset, .unset, .unset, .unset] []))) (fun _ k => XS.icmpNo X0.here hx rfl (hb hby at_109) rfl (teq hc6).2 k) ?_
                refine own_go (A' := (s₁.setTop (mkF m 115 #[.val (.int p1), .val (.int p2), .val (.int p3), .val (.int (p3 &&& (7 : Int32))), .unset, .unset, .unset, .unset, .unset, .unset, .unset, .unset, .unset] [(.double (4427038433705197568 : UInt64))]))) (fun _ k => X0.ldc2DoubleC hx hown (mvT hZ (hw _ (List.mem_of_getElem? (i := 14) rfl))) (g := (mkF m 112 #[.val (.int p1), .val (.int p2), .val (.int p3), .val (.int (p3 &&& (7 : Int32))), .unset, .unset, .unset, .unset, .unset, .unset, .unset, .unset, .unset] [])) rfl (hb hby at_112) _ k) ?_
                refine own_go (A' := (s₁.setTop (mkF m 117 #[.val (.int p1), .val (.int p2), .val (.int p3), .val (.int (p3 &&& (7 : Int32))), .val (.double (4427038433705197568 : UInt64)), .second, .unset, .unset, .unset, .unset, .unset, .unset, .unset] []))) (fun _ k => XS.dstore X0.here hx rfl (hb hby at_115) rfl (l' := #[.val (.int p1), .val (.int p2), .val (.int p3), .val (.int (p3 &&& (7 : Int32))), .val (.double (4427038433705197568 : UInt64)), .second, .unset, .unset, .unset, .unset, .unset, .unset, .unset]) rfl k) ?_
                refine own_go (A' := (s₁.setTop (mkF m 120 #[.val (.int p1), .val (.int p2), .val (.int p3), .val (.int (p3 &&& (7 : Int32))), .val (.double (4427038433705197568 : UInt64)), .second, .unset, .unset, .unset, .unset, .unset, .unset, .unset] [(.long (1048576 : Int64))]))) (fun _ k => X0.ldc2Long hx hown (mvT hZ (hw _ (List.mem_of_getElem? (i := 15) rfl))) (g := (mkF m 117 #[.val (.int p1), .val (.int p2), .val (.int p3), .val (.int (p3 &&& (7 : Int32))), .val (.double (4427038433705197568 : UInt64)), .second, .unset, .unset, .unset, .unset, .unset, .unset, .unset] [])) rfl (hb hby at_117) _ k) ?_
                refine own_go (A' := (s₁.setTop (mkF m 122 #[.val (.int p1), .val (.int p2), .val (.int p3), .val (.int (p3 &&& (7 : Int32))), .val (.double (4427038433705197568 : UInt64)), .second, .val (.long (1048576 : Int64)), .second, .unset, .unset, .unset, .unset, .unset] []))) (fun _ k => XS.lstore X0.here hx rfl (hb hby at_120) rfl (l' := #[.val (.int p1), .val (.int p2), .val (.int p3), .val (.int (p3 &&& (7 : Int32))), .val (.double (4427038433705197568 : UInt64)), .second, .val (.long (1048576 : Int64)), .second, .unset, .unset, .unset, .unset, .unset]) rfl k) ?_
                refine own_go (A' := (s₁.setTop (mkF m 135 #[.val (.int p1), .val (.int p2), .val (.int p3), .val (.int (p3 &&& (7 : Int32))), .val (.double (4427038433705197568 : UInt64)), .second, .val (.long (1048576 : Int64)), .second, .unset, .unset, .unset, .unset, .unset] []))) (fun _ k => XS.goto X0.here hx rfl (pc0 := 122) (pc' := 135) rfl (hb hby at_122) (by decide) (by decide) k) ?_
                exact J135 _ _ 1034 ⟨⟨false, 4503599627370496, -92, by decide +kernel⟩, by decide +kernel⟩ (by decide) (fun d => own_scaleB 1034 20 (by decide) d)
              · refine own_go (A' := (s₁.setTop (mkF m 125 #[.val (.int p1), .val (.int p2), .val (.int p3), .val (.int (p3 &&& (7 : Int32))), .unset, .unset, .unset, .unset, .unset, .unset, .unset, .unset, .unset] []))) (fun _ k => XS.icmpYes X0.here hx rfl (pc0 := 109) (pc' := 125) rfl (hb hby at_109) rfl (feq hc6).2 (by decide) (by decide) k) ?_
                refine own_go (A' := (s₁.setTop (mkF m 128 #[.val (.int p1), .val (.int p2), .val (.int p3), .val (.int (p3 &&& (7 : Int32))), .unset, .unset, .unset, .unset, .unset, .unset, .unset, .unset, .unset] [(.double (4382002437431492608 : UInt64))]))) (fun _ k => X0.ldc2DoubleC hx hown (mvT hZ (hw _ (List.mem_of_getElem? (i := 8) rfl))) (g := (mkF m 125 #[.val (.int p1), .val (.int p2), .val (.int p3), .val (.int (p3 &&& (7 : Int32))), .unset, .unset, .unset, .unset, .unset, .unset, .unset, .unset, .unset] [])) rfl (hb hby at_125) _ k) ?_
                refine own_go (A' := (s₁.setTop (mkF m 130 #[.val (.int p1), .val (.int p2), .val (.int p3), .val (.int (p3 &&& (7 : Int32))), .val (.double (4382002437431492608 : UInt64)), .second, .unset, .unset, .unset, .unset, .unset, .unset, .unset] []))) (fun _ k => XS.dstore X0.here hx rfl (hb hby at_128) rfl (l' := #[.val (.int p1), .val (.int p2), .val (.int p3), .val (.int (p3 &&& (7 : Int32))), .val (.double (4382002437431492608 : UInt64)), .second, .unset, .unset, .unset, .unset, .unset, .unset, .unset]) rfl k) ?_
                refine own_go (A' := (s₁.setTop (mkF m 133 #[.val (.int p1), .val (.int p2), .val (.int p3), .val (.int (p3 &&& (7 : Int32))), .val (.double (4382002437431492608 : UInt64)), .second, .unset, .unset, .unset, .unset, .unset, .unset, .unset] [(.long (1073741824 : Int64))]))) (fun _ k => X0.ldc2Long hx hown (mvT hZ (hw _ (List.mem_of_getElem? (i := 9) rfl))) (g := (mkF m 130 #[.val (.int p1), .val (.int p2), .val (.int p3), .val (.int (p3 &&& (7 : Int32))), .val (.double (4382002437431492608 : UInt64)), .second, .unset, .unset, .unset, .unset, .unset, .unset, .unset] [])) rfl (hb hby at_130) _ k) ?_
                refine own_go (A' := (s₁.setTop (mkF m 135 #[.val (.int p1), .val (.int p2), .val (.int p3), .val (.int (p3 &&& (7 : Int32))), .val (.double (4382002437431492608 : UInt64)), .second, .val (.long (1073741824 : Int64)), .second, .unset, .unset, .unset, .unset, .unset] []))) (fun _ k => XS.lstore X0.here hx rfl (hb hby at_133) rfl (l' := #[.val (.int p1), .val (.int p2), .val (.int p3), .val (.int (p3 &&& (7 : Int32))), .val (.double (4382002437431492608 : UInt64)), .second, .val (.long (1073741824 : Int64)), .second, .unset, .unset, .unset, .unset, .unset]) rfl k) ?_
                exact J135 _ _ 1024 ⟨⟨false, 4503599627370496, -102, by decide +kernel⟩, by decide +kernel⟩ (by decide) (fun d => own_scaleB 1024 30 (by decide) d)
set_option maxRecDepth 65536 in
set_option maxHeartbeats 40000000 in
theorem own_comes {Post : Tables → Env → Array Value → State → Outcome → State → Prop} (hpost : ∀ tb e args s v u, (limb_1_1.after args s (.returned v) u = true ∧ limb_1_2.after args s (.returned v) u = true ∧ True) → FrameEnd s (.returned v) u (Jvm.fieldLocs frame_1_writes args s ++ Jvm.arrayLocs frame_1_arrays args s ++ Jvm.staticLocs frame_1_statics s) 0 0 → Post tb e args s (.returned v) u) :
    ArmFor flags0 classFile x code maxLocals ret World_1 tables_1 room_1 Calls_1 rest_1 Pre_1 Post := by
  intro l hfl _ _ p e ha hc hk s m args below hf hA hF happ hP
  obtain ⟨hcalls, hrest, hpre⟩ := hP
  obtain ⟨-, -, -, hnamed, -, -, -, hat⟩ := (Spec.applies_iff hf).mp happ
  obtain ⟨hg, hn⟩ := and_e (Cond.before_iff.mp (show (Jvm.Cond.and given_1 narrow_1).before args s = true from hpre))
  obtain ⟨g1, g2⟩ := and_e hg
  obtain ⟨g3, g4⟩ := and_e g2
  obtain ⟨g5, g6⟩ := and_e g4
  obtain ⟨w0, w1, w2, rfl⟩ : ∃ w0 w1 w2 : Value, args = #[w0, w1, w2] := by
    have hs : args.size = 3 := by simpa [Cond.value, given_1] using g1
    obtain ⟨L⟩ := args
    match L, hs with
    | [w0, w1, w2], _ => exact ⟨w0, w1, w2, rfl⟩
  have hw := fun d (hd : d ∈ tables_1) => atoms_spec (ws := Jvm.Cond.code x code maxLocals ret :: tables_1) hat d (List.mem_cons_of_mem _ hd)
  have hfit : Fit s := fun {y c} hc i hi => by
    obtain ⟨ha, rfl⟩ := Array.getElem?_eq_some_iff.mp hc
    have q := List.all_eq_true.mp ((Array.all_eq_true_iff_forall_mem.mp hF) _ (Array.getElem_mem ha)) i (List.mem_range.mpr hi)
    simpa [Array.getElem?_eq_getElem hi] using q
  obtain ⟨i0, ei0⟩ := is_v g3
  obtain rfl : w0 = (.int i0) := Option.some.inj ei0
  obtain ⟨i1, ei1⟩ := is_v g5
  obtain rfl : w1 = (.int i1) := Option.some.inj ei1
  obtain ⟨i2, ei2⟩ := is_v g6
  obtain rfl : w2 = (.int i2) := Option.some.inj ei2
  obtain ⟨n, o, h1, h2, h3, _, L, rfl, ⟨rfl, N⟩, hq⟩ := own_rm0 l s _ hw tables_1 i0 i1 i2  s.heap s.heap.size (Nat.le_refl _)  p e ha hc hk s m _ below hf ((Spec.applies_iff_loose hf).mp happ).1 ⟨rfl, State.Warmed39.refl s, rfl⟩ trivial
  refine ⟨n, _, h1, h2, h3, hpost _ _ _ _ _ _ ⟨Cond.after_iff.mpr rfl, Cond.after_iff.mpr (eq_i res_at (Term.int_eval (1)) rfl), trivial⟩ ⟨hq.1, hq.2.1, (hq.2.2.sift fun y hy => Or.inr (N y hy)).mono (by decide) (by decide)⟩⟩
theorem main_1_1 : Claimed_1_1 := own_comes fun _ _ _ _ _ _ h hF => ⟨h.1, hF⟩
theorem main_1_2 : Claimed_1_2 := own_comes fun _ _ _ _ _ _ h hF => ⟨h.2.1, hF⟩
end Jvm.Pilot.@@N@@
namespace Jvm.Pilot.@@N@@
open Jvm Jvm.ClassFile Sem Op Lib Jvm.Free Jvm.Stand Jvm.Pilot.@@N@@.Jvm.D
/-! MADE BY PROGRAM (witnessworld.py) out of the Statement's table words and the real class files: 9 classes; the members and pool entries that the words name. The judged class is class 1, her method 1. -/
namespace start1
open Jvm.ClassFile
def u (s : String) : CpInfo := .utf8 (stringToUtf16 s)
/-- a pool by its gaps: so many unusable entries, then the entry; so many at the end -/
def gap : Nat → List CpInfo → List CpInfo
  | 0, r => r
  | n + 1, r => .unusable :: gap n r
def poolList (es : List (Nat × CpInfo)) (last : Nat) : List CpInfo := es.foldr (fun e r => gap e.1 (e.2 :: r)) (gap last [])
def pool (es : List (Nat × CpInfo)) (last : Nat) : Array CpInfo := ⟨poolList es last⟩
def fileOf (pool : Array CpInfo) (this : Nat) (attrs : Array Attribute := #[]) (ms : Array MethodInfo := #[]) (fl : Nat := 33) (sup : Nat := 0) (ifs : Array Nat := #[]) (fds : Array FieldInfo := #[]) : ClassFile where
  minorVersion := 0
  majorVersion := 65
  constantPool := pool
  accessFlags := fl
  thisClass := this
  superClass := sup
  interfaces := ifs
  fields := fds
  methods := ms
  attributes := attrs
def plain (name : String) (sup : Option ClassId) : Class where
  name := name
  kind := .ordinary
  loader := none
  accessFlags := 33
  super := sup
  interfaces := #[]
  cf := none
  fields := #[]
  methods := #[]
  instanceTypes := #[]
  staticTypes := #[]
  resolved := #[]
  callSites := []
  init := .initialized
  statics := none
  mirror := none

def pool0 : Array CpInfo := pool [(5, u "<init>"), (0, u "()V"), (1, .class_ 10), (1, u "java/lang/Object")] 113

def k0m0 : Method := { name := "<init>", desc := "()V", sig := { parameters := [], returnType := none }, accessFlags := 1, code := none }
/-- java/lang/Object -/
def k0 : Class := { plain "java/lang/Object" none with
  accessFlags := 33
  interfaces := #[]
  cf := some (fileOf pool0 8 #[] #[{ accessFlags := 1, nameIndex := 5, descriptorIndex := 6, attributes := #[] }] 33 0 #[] #[])
  fields := #[]
  methods := #[k0m0]
  instanceTypes := #[]
  staticTypes := #[]
  resolved := Array.replicate 124 none
  statics := none }

def pool1 : Array CpInfo := pool [(2, .class_ 4), (1, u "java/lang/Object"), (0, u "<init>"), (0, u "()V"), (0, .double 4787326403894837248), (1, .double 4521614025879977984), (1, .double 4517110426252607488), (1, .double 4512606826625236992), (1, .long 2), (1, .double 4508103226997866496), (1, .long 4), (1, .double 4472074429978902528), (1, .long 1024), (1, .double 4427038433705197568), (1, .long 1048576), (1, .double 4382002437431492608), (1, .long 1073741824), (1, .methodref 34 35), (0, .class_ 36), (0, .nameAndType 37 38), (0, u "com/example/tallyfold/tallyfold/ScoreDistribution"), (0, u "farBelow"), (0, u "(DD)Z"), (0, .class_ 40), (0, u "com/example/tallyfold/tallyfold/ScoreDistributionFarBelowPinLaw"), (2, u "law"), (0, u "(III)Z")] 3

def k1m0 : Method := { name := "<init>", desc := "()V", sig := { parameters := [], returnType := none }, accessFlags := 1, code := none }
def k1c1 : Code := { maxStack := 4, maxLocals := 13, code := code, exceptionTable := #[], attributes := #[] }
def k1m1 : Method := { name := "law", desc := "(III)Z", sig := { parameters := [.int, .int, .int], returnType := some .boolean }, accessFlags := 9, code := some k1c1 }
/-- com/example/tallyfold/tallyfold/ScoreDistributionFarBelowPinLaw -/
def k1 : Class := { plain "com/example/tallyfold/tallyfold/ScoreDistributionFarBelowPinLaw" (some 0) with
  accessFlags := 49
  interfaces := #[]
  cf := some (fileOf pool1 39 #[] #[{ accessFlags := 1, nameIndex := 5, descriptorIndex := 6, attributes := #[] }, { accessFlags := 9, nameIndex := 43, descriptorIndex := 44, attributes := #[] }] 49 2 #[] #[])
  fields := #[]
  methods := #[k1m0, k1m1]
  instanceTypes := #[]
  staticTypes := #[]
  resolved := Array.replicate 48 none
  statics := none }

def pool2 : Array CpInfo := pool [(2, .class_ 4), (1, u "java/lang/Object"), (3, .class_ 10), (1, u "com/example/tallyfold/tallyfold/ScoreDistribution"), (0, u "probabilities"), (0, u "[D"), (6, u "mode"), (0, u "I"), (66, .double 13740482463107383296), (7, u "farBelow"), (0, u "(DD)Z"), (15, u "SUM_TOLERANCE"), (0, u "D"), (1, u "CLEAR")] 40

def k2c0 : Code := { maxStack := 4, maxLocals := 4, code := prog_11_method_7_code, exceptionTable := #[], attributes := #[] }
def k2m0 : Method := { name := "farBelow", desc := "(DD)Z", sig := { parameters := [.double, .double], returnType := some .boolean }, accessFlags := 8, code := some k2c0 }
/-- com/example/tallyfold/tallyfold/ScoreDistribution -/
def k2 : Class := { plain "com/example/tallyfold/tallyfold/ScoreDistribution" (some 0) with
  accessFlags := 49
  interfaces := #[]
  cf := some (fileOf pool2 8 #[] #[{ accessFlags := 8, nameIndex := 95, descriptorIndex := 96, attributes := #[] }] 49 2 #[] #[{ accessFlags := 26, nameIndex := 112, descriptorIndex := 113, attributes := #[] }, { accessFlags := 26, nameIndex := 115, descriptorIndex := 113, attributes := #[] }, { accessFlags := 18, nameIndex := 11, descriptorIndex := 12, attributes := #[] }, { accessFlags := 18, nameIndex := 19, descriptorIndex := 20, attributes := #[] }])
  fields := #[{ name := "SUM_TOLERANCE", type := .double, accessFlags := 26, slot := 0, constantValue := 0 }, { name := "CLEAR", type := .double, accessFlags := 26, slot := 1, constantValue := 0 }, { name := "probabilities", type := (.array .double), accessFlags := 18, slot := 0, constantValue := 0 }, { name := "mode", type := .int, accessFlags := 18, slot := 1, constantValue := 0 }]
  methods := #[k2m0]
  instanceTypes := #[(.array .double), .int]
  staticTypes := #[.double, .double]
  resolved := Array.replicate 156 none
  statics := none }

def pool3 : Array CpInfo := pool [(1, u "java/lang/Cloneable"), (0, .class_ 1), (0, u "java/lang/Object"), (0, .class_ 3)] 3

/-- java/lang/Cloneable -/
def k3 : Class := { plain "java/lang/Cloneable" (some 0) with
  accessFlags := 1537
  interfaces := #[]
  cf := some (fileOf pool3 2 #[] #[] 1537 4 #[] #[])
  fields := #[]
  methods := #[]
  instanceTypes := #[]
  staticTypes := #[]
  resolved := Array.replicate 8 none
  statics := none }

def pool4 : Array CpInfo := pool [(1, u "java/io/Serializable"), (0, .class_ 1), (0, u "java/lang/Object"), (0, .class_ 3)] 3

/-- java/io/Serializable -/
def k4 : Class := { plain "java/io/Serializable" (some 0) with
  accessFlags := 1537
  interfaces := #[]
  cf := some (fileOf pool4 2 #[] #[] 1537 4 #[] #[])
  fields := #[]
  methods := #[]
  instanceTypes := #[]
  staticTypes := #[]
  resolved := Array.replicate 8 none
  statics := none }

/-- the primitive byte -/
def k5 : Class := { plain "byte" none with kind := .primitive 'B', accessFlags := 0x411 }
/-- [B -/
def k6 : Class := { plain "[B" (some 0) with kind := .array 5 .byte, interfaces := #[3, 4], accessFlags := 1041 }

/-- the primitive int -/
def k7 : Class := { plain "int" none with kind := .primitive 'I', accessFlags := 0x411 }
/-- [I -/
def k8 : Class := { plain "[I" (some 0) with kind := .array 7 .int, interfaces := #[3, 4], accessFlags := 1041 }

def heap : Heap := #[]
def classes : Array Class := #[k0, k1, k2, k3, k4, k5, k6, k7, k8]
def interned : List (Array UInt16 × Addr) := []
def slotsUsed : Nat := 0
def theMethod : MethodId := ⟨1, 1⟩
def args0 : Array Value := #[.int 5, .int 6, .int 7]
def aboutOver (below : List Frame) : State where
  vm := { classes := classes, interned := interned.toArray }
  heap := heap
  slotsUsed := slotsUsed
  threads := #[{ frames := .invoking theMethod args0 :: below }]
def below0 : List Frame := [.native { method := ⟨0, 0⟩, args := #[] }]
def about1 : State := aboutOver below0
def p0 : Program := .bare "" "" ""
def e0 : Env := launch0.env 0 0 0
theorem w_frames : about1.frames = Frame.invoking theMethod args0 :: below0 := rfl
set_option maxRecDepth 65536 in
theorem w_args : argsFit about1.vm theMethod args0 = true := by decide +kernel
set_option maxRecDepth 65536 in
theorem w_heap : heapFits about1 = true := by decide +kernel
set_option maxRecDepth 65536 in
theorem w_runnable : about1.curStatus? = some .runnable := by decide +kernel
set_option maxRecDepth 65536 in
theorem w_alone : about1.alone = true := by decide +kernel
set_option maxRecDepth 65536 in
theorem w_named : about1.methodNamed? x = some theMethod := by decide +kernel
set_option maxRecDepth 65536 in
theorem w_hears : about1.hears theMethod below0 = true := by decide +kernel
set_option maxRecDepth 65536 in
theorem w_ripe : about1.ripe theMethod args0 below0 = true := by decide +kernel
theorem w_running : about1.status = .running := rfl
set_option maxRecDepth 65536 in
theorem w_room : about1.hasRoom e0.platform room_1 = true :=
  launch0.hasRoom_least _ room_1 (by decide +kernel) (by decide +kernel) (by decide +kernel) (by decide +kernel) (by decide +kernel) (by decide +kernel)
theorem allAtoms_all (ts : List Jvm.Cond) (a : Array Jvm.Value) (st : Jvm.State) : (allAtoms ts).before a st = ts.all (fun c => c.before a st) := by
  induction ts with
  | nil => rfl
  | cons c t ih =>
    show (Jvm.Cond.and c (allAtoms t)).before a st = _
    rw [Jvm.Cond.before_and, ih, List.all_cons]
def words1 : List Jvm.Cond := Jvm.Cond.code x code maxLocals ret :: tables_1
/-- a 'code' word, met by the world's own term for the bytes: nothing is compared byte by byte -/
theorem code_word {y : MethodName} {bytes : ByteArray} {mx : Nat} {rt : Option FieldType} {a : Array Value} {s : State} {m : MethodId} {meth : Method} {c : Code} (h1 : s.methodNamed? y = some m) (h2 : s.vm.method? m = some meth) (h3 : meth.code = some c) (h4 : c.code = bytes)
    (h5 : (c.maxLocals == mx && c.exceptionTable.isEmpty && decide (c.maxStack ≤ mostOperands) && decide (meth.sig.returnType = rt) && !meth.locks && decide (parseMethodDescriptor y.desc = some meth.sig)) = true) : (Jvm.Cond.code y bytes mx rt).before a s = true := by
  simp only [Bool.and_eq_true, beq_iff_eq, Bool.not_eq_true', decide_eq_true_eq] at h5
  obtain ⟨⟨⟨⟨⟨g1, g2⟩, g3⟩, g4⟩, g5⟩, g6⟩ := h5
  simp [Cond.before, Cond.holds, Cond.value, h1, h2, h3, h4, g1, g2, g3, g4, g5, g6]
def isCode : Jvm.Cond → Bool
  | .code _ _ _ _ => true
  | _ => false
theorem all_split {L : List Jvm.Cond} {P : Jvm.Cond → Bool} (h1 : L.all (fun c => isCode c || P c) = true) (h2 : ∀ c ∈ L.filter isCode, P c = true) : L.all P = true := by
  refine List.all_eq_true.mpr fun c hc => ?_
  have h := List.all_eq_true.mp h1 c hc
  rcases Bool.eq_false_or_eq_true (isCode c) with hi | hi
  · exact h2 c (List.mem_filter.mpr ⟨hc, hi⟩)
  · simpa [hi] using h
set_option maxRecDepth 65536 in
theorem w_c0 : (Jvm.Cond.code x code maxLocals ret).before args0 about1 = true := code_word (m := ⟨1, 1⟩) (meth := k1m1) (c := k1c1) (by decide +kernel) rfl rfl rfl (by decide +kernel)
set_option maxRecDepth 65536 in
theorem w_c1 : (Jvm.Cond.code ({ cls := "com/example/tallyfold/tallyfold/ScoreDistribution", name := "farBelow", desc := "(DD)Z" } : Jvm.MethodName) prog_11_method_7_code (4 : Nat) (Option.some Jvm.ClassFile.FieldType.boolean)).before args0 about1 = true := code_word (m := ⟨2, 0⟩) (meth := k2m0) (c := k2c0) (by decide +kernel) rfl rfl rfl (by decide +kernel)
def codes1 : List Jvm.Cond := [Jvm.Cond.code x code maxLocals ret, Jvm.Cond.code ({ cls := "com/example/tallyfold/tallyfold/ScoreDistribution", name := "farBelow", desc := "(DD)Z" } : Jvm.MethodName) prog_11_method_7_code (4 : Nat) (Option.some Jvm.ClassFile.FieldType.boolean)]
set_option maxRecDepth 65536 in
theorem codes_eq : words1.filter isCode = codes1 := rfl
theorem w_codes : ∀ c ∈ words1.filter isCode, c.before args0 about1 = true := by
  rw [codes_eq]
  intro c hc
  simp only [codes1, List.mem_cons, List.not_mem_nil, or_false] at hc
  rcases hc with rfl | rfl
  · exact w_c0
  · exact w_c1
set_option maxRecDepth 65536 in
theorem w_t1 : words1.all (fun c => isCode c || c.before args0 about1) = true := by decide +kernel
theorem w_tables : (allAtoms (Jvm.Cond.code x code maxLocals ret :: tables_1)).before args0 about1 = true := by
  rw [allAtoms_all]
  show words1.all (fun c => c.before args0 about1) = true
  refine all_split ?_ w_codes
  rw [w_t1]
set_option maxRecDepth 65536 in
theorem w_case : (Jvm.Cond.and given_1 narrow_1).before args0 about1 = true := by decide +kernel
theorem w_applies : (headSpec (Jvm.Cond.code x code maxLocals ret :: tables_1) room_1).applies x e0.platform about1 = true :=
  (Spec.applies_iff w_frames).mpr ⟨w_running, w_runnable, w_alone, w_named, w_hears, w_ripe, w_room, w_tables⟩
theorem atStart : AtStart classFile x code maxLocals ret World_1 tables_1 room_1 Calls_1 rest_1 Pre_1 launch0 p0 e0 about1 theMethod args0 below0 :=
  ⟨lists_1, trivial, launch0.admits_env _ _ _, launch0.least_env, fairChoices_fair.cas, fairChoices_fair.clock, w_frames, w_args, w_heap, w_applies, trivial, trivial, w_case⟩
end start1
theorem witness_1 : WitnessClaimed_1 := ⟨start1.p0, start1.e0, start1.about1, start1.theMethod, start1.args0, start1.below0, start1.atStart⟩
end Jvm.Pilot.@@N@@
