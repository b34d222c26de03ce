import JvmDerived
import JvmDerived.Pilot.@@N@@Statement
import JvmDerived.Pilot.@@N@@Code
set_option linter.unusedVariables false
set_option linter.unusedSimpArgs false
namespace Jvm.RoadKit
open Sem ClassFile Op Lib Jvm.Stand Jvm.Free Jvm.LawKit
section New
variable {p : Program} {l : Launch} {e : Env} {R : Room} {s : State} {m : MethodId} {args : Array Value} {below : List Frame} {meth : Method} {c : Code} {T : State} {locs : List Loc} {cells slots : Nat}
theorem retI (X : Stand p l e R s m args below meth c T locs cells slots) (hx : p.tables.exec = Jvm.exec) {pc : Nat} {Ls : Array Slot} {z : Int32} {rest : List Value} (hret : meth.sig.returnType = some .int) (hd : decode c.code pc = .ok (.ireturn, 1)) {fs : List Frame}
    (hl : ∀ (f : JFrame) (acts : List Action), f.method = m → f.locked = none → f.entered = [] → (doReturn e (T.setTop f) acts (some (.int z))).1 = T.setFrames fs) : Steps p.tables e below (T.setTop (mkF m pc Ls (.int z :: rest))) (T.setFrames fs) :=
  retOut X hx (t := .int) hret rfl (Or.inl ⟨rfl, Or.inl rfl, _, rfl⟩) hd hl
end New
end Jvm.RoadKit
namespace Jvm.Pilot.@@N@@
open Jvm Jvm.ClassFile Sem Op Lib Jvm.Free Jvm.Stand Jvm.LawKit Jvm.RoadKit Bundle Jvm.Pilot.@@N@@.Jvm.D
/-! own layer 0: a goal that is walked forward -/
def own_W (p : Program) (e : Env) (below : List Frame) (R : State → Outcome → Prop) (A : State) : Prop := ∃ s₂ o, Steps p.tables e below A s₂ ∧ R s₂ o
theorem own_go {p : Program} {e : Env} {below : List Frame} {R : State → Outcome → Prop} {A A' : State} (h : ∀ t, Steps p.tables e below A' t → Steps p.tables e below A t) (k : own_W p e below R A') : own_W p e below R A := by
  obtain ⟨s₂, o, st, r⟩ := k
  exact ⟨s₂, o, h _ st, r⟩
theorem own_any {Z : State} {h : Heap} {a : Addr} {C O O' n n' d d' : String} {w : Value} {a0 : Array Value} {k : Nat} (F : Fld Z h a O n d w) (E : Exa Z h a C) (wi : (Cond.instantiable C k).before a0 Z = true) (L : Laid Z a0 C O' n' d') : ∃ w', Fld Z h a O' n' d' w' := by
  obtain ⟨cell, cf, kf, i, f, h1, h2, h3, h4, h5, h6, h7⟩ := F
  obtain ⟨cell', k', e1, e2, e3, e4, e5⟩ := E
  cases h1.symm.trans e1
  obtain ⟨c, k2, cf', kf', i', f', a1, a2, a3, a4, a5, a6, -⟩ := L.spec
  cases e2.symm.trans a1
  cases e3.symm.trans a2
  obtain ⟨c3, k3, i1, i2, i3, -⟩ := Cond.instantiable_spec wi
  cases e2.symm.trans i1
  cases e3.symm.trans i2
  have hs := e5 i3
  have hlt : f'.slot < cell.slots.size := by rw [hs]; exact (Array.getElem?_eq_some_iff.mp a6).1
  exact ⟨_, cell, cf', kf', i', f', h1, a3, a4, h4, h5, a5, Array.getElem?_eq_getElem hlt⟩
theorem own_open {p : Program} {e : Env} {below : List Frame} {Q : State → Outcome → Prop} {A : State} (h : ∀ R : State → Outcome → Prop, (∀ s₂ o, Q s₂ o → R s₂ o) → own_W p e below R A) : ∃ s₂ o, Steps p.tables e below A s₂ ∧ Q s₂ o := h Q fun _ _ q => q
/-! own layer 1: doubles as whole numbers of 2^k units (value n * 2^(k - 1074)), over the library's zval -/
section OwnFP
open Jvm.FP Jvm.FP.Core Jvm.Free.Fl
/-- x is finite and worth v units of 2^-1074 -/
def own_Is (x : UInt64) (v : Int) : Prop := DFin x ∧ zval b64 (val64 x) = v
/-- some double is worth v -/
def own_Rep (v : Int) : Prop := ∃ d : Datum, Jvm.FP.Core.fits b64 d ∧ (∃ s c q, d = .fin s c q) ∧ zval b64 d = v
/-- x is finite and worth n units of 2^(k - 1074) -/
def own_At (k : Nat) (x : UInt64) (n : Int) : Prop := own_Is x (n * 2 ^ k)
theorem own_Is.rep {x : UInt64} {v : Int} (h : own_Is x v) : own_Rep v := ⟨val64 x, val64_fits x, h.1, h.2⟩
theorem own_Is.nn {x : UInt64} {v : Int} (h : own_Is x v) : NoNaN64 x := noNaN64_no.mpr h.1.notNaN
theorem own_At.nn {k : Nat} {x : UInt64} {n : Int} (h : own_At k x n) : NoNaN64 x := own_Is.nn h
theorem own_At.cast {k : Nat} {x : UInt64} {n n' : Int} (h : own_At k x n) (e : n = n') : own_At k x n' := e ▸ h
theorem own_zval_fin (s : Bool) (c : Nat) (q : Int) : zval b64 (.fin s c q) = signed s (inUnits c q b64.qmin) := rfl
theorem own_pos_pow (k : Nat) : (0 : Int) < 2 ^ k := Int.pow_pos (by decide)
theorem own_signed_abs (n : Int) : signed (decide (n < 0)) n.natAbs = n := by
  by_cases h : n < 0
  · simp only [h, decide_true, signed, if_true]; omega
  · simp only [h, decide_false, signed]; simp; omega
theorem own_rep_mk (n : Int) (k : Nat) (hn : n.natAbs < 2 ^ 53) (hk : k ≤ 2045) : own_Rep (n * 2 ^ k) := by
  have hq : b64.qmin = -1074 := qmin_b64
  have hm : b64.qmax = 971 := by decide
  obtain ⟨c', q', h1, h2⟩ := round_exact good_b64 (decide (n < 0)) (c := n.natAbs) (q := (k : Int) + b64.qmin) hn (by omega) (by omega)
  refine ⟨.fin (decide (n < 0)) c' q', ?_, ⟨_, _, _, rfl⟩, ?_⟩
  · rw [← h1]; exact round_fits good_b64 _
  · rw [own_zval_fin, h2]
    unfold inUnits
    rw [show ((k : Int) + b64.qmin - b64.qmin).toNat = k by omega, signed_mul, own_signed_abs]
    simp
theorem own_rep_top {v : Int} (h : own_Rep v) : -((b64.tails * 2 ^ (b64.exps - 2) : Nat) : Int) < v ∧ v < ((b64.tails * 2 ^ (b64.exps - 2) : Nat) : Int) := by
  obtain ⟨d, hf, ⟨s, c, q, rfl⟩, rfl⟩ := h
  have hz := zmag_lt_top good_b64 hf
  rw [own_zval_fin]
  generalize b64.tails * 2 ^ (b64.exps - 2) = top at hz ⊢
  generalize inUnits c q b64.qmin = z at hz ⊢
  cases s <;> simp only [signed] <;> simp <;> omega
theorem own_fin_of {x : UInt64} {lo hi : Int} (hx : val64 x ≠ .nan) (rl : own_Rep lo) (rh : own_Rep hi) (h1 : lo ≤ zval b64 (val64 x)) (h2 : zval b64 (val64 x) ≤ hi) : DFin x := by
  have t1 := own_rep_top rl
  have t2 := own_rep_top rh
  unfold DFin
  cases h : val64 x with
  | nan => exact absurd h hx
  | fin s c q => exact ⟨s, c, q, rfl⟩
  | inf s =>
    rw [h] at h1 h2
    have e : zval b64 (.inf s) = signed s (b64.tails * 2 ^ (b64.exps - 2)) := rfl
    rw [e] at h1 h2
    generalize b64.tails * 2 ^ (b64.exps - 2) = top at *
    exfalso
    cases s <;> simp only [signed] at h1 h2 <;> simp at h1 h2 <;> omega
theorem own_add {a b : UInt64} {v w lo hi : Int} (ha : own_Is a v) (hb : own_Is b w) (rl : own_Rep lo) (rh : own_Rep hi) (h1 : lo ≤ v + w) (h2 : v + w ≤ hi) :
    ∃ u, own_Is (FP.dadd a b) u ∧ lo ≤ u ∧ u ≤ hi := by
  have hn : val64 (Core.dadd a b) ≠ .nan := (notNaN_iff _).mp (dadd_out ha.1.notNaN hb.1)
  obtain ⟨dl, fl, ⟨sl, cl, ql, el⟩, zl⟩ := rl
  obtain ⟨dh, fh, ⟨sh, ch, qh, eh⟩, zh⟩ := rh
  have g1 := sum_ge good_b64 ha.1 hb.1 (val64_fits a) (val64_fits b) fl (by rw [el]; nofun) (by rw [ha.2, hb.2, zl]; exact h1)
  have g2 := sum_le good_b64 ha.1 hb.1 (val64_fits a) (val64_fits b) fh (by rw [eh]; nofun) (by rw [ha.2, hb.2, zh]; exact h2)
  rw [← val64_dadd, zl] at g1
  rw [← val64_dadd, zh] at g2
  exact ⟨_, ⟨own_fin_of hn ⟨dl, fl, ⟨sl, cl, ql, el⟩, zl⟩ ⟨dh, fh, ⟨sh, ch, qh, eh⟩, zh⟩ g1 g2, rfl⟩, g1, g2⟩
theorem own_cneg {b : UInt64} {w : Int} (hb : own_Is b w) : own_Is (Core.dneg b) (-w) := by
  obtain ⟨⟨s, c, q, e⟩, h⟩ := hb
  refine ⟨⟨!s, c, q, ?_⟩, ?_⟩
  · rw [Jvm.FP.Core.val64_dneg, e]; rfl
  · rw [Jvm.FP.Core.val64_dneg, zval_negate, h]
theorem own_sub {a b : UInt64} {v w lo hi : Int} (ha : own_Is a v) (hb : own_Is b w) (rl : own_Rep lo) (rh : own_Rep hi) (h1 : lo ≤ v - w) (h2 : v - w ≤ hi) :
    ∃ u, own_Is (FP.dsub a b) u ∧ lo ≤ u ∧ u ≤ hi := by
  have e : FP.dsub a b = FP.dadd a (Core.dneg b) := dsub_eq a b
  rw [e]
  exact own_add ha (own_cneg hb) rl rh (by omega) (by omega)
theorem own_mul {a b : UInt64} {v w lo hi : Int} (ha : own_Is a v) (hb : own_Is b w) (rl : own_Rep lo) (rh : own_Rep hi) (h1 : lo * 2 ^ 1074 ≤ v * w) (h2 : v * w ≤ hi * 2 ^ 1074) :
    ∃ u, own_Is (FP.dmul a b) u ∧ lo ≤ u ∧ u ≤ hi := by
  have hn : val64 (Core.dmul a b) ≠ .nan := (notNaN_iff _).mp (dmul_out ha.1 hb.1)
  obtain ⟨⟨s, c, q, ea⟩, za⟩ := ha
  obtain ⟨⟨t, d, r, eb⟩, zb⟩ := hb
  have fa := val64_fits a
  have fb := val64_fits b
  rw [ea] at fa za
  rw [eb] at fb zb
  obtain ⟨p1, p2, p3⟩ := product_units fa fb
  have ev : signed (s != t) (inUnits (c * d) (q + r) (2 * b64.qmin)) = v * w := by rw [p3, signed_xor, ← za, ← zb]; rfl
  have eq : (b64.qmin - 2 * b64.qmin).toNat = 1074 := by rw [qmin_b64]; rfl
  have hle : 2 * b64.qmin ≤ b64.qmin := by rw [qmin_b64]; decide
  have em : val64 (Core.dmul a b) = round b64 (.fin (s != t) (c * d) (q + r)) := by rw [val64_dmul, ea, eb, p1]
  obtain ⟨dl, fl, ⟨sl, cl, ql, el⟩, zl⟩ := rl
  obtain ⟨dh, fh, ⟨sh, ch, qh, eh⟩, zh⟩ := rh
  have g1 := zval_round_ge good_b64 (s := (s != t)) (c := c * d) (q := q + r) (e0 := 2 * b64.qmin) (V := dl) fl (by rw [el]; nofun) hle p2 (by rw [ev, eq, zl]; simpa using h1)
  have g2 := zval_round_le good_b64 (s := (s != t)) (c := c * d) (q := q + r) (e0 := 2 * b64.qmin) (V := dh) fh (by rw [eh]; nofun) hle p2 (by rw [ev, eq, zh]; simpa using h2)
  rw [← em, zl] at g1
  rw [← em, zh] at g2
  exact ⟨_, ⟨own_fin_of hn ⟨dl, fl, ⟨sl, cl, ql, el⟩, zl⟩ ⟨dh, fh, ⟨sh, ch, qh, eh⟩, zh⟩ g1 g2, rfl⟩, g1, g2⟩
theorem own_signed_nonneg {s : Bool} {z : Nat} {v : Int} (h : signed s z = v) (hv : 0 ≤ v) : (z : Int) = v := by
  cases s <;> simp only [signed] at h <;> simp at h <;> omega
theorem own_div_up (K : Nat) {c d q1 r1 z : Nat} {t f : Nat} (h : c * 2 ^ q1 * 2 ^ K ≤ z * (d * 2 ^ r1)) (e : t + r1 = q1 + K + f) : c * 2 ^ t ≤ z * 2 ^ f * d := by
  have hp : 0 < 2 ^ r1 := Nat.two_pow_pos r1
  refine Nat.le_of_mul_le_mul_right (c := 2 ^ r1) ?_ hp
  calc c * 2 ^ t * 2 ^ r1 = c * 2 ^ (t + r1) := by rw [Nat.pow_add]; ac_rfl
    _ = (c * 2 ^ q1 * 2 ^ K) * 2 ^ f := by rw [e, Nat.pow_add, Nat.pow_add]; ac_rfl
    _ ≤ (z * (d * 2 ^ r1)) * 2 ^ f := Nat.mul_le_mul_right _ h
    _ = z * 2 ^ f * d * 2 ^ r1 := by ac_rfl
theorem own_div_dn (K : Nat) {c d q1 r1 z : Nat} {t f : Nat} (h : z * (d * 2 ^ r1) ≤ c * 2 ^ q1 * 2 ^ K) (e : t + r1 = q1 + K + f) : z * 2 ^ f * d ≤ c * 2 ^ t := by
  have hp : 0 < 2 ^ r1 := Nat.two_pow_pos r1
  refine Nat.le_of_mul_le_mul_right (c := 2 ^ r1) ?_ hp
  calc z * 2 ^ f * d * 2 ^ r1 = (z * (d * 2 ^ r1)) * 2 ^ f := by ac_rfl
    _ ≤ (c * 2 ^ q1 * 2 ^ K) * 2 ^ f := Nat.mul_le_mul_right _ h
    _ = c * 2 ^ (t + r1) := by rw [e, Nat.pow_add, Nat.pow_add]; ac_rfl
    _ = c * 2 ^ t * 2 ^ r1 := by rw [Nat.pow_add]; ac_rfl
theorem own_ac2 (c A w B : Int) : c * A * (w * B) = (c * w) * (A * B) := by ac_rfl
/-- the quotient of two numbers at or above nought -/
theorem own_div0 {a b : UInt64} {v w lo hi : Int} (ha : own_Is a v) (hb : own_Is b w) (hv : 0 ≤ v) (hw : 0 < w) (rl : own_Rep lo) (rh : own_Rep hi) (h0 : 0 ≤ lo) (h1 : lo * w ≤ v * 2 ^ 1074) (h2 : v * 2 ^ 1074 ≤ hi * w) :
    ∃ u, own_Is (FP.ddiv a b) u ∧ lo ≤ u ∧ u ≤ hi := by
  have hq : b64.qmin = -1074 := qmin_b64
  obtain ⟨⟨s, c, q, ea⟩, za⟩ := ha
  obtain ⟨⟨t, d, r, eb⟩, zb⟩ := hb
  have fa := val64_fits a
  have fb := val64_fits b
  rw [ea] at fa za
  rw [eb] at fb zb
  rw [own_zval_fin] at za zb
  have ma := own_signed_nonneg za hv
  have mb := own_signed_nonneg zb (by omega)
  have hd : d ≠ 0 := by
    rintro rfl
    simp [inUnits] at mb; omega
  have hs : c = 0 ∨ (s != t) = false := by
    have ht : t = false := by
      cases t with
      | false => rfl
      | true => simp only [signed] at zb; simp at zb; omega
    cases hs : s with
    | false => right; rw [ht]; rfl
    | true =>
      left
      rw [hs] at za
      simp only [signed] at za; simp at za
      have : inUnits c q b64.qmin = 0 := by omega
      unfold inUnits at this
      have hp := Nat.two_pow_pos (q - b64.qmin).toNat
      rcases Nat.mul_eq_zero.mp this with h | h
      · exact h
      · omega
  have ev : val64 (Core.ddiv a b) = roundRatio b64 (s != t) c d (q - r) := by rw [val64_ddiv, ea, eb]; simp only [quotient, if_neg hd]
  have hn : val64 (Core.ddiv a b) ≠ .nan := by rw [ev]; exact roundRatio_ne_nan _ _ _ _ _
  obtain ⟨dl, fl, ⟨sl, cl, ql, el⟩, zl⟩ := rl
  obtain ⟨dh, fh, ⟨sh, ch, qh, eh⟩, zh⟩ := rh
  have hhi : 0 ≤ hi := by
    have : 0 ≤ hi * w := Int.le_trans (Int.mul_nonneg hv (Int.le_of_lt (own_pos_pow _))) h2
    exact Int.nonneg_of_mul_nonneg_left this hw
  have ml : (zmag b64 dl : Int) = lo := own_signed_nonneg zl h0
  have mh : (zmag b64 dh : Int) = hi := own_signed_nonneg zh hhi
  have e0 : ∃ e0 : Int, e0 ≤ b64.qmin ∧ e0 ≤ q - r := ⟨min b64.qmin (q - r), Int.min_le_left _ _, Int.min_le_right _ _⟩
  obtain ⟨e0, k1, k2⟩ := e0
  have fq := fa.2.1
  have fr := fb.2.1
  have ee : ((q - r) - e0).toNat + (r - b64.qmin).toNat = (q - b64.qmin).toNat + 1074 + (b64.qmin - e0).toNat := by omega
  have g1 : zmag b64 dl ≤ zmag b64 (roundRatio b64 (s != t) c d (q - r)) := by
    refine zmag_roundRatio_ge good_b64 (e0 := e0) (Nat.pos_of_ne_zero hd) fl k1 k2 ?_
    refine own_div_dn 1074 (q1 := (q - b64.qmin).toNat) (r1 := (r - b64.qmin).toNat) ?_ ee
    have h := h1
    rw [← ml, ← ma, ← mb] at h
    unfold inUnits at h
    exact_mod_cast h
  have g2 : zmag b64 (roundRatio b64 (s != t) c d (q - r)) ≤ zmag b64 dh := by
    refine zmag_roundRatio_le good_b64 (e0 := e0) (Nat.pos_of_ne_zero hd) fh (by rw [eh]; nofun) k1 k2 ?_
    refine own_div_up 1074 (q1 := (q - b64.qmin).toNat) (r1 := (r - b64.qmin).toNat) ?_ ee
    have h := h2
    rw [← mh, ← ma, ← mb] at h
    unfold inUnits at h
    exact_mod_cast h
  have gz : zval b64 (val64 (Core.ddiv a b)) = (zmag b64 (roundRatio b64 (s != t) c d (q - r)) : Int) := by
    rw [ev]
    unfold zval
    rw [sgn_roundRatio]
    rcases hs with rfl | hs
    · have : zmag b64 (roundRatio b64 (s != t) 0 d (q - r)) = 0 := by simp [roundRatio, zmag, inUnits]
      rw [this]; simp [signed]
    · rw [hs]; simp [signed]
  have f1 : lo ≤ zval b64 (val64 (Core.ddiv a b)) := by rw [gz, ← ml]; exact_mod_cast g1
  have f2 : zval b64 (val64 (Core.ddiv a b)) ≤ hi := by rw [gz, ← mh]; exact_mod_cast g2
  exact ⟨_, ⟨own_fin_of hn ⟨dl, fl, ⟨sl, cl, ql, el⟩, zl⟩ ⟨dh, fh, ⟨sh, ch, qh, eh⟩, zh⟩ f1 f2, rfl⟩, f1, f2⟩
/-- the quotient by a number above nought, where it comes out whole: v * 2^1074 = u * w -/
theorem own_div {a b : UInt64} {v w u : Int} (ha : own_Is a v) (hb : own_Is b w) (hw : 0 < w) (ru : own_Rep u) (h : u * w = v * 2 ^ 1074) : own_Is (FP.ddiv a b) u := by
  by_cases hv : 0 ≤ v
  · have hu : 0 ≤ u := by
      have : 0 ≤ u * w := by rw [h]; exact Int.mul_nonneg hv (Int.le_of_lt (own_pos_pow _))
      exact Int.nonneg_of_mul_nonneg_left this hw
    obtain ⟨z, hz, z1, z2⟩ := own_div0 ha hb hv hw ru ru hu (Int.le_of_eq h) (Int.le_of_eq h.symm)
    exact (Int.le_antisymm z2 z1) ▸ hz
  · have hneg : own_Rep (-u) := by
      obtain ⟨d, h1, ⟨s, c, q, rfl⟩, h3⟩ := ru
      exact ⟨.fin (!s) c q, h1, ⟨_, _, _, rfl⟩, by rw [← h3]; exact zval_negate b64 (.fin s c q)⟩
    have hp := own_pos_pow 1074
    have hu : 0 ≤ -u := by
      have : u * w < 0 := by rw [h]; exact Int.mul_neg_of_neg_of_pos (by omega) hp
      by_cases q : 0 ≤ -u
      · exact q
      · exact absurd (Int.mul_nonneg (show 0 ≤ u by omega) (Int.le_of_lt hw)) (by omega)
    have h' : -u * w = -v * 2 ^ 1074 := by rw [Int.neg_mul, Int.neg_mul, h]
    obtain ⟨z, hz, z1, z2⟩ := own_div0 (own_cneg ha) hb (by omega) hw hneg hneg hu (Int.le_of_eq h') (Int.le_of_eq h'.symm)
    have e : Core.ddiv (Core.dneg a) b = Core.dneg (Core.ddiv a b) := ddiv_dneg a b
    have nn : val64 (Core.ddiv a b) ≠ .nan := by
      have q := hz.1.ne_nan
      intro k
      apply q
      show val64 (Core.ddiv (Core.dneg a) b) = .nan
      rw [e, Jvm.FP.Core.val64_dneg, k]; rfl
    have hz2 : own_Is (Core.dneg (Core.ddiv (Core.dneg a) b)) (-z) := own_cneg hz
    rw [e, dneg_dneg nn] at hz2
    have : -z = u := by omega
    exact this ▸ hz2
theorem own_i2d (n : Int32) : own_At 1074 (FP.i2d n) n.toInt := by
  refine ⟨Core.i2d_fin n, ?_⟩
  rw [show FP.i2d n = Core.i2d n from rfl, DInt_zval (i2d_int n)]
  unfold one64; norm_cast
theorem own_l2d (n : Int64) (h : n.toInt.natAbs ≤ 2 ^ 53) : own_At 1074 (FP.l2d n) n.toInt := by
  refine ⟨Core.l2d_fin n, ?_⟩
  rw [show FP.l2d n = Core.l2d n from rfl, DInt_zval (l2d_int h)]
  unfold one64; norm_cast
theorem own_cmp {a b : UInt64} {v w : Int} (ha : own_Is a v) (hb : own_Is b w) : FP.dcmp a b = some (compare v w) := by
  rw [show FP.dcmp a b = Core.dcmp a b from rfl, dcmp_zval ha.1.ne_nan hb.1.ne_nan, ha.2, hb.2]
theorem own_cmpV {a b : UInt64} {v w : Int} (ha : own_Is a v) (hb : own_Is b w) (o : CmpOp) : cmpValue (FP.dcmp a b) o = if v < w then -1 else if v = w then 0 else 1 := by
  rw [own_cmp ha hb, compare_ite]
  by_cases h1 : v < w
  · simp only [h1, if_true]; rfl
  · by_cases h2 : v = w
    · simp only [h1, h2, if_true, if_false, Int.lt_irrefl]; rfl
    · simp only [h1, h2, if_false]; rfl
theorem own_cmpAt {k : Nat} {a b : UInt64} {v w : Int} (ha : own_At k a v) (hb : own_At k b w) (o : CmpOp) : cmpValue (FP.dcmp a b) o = if v < w then -1 else if v = w then 0 else 1 := by
  rw [own_cmpV ha hb o]
  have hp := own_pos_pow k
  have e1 : (v * 2 ^ k < w * 2 ^ k) ↔ v < w := ⟨fun h => Int.lt_of_mul_lt_mul_right h (Int.le_of_lt hp), fun h => Int.mul_lt_mul_of_pos_right h hp⟩
  have e2 : (v * 2 ^ k = w * 2 ^ k) ↔ v = w := ⟨fun h => Int.eq_of_mul_eq_mul_right (Int.ne_of_gt hp) h, fun h => by rw [h]⟩
  simp only [e1, e2]
theorem own_addAt {k : Nat} {a b : UInt64} {v w : Int} (ha : own_At k a v) (hb : own_At k b w) (hk : k ≤ 2045) (h : (v + w).natAbs < 2 ^ 53) : own_At k (FP.dadd a b) (v + w) := by
  have r := own_rep_mk (v + w) k h hk
  have e : (v + w) * 2 ^ k = v * 2 ^ k + w * 2 ^ k := Int.add_mul _ _ _
  obtain ⟨u, hu, u1, u2⟩ := own_add ha hb r r (Int.le_of_eq e) (Int.le_of_eq e.symm)
  have eu := Int.le_antisymm u2 u1
  rw [eu] at hu
  exact hu
theorem own_subAt {k : Nat} {a b : UInt64} {v w : Int} (ha : own_At k a v) (hb : own_At k b w) (hk : k ≤ 2045) (h : (v - w).natAbs < 2 ^ 53) : own_At k (FP.dsub a b) (v - w) := by
  have r := own_rep_mk (v - w) k h hk
  have e : (v - w) * 2 ^ k = v * 2 ^ k - w * 2 ^ k := Int.sub_mul _ _ _
  obtain ⟨u, hu, u1, u2⟩ := own_sub ha hb r r (Int.le_of_eq e) (Int.le_of_eq e.symm)
  have eu := Int.le_antisymm u2 u1
  rw [eu] at hu
  exact hu
theorem own_mulAt {k j i : Nat} {a b : UInt64} {v w : Int} (ha : own_At k a v) (hb : own_At j b w) (hi : i ≤ 2045) (hk : k + j = i + 1074) (h : (v * w).natAbs < 2 ^ 53) : own_At i (FP.dmul a b) (v * w) := by
  have r := own_rep_mk (v * w) i h hi
  have e : (v * w) * 2 ^ i * 2 ^ 1074 = (v * 2 ^ k) * (w * 2 ^ j) := by
    rw [own_ac2, Int.mul_assoc (v * w), ← Int.pow_add, ← Int.pow_add, hk]
  obtain ⟨u, hu, u1, u2⟩ := own_mul ha hb r r (Int.le_of_eq e) (Int.le_of_eq e.symm)
  have eu := Int.le_antisymm u2 u1
  rw [eu] at hu
  exact hu
theorem own_divAt {k j i : Nat} {a b : UInt64} {v w c : Int} (ha : own_At k a v) (hb : own_At j b w) (hw : 0 < w) (hi : i ≤ 2045) (hk : k + 1074 = i + j) (h : c.natAbs < 2 ^ 53) (hc : c * w = v) : own_At i (FP.ddiv a b) c := by
  refine own_div ha hb (Int.mul_pos hw (own_pos_pow _)) (own_rep_mk c i h hi) ?_
  rw [own_ac2, hc, Int.mul_assoc v, ← Int.pow_add, ← Int.pow_add, hk]
theorem own_up {k j i : Nat} {a : UInt64} {v : Int} (ha : own_At k a v) (hk : k = i + j) : own_At i a (v * 2 ^ j) := by
  unfold own_At at *
  rw [Int.mul_assoc, ← Int.pow_add, Nat.add_comm j i, ← hk]; exact ha
theorem own_down {k j i : Nat} {a : UInt64} {v : Int} (ha : own_At i a (v * 2 ^ j)) (hk : k = i + j) : own_At k a v := by
  unfold own_At at *
  rw [Int.mul_assoc, ← Int.pow_add, Nat.add_comm j i, ← hk] at ha; exact ha
theorem own_zero {k : Nat} : own_At k 0 0 := ⟨⟨false, 0, _, val64_zero⟩, by rw [zval64_zero]; simp⟩
theorem own_c_gt {a b : UInt64} {v w : Int} (ha : own_Is a v) (hb : own_Is b w) (o : CmpOp) : (0 : Int32) < cmpValue (FP.dcmp a b) o ↔ w < v := by
  rw [own_cmpV ha hb o]
  split
  · exact ⟨fun h => absurd h (by decide), fun h => by omega⟩
  · split
    · exact ⟨fun h => absurd h (by decide), fun h => by omega⟩
    · exact ⟨fun h => by omega, fun h => by decide⟩
theorem own_c_lt {a b : UInt64} {v w : Int} (ha : own_Is a v) (hb : own_Is b w) (o : CmpOp) : cmpValue (FP.dcmp a b) o < (0 : Int32) ↔ v < w := by
  rw [own_cmpV ha hb o]
  split
  · exact ⟨fun h => by omega, fun h => by decide⟩
  · split
    · exact ⟨fun h => absurd h (by decide), fun h => by omega⟩
    · exact ⟨fun h => absurd h (by decide), fun h => by omega⟩
theorem own_c_eq {a b : UInt64} {v w : Int} (ha : own_Is a v) (hb : own_Is b w) (o : CmpOp) : cmpValue (FP.dcmp a b) o = (0 : Int32) ↔ v = w := by
  rw [own_cmpV ha hb o]
  split
  · exact ⟨fun h => absurd h (by decide), fun h => by omega⟩
  · split
    · exact ⟨fun h => by omega, fun h => by decide⟩
    · exact ⟨fun h => absurd h (by decide), fun h => by omega⟩
theorem own_mul_lt {k : Nat} {v w : Int} : (v * 2 ^ k < w * 2 ^ k) ↔ v < w :=
  ⟨fun h => Int.lt_of_mul_lt_mul_right h (Int.le_of_lt (own_pos_pow k)), fun h => Int.mul_lt_mul_of_pos_right h (own_pos_pow k)⟩
theorem own_mul_eq {k : Nat} {v w : Int} : (v * 2 ^ k = w * 2 ^ k) ↔ v = w :=
  ⟨fun h => Int.eq_of_mul_eq_mul_right (Int.ne_of_gt (own_pos_pow k)) h, fun h => by rw [h]⟩
theorem own_ca_gt {k : Nat} {a b : UInt64} {v w : Int} (ha : own_At k a v) (hb : own_At k b w) (o : CmpOp) : (0 : Int32) < cmpValue (FP.dcmp a b) o ↔ w < v := (own_c_gt ha hb o).trans own_mul_lt
theorem own_ca_lt {k : Nat} {a b : UInt64} {v w : Int} (ha : own_At k a v) (hb : own_At k b w) (o : CmpOp) : cmpValue (FP.dcmp a b) o < (0 : Int32) ↔ v < w := (own_c_lt ha hb o).trans own_mul_lt
theorem own_ca_eq {k : Nat} {a b : UInt64} {v w : Int} (ha : own_At k a v) (hb : own_At k b w) (o : CmpOp) : cmpValue (FP.dcmp a b) o = (0 : Int32) ↔ v = w := (own_c_eq ha hb o).trans own_mul_eq
theorem own_neg {k : Nat} {x : UInt64} {n : Int} (h : own_At k x n) : own_At k (FP.dneg x) (-n) := by
  obtain ⟨⟨s, c, q, e⟩, hz⟩ := h
  have hv : val64 (FP.dneg x) = negate (val64 x) := Jvm.FP.val64_dneg x
  refine ⟨⟨!s, c, q, by rw [hv, e]; rfl⟩, ?_⟩
  rw [hv, zval_negate, hz, Int.neg_mul]
end OwnFP
/-! own layer 2: int and long comparisons -/
section OwnInt
theorem own_l_gt (x y : Int64) : (0 : Int32) < lcmpW x y ↔ y < x := by
  show (0 : Int32) < (if x > y then (1 : Int32) else if x = y then 0 else -1) ↔ y < x
  by_cases h1 : x > y
  · rw [if_pos h1]; exact ⟨fun _ => h1, fun _ => by decide⟩
  · rw [if_neg h1]
    by_cases h2 : x = y
    · rw [if_pos h2]; exact ⟨fun h => absurd h (by decide), fun h => absurd h h1⟩
    · rw [if_neg h2]; exact ⟨fun h => absurd h (by decide), fun h => absurd h h1⟩
theorem own_l_eq (x y : Int64) : lcmpW x y = (0 : Int32) ↔ x = y := by
  show (if x > y then (1 : Int32) else if x = y then 0 else -1) = 0 ↔ x = y
  by_cases h1 : x > y
  · have h3 := Int64.lt_iff_toInt_lt.mp h1
    rw [if_pos h1]; exact ⟨fun h => absurd h (by decide), fun h => by rw [h] at h3; omega⟩
  · rw [if_neg h1]
    by_cases h2 : x = y
    · rw [if_pos h2]; exact ⟨fun _ => h2, fun _ => rfl⟩
    · rw [if_neg h2]; exact ⟨fun h => absurd h (by decide), fun h => absurd h h2⟩
theorem own_l_lt (x y : Int64) : lcmpW x y < (0 : Int32) ↔ x < y := by
  show (if x > y then (1 : Int32) else if x = y then 0 else -1) < 0 ↔ x < y
  by_cases h1 : x > y
  · have h3 := Int64.lt_iff_toInt_lt.mp h1
    rw [if_pos h1]; exact ⟨fun h => absurd h (by decide), fun h => by have := Int64.lt_iff_toInt_lt.mp h; omega⟩
  · rw [if_neg h1]
    by_cases h2 : x = y
    · rw [if_pos h2]; exact ⟨fun h => absurd h (by decide), fun h => by rw [h2] at h; have := Int64.lt_iff_toInt_lt.mp h; omega⟩
    · rw [if_neg h2]
      have q1 : ¬ y.toInt < x.toInt := fun h => h1 (Int64.lt_iff_toInt_lt.mpr h)
      have q2 : x.toInt ≠ y.toInt := fun h => h2 (Int64.toInt_inj.mp h)
      exact ⟨fun _ => Int64.lt_iff_toInt_lt.mpr (by omega), fun _ => by decide⟩
theorem own_i2l (a : Int32) : a.toInt64.toInt = a.toInt := by simp
theorem own_i32_lo (a : Int32) : -2147483648 ≤ a.toInt := a.le_toInt
theorem own_i32_hi (a : Int32) : a.toInt < 2147483648 := by have := a.toInt_lt; omega
theorem own_mask (x m : Int32) (k : Nat) (hm : m.toBitVec.toNat = 2 ^ k - 1) (hk : k ≤ 31) : (x &&& m).toInt = ((x.toBitVec.toNat % 2 ^ k : Nat) : Int) := by
  have e : (x &&& m).toBitVec.toNat = x.toBitVec.toNat % 2 ^ k := by
    rw [Int32.toBitVec_and, BitVec.toNat_and, hm]; exact Nat.and_two_pow_sub_one_eq_mod _ k
  have hlt : x.toBitVec.toNat % 2 ^ k < 2 ^ 31 := Nat.lt_of_lt_of_le (Nat.mod_lt _ (Nat.two_pow_pos k)) (Nat.pow_le_pow_right (by decide) hk)
  show (x &&& m).toBitVec.toInt = _
  rw [BitVec.toInt_eq_toNat_of_lt (by rw [e]; omega), e]
theorem own_mask_bd (x m : Int32) (k : Nat) (hm : m.toBitVec.toNat = 2 ^ k - 1) (hk : k ≤ 31) : 0 ≤ (x &&& m).toInt ∧ (x &&& m).toInt < ((2 ^ k : Nat) : Int) := by
  rw [own_mask x m k hm hk]
  have := Nat.mod_lt x.toBitVec.toNat (Nat.two_pow_pos k)
  omega
end OwnInt

section OwnQ
open Jvm.FP Jvm.FP.Core Jvm.Free.Fl
def own_qv (off s : Int) : Int := if s = 0 then 2147483647 else off / s
theorem own_castpow (k : Nat) : ((2 ^ k : Nat) : Int) = 2 ^ k := by norm_cast
theorem own_truncP {x : UInt64} {u q P : Int} (ho : (one64 : Int) = P) (hp : 0 < P) (hu : own_Is x u) (h1 : q * P ≤ u) (h2 : u < (q + 1) * P) (h3 : 0 ≤ q) (h4 : q ≤ 2147483647) : (FP.d2i x).toInt = q := by
  obtain ⟨hf, hz⟩ := hu
  have e := d2i_val hf.ne_nan
  have hu0 : 0 ≤ u := Int.le_trans (Int.mul_nonneg h3 (Int.le_of_lt hp)) h1
  have hm := own_signed_nonneg hz hu0
  have hd : ((zmag b64 (val64 x) / one64 : Nat) : Int) = q := by
    rw [Int.natCast_ediv, hm, ho]
    apply Int.le_antisymm
    · have := Int.ediv_lt_of_lt_mul hp h2
      omega
    · exact (Int.le_ediv_iff_mul_le hp).mpr h1
  have hs : signed (sgn (val64 x)) (zmag b64 (val64 x) / one64) = q := by
    cases hb : sgn (val64 x) with
    | false => simp only [signed]; simpa using hd
    | true =>
      have hz' : signed (sgn (val64 x)) (zmag b64 (val64 x)) = u := hz
      rw [hb] at hz'
      simp only [signed] at hz'
      simp at hz'
      have : zmag b64 (val64 x) = 0 := by omega
      rw [this, Nat.zero_div] at hd ⊢
      simp [signed]; omega
  show (Core.d2i x).toInt = q
  rw [e, hs]
  omega
theorem own_qlo {q s off P : Int} (hP : 0 ≤ P) (h : s * q ≤ off) : q * P * (s * P) ≤ off * P * P := by
  have e : q * P * (s * P) = (s * q) * (P * P) := by ac_rfl
  rw [e, Int.mul_assoc off]
  exact Int.mul_le_mul_of_nonneg_right h (Int.mul_nonneg hP hP)
theorem own_qhi {q s off P R : Int} (hP : 0 ≤ P) (hR : 0 ≤ R) (e : P = 65536 * R) (h : off * 65536 ≤ ((q + 1) * 65536 - 1) * s) : off * P * P ≤ ((q + 1) * 65536 - 1) * R * (s * P) := by
  have e1 : off * P * P = (off * 65536) * (R * P) := by
    conv => lhs; rw [Int.mul_assoc off, show P * P = (65536 * R) * P by rw [← e]]
    ac_rfl
  have e2 : ((q + 1) * 65536 - 1) * R * (s * P) = (((q + 1) * 65536 - 1) * s) * (R * P) := by ac_rfl
  rw [e1, e2]
  exact Int.mul_le_mul_of_nonneg_right h (Int.mul_nonneg hR hP)
theorem own_qlt {q u P R : Int} (hR : 0 < R) (e : P = 65536 * R) (h : u ≤ ((q + 1) * 65536 - 1) * R) : u < (q + 1) * P := by
  have e4 : (q + 1) * (65536 * R) = ((q + 1) * 65536) * R := by rw [Int.mul_assoc]
  rw [e, e4]
  exact Int.lt_of_le_of_lt h (Int.mul_lt_mul_of_pos_right (by omega) hR)
theorem own_quot {x y : UInt64} {off s : Int} (hx : own_At 1074 x off) (hy : own_At 1074 y s) (h0 : 0 < off) (h1 : off < 2147483648) (s0 : 0 < s) (s1 : s ≤ 65535) : NoNaN64 (FP.ddiv x y) ∧ (FP.d2i (FP.ddiv x y)).toInt = off / s := by
  obtain ⟨q, hq⟩ : ∃ q, q = off / s := ⟨_, rfl⟩
  have hm1 : s * q ≤ off := by rw [hq]; exact Int.mul_ediv_self_le (by omega)
  have hm2 : off < s * q + s := by rw [hq]; exact Int.lt_mul_ediv_self_add s0
  have q0 : 0 ≤ q := by rw [hq]; exact Int.ediv_nonneg (by omega) (by omega)
  have q1 : q ≤ off := by rw [hq]; exact Int.ediv_le_self _ (by omega)
  have r1 := own_rep_mk q 1074 (by omega) (by decide)
  have r2 := own_rep_mk ((q + 1) * 65536 - 1) 1058 (by omega) (by decide)
  have hp := own_pos_pow 1058
  have e74 : (2 : Int) ^ 1074 = 65536 * 2 ^ 1058 := by rw [show 1074 = 16 + 1058 from rfl, Int.pow_add, show (2 : Int) ^ 16 = 65536 by decide]
  have hx' : own_Is x (off * 2 ^ 1074) := hx
  have hy' : own_Is y (s * 2 ^ 1074) := hy
  have hP := own_pos_pow 1074
  have ho := own_castpow 1074
  have e3 : ((q + 1) * 65536 - 1) * s = (s * q + s) * 65536 - s := by rw [Int.sub_mul, Int.one_mul, Int.mul_right_comm, Int.add_mul, Int.one_mul, Int.mul_comm q s]
  have hb : off * 65536 ≤ ((q + 1) * 65536 - 1) * s := by rw [e3]; omega
  have hd := fun (k1 : q * 2 ^ 1074 * (s * 2 ^ 1074) ≤ off * 2 ^ 1074 * 2 ^ 1074) (k2 : off * 2 ^ 1074 * 2 ^ 1074 ≤ ((q + 1) * 65536 - 1) * 2 ^ 1058 * (s * 2 ^ 1074)) => own_div0 hx' hy' (Int.mul_nonneg (Int.le_of_lt h0) (Int.le_of_lt hP)) (Int.mul_pos s0 hP) r1 r2 (Int.mul_nonneg q0 (Int.le_of_lt hP)) k1 k2
  obtain ⟨u, hu, u1, u2⟩ := hd (own_qlo (Int.le_of_lt hP) hm1) (own_qhi (Int.le_of_lt hP) (Int.le_of_lt hp) e74 hb)
  refine ⟨hu.nn, ?_⟩
  rw [← hq]
  exact own_truncP ho hP hu u1 (own_qlt hp e74 u2) q0 (by omega)
theorem own_quot0 {x : UInt64} {off : Int} (hx : own_At 1074 x off) (h0 : 0 < off) : NoNaN64 (FP.ddiv x 0) ∧ (FP.d2i (FP.ddiv x 0)).toInt = 2147483647 := by
  obtain ⟨⟨s, c, q, hv⟩, hz⟩ := hx
  rw [hv, own_zval_fin] at hz
  have hpos : 0 < off * 2 ^ 1074 := Int.mul_pos h0 (own_pos_pow _)
  have hs : s = false := by
    cases s with
    | false => rfl
    | true => simp only [signed] at hz; simp at hz; omega
  have hc : c ≠ 0 := by
    rintro rfl
    simp [inUnits, signed] at hz; omega
  have ev : val64 (Core.ddiv x 0) = .inf false := by rw [val64_ddiv, hv, val64_zero, hs]; simp [quotient, hc]
  refine ⟨noNaN64_no.mpr ((notNaN_iff _).mpr (by rw [show FP.ddiv x 0 = Core.ddiv x 0 from rfl, ev]; nofun)), ?_⟩
  show (toI (val64 (Core.ddiv x 0))).toInt = _
  rw [ev]; decide
theorem own_quotA {x y : UInt64} {off s : Int} (hx : own_At 1074 x off) (hy : own_At 1074 y s) (hz : s = 0 → y = 0) (h0 : 0 < off) (h1 : off < 2147483648) (s0 : 0 ≤ s) (s1 : s ≤ 65535) : NoNaN64 (FP.ddiv x y) ∧ (FP.d2i (FP.ddiv x y)).toInt = own_qv off s := by
  unfold own_qv
  by_cases q : s = 0
  · rw [hz q, if_pos q]; exact own_quot0 hx h0
  · rw [if_neg q]; exact own_quot hx hy h0 h1 (by omega) s1
def own_idxV (cnt : Int32) (off s : Int) : Int32 := if off ≤ 0 then 0 else if s = 0 then cnt - 1 else if off / s < cnt.toInt then Int32.ofInt (off / s) else cnt - 1
theorem own_idx_take {cnt r : Int32} {off s : Int} (h0 : 0 < off) (hr : r.toInt = own_qv off s) (hc : cnt.toInt ≤ 256) (hlt : r < cnt) : own_idxV cnt off s = r := by
  have hl := Int32.lt_iff_toInt_lt.mp hlt
  unfold own_idxV own_qv at *
  rw [if_neg (by omega)]
  by_cases q : s = 0
  · rw [if_pos q] at hr; omega
  · rw [if_neg q] at hr ⊢
    rw [if_pos (by omega), ← hr, Int32.ofInt_toInt]
theorem own_idx_top {cnt r : Int32} {off s : Int} (h0 : 0 < off) (hr : r.toInt = own_qv off s) (hlt : ¬ r < cnt) : own_idxV cnt off s = cnt - 1 := by
  have hl : ¬ r.toInt < cnt.toInt := fun q => hlt (Int32.lt_iff_toInt_lt.mpr q)
  unfold own_idxV own_qv at *
  rw [if_neg (by omega)]
  by_cases q : s = 0
  · rw [if_pos q]
  · rw [if_neg q] at hr ⊢
    rw [if_neg (by omega)]
theorem own_step0 {x : UInt64} {n : Int} (h : own_At 1074 x n) : FP.dsub x x = 0 := by
  obtain ⟨⟨s, c, q, hv⟩, -⟩ := h
  exact dsub_self hv
theorem own_ldiv {a b : Int64} (h0 : 0 < a.toInt) (h1 : 0 < b.toInt) (h2 : a.toInt < 2147483648) : (a / b).toInt = a.toInt / b.toInt ∧ ((a / b).toInt32).toInt = a.toInt / b.toInt := by
  have e0 : (a / b).toInt = a.toInt / b.toInt := by
    have q0 : 0 ≤ a.toInt / b.toInt := Int.ediv_nonneg (by omega) (by omega)
    have q1 : a.toInt / b.toInt ≤ a.toInt := Int.ediv_le_self _ (by omega)
    rw [Int64.toInt_div, Int.tdiv_eq_ediv_of_nonneg (by omega), Int.bmod_eq_of_le (by omega) (by omega)]
  refine ⟨e0, ?_⟩
  have q0 : 0 ≤ a.toInt / b.toInt := Int.ediv_nonneg (by omega) (by omega)
  have q1 : a.toInt / b.toInt ≤ a.toInt := Int.ediv_le_self _ (by omega)
  rw [int64_toInt32 (by omega) (by omega), e0]
theorem own_mul64 {a b : Int64} {x y : Int} (ha : a.toInt = x) (hb : b.toInt = y) (h1 : -9223372036854775808 ≤ x * y) (h2 : x * y < 9223372036854775808) : (a * b).toInt = x * y := by
  rw [int64_mul (by rw [ha, hb]; omega) (by rw [ha, hb]; omega), ha, hb]
theorem own_add64 {a b : Int64} {x y : Int} (ha : a.toInt = x) (hb : b.toInt = y) (h1 : -9223372036854775808 ≤ x + y) (h2 : x + y < 9223372036854775808) : (a + b).toInt = x + y := by
  rw [int64_add (by rw [ha, hb]; omega) (by rw [ha, hb]; omega), ha, hb]
theorem own_mulbd {c x B : Int} (h1 : 1 ≤ c) (h2 : c ≤ 256) (b1 : -B ≤ x) (b2 : x ≤ B) (hB : 0 ≤ B) : -(256 * B) ≤ c * x ∧ c * x ≤ 256 * B := by
  constructor
  · have g1 : c * (-B) ≤ c * x := Int.mul_le_mul_of_nonneg_left b1 (by omega)
    have g2 : c * B ≤ 256 * B := Int.mul_le_mul_of_nonneg_right h2 hB
    rw [Int.mul_neg] at g1; omega
  · have g1 : c * x ≤ c * B := Int.mul_le_mul_of_nonneg_left b2 (by omega)
    have g2 : c * B ≤ 256 * B := Int.mul_le_mul_of_nonneg_right h2 hB
    omega
theorem own_lrem {a b : Int64} (h0 : 0 ≤ a.toInt) (h1 : 0 < b.toInt) (h2 : a.toInt < 2147483648) : 0 ≤ (a - a / b * b).toInt ∧ (a - a / b * b).toInt < 2147483648 := by
  have q0 : 0 ≤ a.toInt / b.toInt := Int.ediv_nonneg (by omega) (by omega)
  have q1 : a.toInt / b.toInt ≤ a.toInt := Int.ediv_le_self _ (by omega)
  have e0 : (a / b).toInt = a.toInt / b.toInt := by
    rw [Int64.toInt_div, Int.tdiv_eq_ediv_of_nonneg (by omega), Int.bmod_eq_of_le (by omega) (by omega)]
  have m1 : b.toInt * (a.toInt / b.toInt) ≤ a.toInt := Int.mul_ediv_self_le (by omega)
  have m0 : 0 ≤ b.toInt * (a.toInt / b.toInt) := Int.mul_nonneg (by omega) q0
  rw [Int.mul_comm] at m1 m0
  have e1 : (a / b * b).toInt = a.toInt / b.toInt * b.toInt := by rw [int64_mul (by rw [e0]; omega) (by rw [e0]; omega), e0]
  rw [int64_sub (by rw [e1]; omega) (by rw [e1]; omega), e1]
  omega
end OwnQ
theorem own_d1_0 : decode prog_13_method_1_code 0 = .ok (.aload_n 0, 1) := by decide +kernel
theorem own_d1_1 : decode prog_13_method_1_code 1 = .ok (.invokespecial 1, 3) := by decide +kernel
theorem own_d1_4 : decode prog_13_method_1_code 4 = .ok (.iload_n 1, 1) := by decide +kernel
theorem own_d1_5 : decode prog_13_method_1_code 5 = .ok (.iconst 1, 1) := by decide +kernel
theorem own_d1_6 : decode prog_13_method_1_code 6 = .ok (.if_icmp .ge 17, 3) := by decide +kernel
theorem own_d1_23 : decode prog_13_method_1_code 23 = .ok (.aload_n 0, 1) := by decide +kernel
theorem own_d1_24 : decode prog_13_method_1_code 24 = .ok (.iload_n 1, 1) := by decide +kernel
theorem own_d1_25 : decode prog_13_method_1_code 25 = .ok (.putfield 16, 3) := by decide +kernel
theorem own_d1_28 : decode prog_13_method_1_code 28 = .ok (.aload_n 0, 1) := by decide +kernel
theorem own_d1_29 : decode prog_13_method_1_code 29 = .ok (.dload_n 2, 1) := by decide +kernel
theorem own_d1_30 : decode prog_13_method_1_code 30 = .ok (.putfield 22, 3) := by decide +kernel
theorem own_d1_33 : decode prog_13_method_1_code 33 = .ok (.aload_n 0, 1) := by decide +kernel
theorem own_d1_34 : decode prog_13_method_1_code 34 = .ok (.dload 4, 2) := by decide +kernel
theorem own_d1_36 : decode prog_13_method_1_code 36 = .ok (.iload_n 1, 1) := by decide +kernel
theorem own_d1_37 : decode prog_13_method_1_code 37 = .ok (.i2d, 1) := by decide +kernel
theorem own_d1_38 : decode prog_13_method_1_code 38 = .ok (.ddiv, 1) := by decide +kernel
theorem own_d1_39 : decode prog_13_method_1_code 39 = .ok (.dload_n 2, 1) := by decide +kernel
theorem own_d1_40 : decode prog_13_method_1_code 40 = .ok (.iload_n 1, 1) := by decide +kernel
theorem own_d1_41 : decode prog_13_method_1_code 41 = .ok (.i2d, 1) := by decide +kernel
theorem own_d1_42 : decode prog_13_method_1_code 42 = .ok (.ddiv, 1) := by decide +kernel
theorem own_d1_43 : decode prog_13_method_1_code 43 = .ok (.dsub, 1) := by decide +kernel
theorem own_d1_44 : decode prog_13_method_1_code 44 = .ok (.putfield 26, 3) := by decide +kernel
theorem own_d1_47 : decode prog_13_method_1_code 47 = .ok (.return_, 1) := by decide +kernel
theorem own_d3_0 : decode prog_13_method_3_code 0 = .ok (.dload_n 1, 1) := by decide +kernel
theorem own_d3_1 : decode prog_13_method_3_code 1 = .ok (.aload_n 0, 1) := by decide +kernel
theorem own_d3_2 : decode prog_13_method_3_code 2 = .ok (.getfield 22, 3) := by decide +kernel
theorem own_d3_5 : decode prog_13_method_3_code 5 = .ok (.dcmp .g, 1) := by decide +kernel
theorem own_d3_6 : decode prog_13_method_3_code 6 = .ok (.ifCond .gt 5, 3) := by decide +kernel
theorem own_d3_9 : decode prog_13_method_3_code 9 = .ok (.iconst 0, 1) := by decide +kernel
theorem own_d3_10 : decode prog_13_method_3_code 10 = .ok (.ireturn, 1) := by decide +kernel
theorem own_d3_11 : decode prog_13_method_3_code 11 = .ok (.dload_n 1, 1) := by decide +kernel
theorem own_d3_12 : decode prog_13_method_3_code 12 = .ok (.aload_n 0, 1) := by decide +kernel
theorem own_d3_13 : decode prog_13_method_3_code 13 = .ok (.getfield 22, 3) := by decide +kernel
theorem own_d3_16 : decode prog_13_method_3_code 16 = .ok (.dsub, 1) := by decide +kernel
theorem own_d3_17 : decode prog_13_method_3_code 17 = .ok (.aload_n 0, 1) := by decide +kernel
theorem own_d3_18 : decode prog_13_method_3_code 18 = .ok (.getfield 26, 3) := by decide +kernel
theorem own_d3_21 : decode prog_13_method_3_code 21 = .ok (.ddiv, 1) := by decide +kernel
theorem own_d3_22 : decode prog_13_method_3_code 22 = .ok (.d2i, 1) := by decide +kernel
theorem own_d3_23 : decode prog_13_method_3_code 23 = .ok (.istore_n 3, 1) := by decide +kernel
theorem own_d3_24 : decode prog_13_method_3_code 24 = .ok (.iload_n 3, 1) := by decide +kernel
theorem own_d3_25 : decode prog_13_method_3_code 25 = .ok (.aload_n 0, 1) := by decide +kernel
theorem own_d3_26 : decode prog_13_method_3_code 26 = .ok (.getfield 16, 3) := by decide +kernel
theorem own_d3_29 : decode prog_13_method_3_code 29 = .ok (.if_icmp .ge 7, 3) := by decide +kernel
theorem own_d3_32 : decode prog_13_method_3_code 32 = .ok (.iload_n 3, 1) := by decide +kernel
theorem own_d3_33 : decode prog_13_method_3_code 33 = .ok (.goto 9, 3) := by decide +kernel
theorem own_d3_36 : decode prog_13_method_3_code 36 = .ok (.aload_n 0, 1) := by decide +kernel
theorem own_d3_37 : decode prog_13_method_3_code 37 = .ok (.getfield 16, 3) := by decide +kernel
theorem own_d3_40 : decode prog_13_method_3_code 40 = .ok (.iconst 1, 1) := by decide +kernel
theorem own_d3_41 : decode prog_13_method_3_code 41 = .ok (.isub, 1) := by decide +kernel
theorem own_d3_42 : decode prog_13_method_3_code 42 = .ok (.ireturn, 1) := by decide +kernel
theorem own_d4_0 : decode method_3_code 0 = .ok (.lload_n 3, 1) := by decide +kernel
theorem own_d4_1 : decode method_3_code 1 = .ok (.lconst 0, 1) := by decide +kernel
theorem own_d4_2 : decode method_3_code 2 = .ok (.lcmp, 1) := by decide +kernel
theorem own_d4_3 : decode method_3_code 3 = .ok (.ifCond .gt 5, 3) := by decide +kernel
theorem own_d4_6 : decode method_3_code 6 = .ok (.iconst 0, 1) := by decide +kernel
theorem own_d4_7 : decode method_3_code 7 = .ok (.ireturn, 1) := by decide +kernel
theorem own_d4_8 : decode method_3_code 8 = .ok (.lload_n 1, 1) := by decide +kernel
theorem own_d4_9 : decode method_3_code 9 = .ok (.lconst 0, 1) := by decide +kernel
theorem own_d4_10 : decode method_3_code 10 = .ok (.lcmp, 1) := by decide +kernel
theorem own_d4_11 : decode method_3_code 11 = .ok (.ifCond .ne 7, 3) := by decide +kernel
theorem own_d4_14 : decode method_3_code 14 = .ok (.iload_n 0, 1) := by decide +kernel
theorem own_d4_15 : decode method_3_code 15 = .ok (.iconst 1, 1) := by decide +kernel
theorem own_d4_16 : decode method_3_code 16 = .ok (.isub, 1) := by decide +kernel
theorem own_d4_17 : decode method_3_code 17 = .ok (.ireturn, 1) := by decide +kernel
theorem own_d4_18 : decode method_3_code 18 = .ok (.lload_n 3, 1) := by decide +kernel
theorem own_d4_19 : decode method_3_code 19 = .ok (.lload_n 1, 1) := by decide +kernel
theorem own_d4_20 : decode method_3_code 20 = .ok (.ldiv, 1) := by decide +kernel
theorem own_d4_21 : decode method_3_code 21 = .ok (.lstore 5, 2) := by decide +kernel
theorem own_d4_23 : decode method_3_code 23 = .ok (.lload 5, 2) := by decide +kernel
theorem own_d4_25 : decode method_3_code 25 = .ok (.iload_n 0, 1) := by decide +kernel
theorem own_d4_26 : decode method_3_code 26 = .ok (.i2l, 1) := by decide +kernel
theorem own_d4_27 : decode method_3_code 27 = .ok (.lcmp, 1) := by decide +kernel
theorem own_d4_28 : decode method_3_code 28 = .ok (.ifCond .ge 7, 3) := by decide +kernel
theorem own_d4_31 : decode method_3_code 31 = .ok (.lload 5, 2) := by decide +kernel
theorem own_d4_33 : decode method_3_code 33 = .ok (.l2i, 1) := by decide +kernel
theorem own_d4_34 : decode method_3_code 34 = .ok (.ireturn, 1) := by decide +kernel
theorem own_d4_35 : decode method_3_code 35 = .ok (.iload_n 0, 1) := by decide +kernel
theorem own_d4_36 : decode method_3_code 36 = .ok (.iconst 1, 1) := by decide +kernel
theorem own_d4_37 : decode method_3_code 37 = .ok (.isub, 1) := by decide +kernel
theorem own_d4_38 : decode method_3_code 38 = .ok (.ireturn, 1) := by decide +kernel
theorem own_pd0 : parseMethodDescriptor "(IDD)V" = some ⟨[.int, .double, .double], none⟩ := by decide +kernel
theorem own_pd1 : parseMethodDescriptor "(D)I" = some ⟨[.double], some .int⟩ := by decide +kernel
theorem own_pd2 : parseMethodDescriptor "(IJJ)I" = some ⟨[.int, .long, .long], some .int⟩ := by decide +kernel
theorem own_pn0 : plainName "com/example/tilesweep/tilesweep/EqualIntervalsIndexPinLaw" = true := by first | (simp [plainName, overriddenIn]; done) | decide +kernel
theorem own_pn1 : plainName "com/example/tilesweep/tilesweep/EqualIntervals" = true := by first | (simp [plainName, overriddenIn]; done) | decide +kernel
theorem own_pn3 : plainName "com/example/tilesweep/tilesweep/EqualIntervals" = true := by first | (simp [plainName, overriddenIn]; done) | decide +kernel
theorem own_pn4 : plainName "com/example/tilesweep/tilesweep/EqualIntervalsIndexPinLaw" = true := by first | (simp [plainName, overriddenIn]; done) | decide +kernel
theorem own_ef_own_init (m : MethodId) (a0_ : Addr) (p1 : Int32) (d2 : UInt64) (d3 : UInt64) : entryFrame m #[(.ref a0_), (.int p1), (.double d2), (.double d3)] 6 = mkF m 0 #[.val (.ref a0_), .val (.int p1), .val (.double d2), .second, .val (.double d3), .second] [] := by first | (simp [entryFrame, mkF, argsToLocals, Value.category]; done) | rfl
def own_Q_own_init (Z : State) (a0_ : Addr) (p1 : Int32) (d2 : UInt64) (d3 : UInt64) (st : UInt64) (u0 : Value) (h0 : Heap) (n0 : Nat) (v : Option Value) (h : Heap) (L : List Loc) : Prop := v = none ∧ Fr n0 L ∧ Keep h0 h [a0_] ∧ Exa Z h a0_ "com/example/tilesweep/tilesweep/EqualIntervals" ∧ Fld Z h a0_ "com/example/tilesweep/tilesweep/EqualIntervals" "count" "I" (.int p1) ∧ Fld Z h a0_ "com/example/tilesweep/tilesweep/EqualIntervals" "low" "D" (.double d2) ∧ Fld Z h a0_ "com/example/tilesweep/tilesweep/EqualIntervals" "step" "D" (.double st)
set_option maxRecDepth 65536 in
set_option maxHeartbeats 40000000 in
theorem own_init (l : Launch) (Z : State) (a0 : Array Value) (hw : ∀ d ∈ tables_1, d.before a0 Z = true) (ws : List Jvm.Cond) (a0_ : Addr) (p1 : Int32) (d2 : UInt64) (d3 : UInt64) (st : UInt64) (u0 : Value) (h0 : Heap) (n0 : Nat) (Z0 : n0 ≤ h0.size) (hp1 : ¬ p1 < (1 : Int32)) (n1 : Jvm.Free.Fl.NoNaN64 (FP.ddiv d3 (FP.i2d p1))) (n2 : Jvm.Free.Fl.NoNaN64 (FP.ddiv d2 (FP.i2d p1))) (n3 : Jvm.Free.Fl.NoNaN64 (FP.dsub (FP.ddiv d3 (FP.i2d p1)) (FP.ddiv d2 (FP.i2d p1)))) (hst : FP.dsub (FP.ddiv d3 (FP.i2d p1)) (FP.ddiv d2 (FP.i2d p1)) = st) (E_a : Exa Z h0 a0_ "com/example/tilesweep/tilesweep/EqualIntervals") (F_a : Fld Z h0 a0_ "com/example/tilesweep/tilesweep/EqualIntervals" "count" "I" u0) (g_a : n0 ≤ a0_) :
    MetFree l (⟨"com/example/tilesweep/tilesweep/EqualIntervals", "<init>", "(IDD)V"⟩ : MethodName) (head1 (Jvm.Cond.code (⟨"com/example/tilesweep/tilesweep/EqualIntervals", "<init>", "(IDD)V"⟩ : MethodName) prog_13_method_1_code 6 none :: ws) ({ frames := 1, cells := 0, slots := 0, locals := 12 } : Room)) (fun a U => a = #[(.ref a0_), (.int p1), (.double d2), (.double d3)] ∧ Z.Warmed39 U.vm ∧ U.heap = h0) (fun _ _ _ _ _ => True) (fun _ U o U' => ∃ v L, o = .returned v ∧ own_Q_own_init Z a0_ p1 d2 d3 st u0 h0 n0 v U'.heap L ∧ FrameEnd U o U' L ({ frames := 1, cells := 0, slots := 0, locals := 12 } : Room).cells ({ frames := 1, cells := 0, slots := 0, locals := 12 } : Room).slots) := by
  refine MetFree.of_bodySF (plainFor_of_name own_pn1) hisR ?_
  intro p e s m args below meth c s₁ Bd hml0 hP hK
  obtain ⟨rfl, hZ, hh⟩ := hP
  have hx := Bd.exec
  have hby := Bd.bytes
  have hml : c.maxLocals = 6 := hml0
  have hown : s.vm.findClass "com/example/tilesweep/tilesweep/EqualIntervals" = some m.cls := findClass_of_methodNamed Bd.named
  have hnm := (name_of_methodNamed Bd.named Bd.method).1
  have X0 : Stand p l e ({ frames := 1, cells := 0, slots := 0, locals := 12 } : Room) s m #[(.ref a0_), (.int p1), (.double d2), (.double d3)] below meth c s₁ [] 0 0 := Stand.of_body Bd
  have e0 : s₁.heap = h0 := by rw [← hh, Bd.state]; rfl
  have N0 := Fr.nil n0
  refine own_open ?_
  intro R hR
  rw [own_ef_own_init m a0_ p1 d2 d3]
  show own_W p e below R (s₁.setTop (mkF m 0 #[.val (.ref a0_), .val (.int p1), .val (.double d2), .second, .val (.double d3), .second] []))
  refine own_go (A' := (s₁.setTop (mkF m 1 #[.val (.ref a0_), .val (.int p1), .val (.double d2), .second, .val (.double d3), .second] [(.ref a0_)]))) (fun _ k => XS.aloadN X0.here hx rfl (hb hby own_d1_0) rfl rfl k) ?_
  obtain ⟨T1, X1, e1, st1⟩ := initO X0 hx hZ hown (hw _ (List.mem_of_getElem? (i := 9) rfl)) (hw _ (List.mem_of_getElem? (i := 10) rfl)) (hw _ (List.mem_of_getElem? (i := 11) rfl)) e0 (g := (mkF m 1 #[.val (.ref a0_), .val (.int p1), .val (.double d2), .second, .val (.double d3), .second] [(.ref a0_)])) rfl (by rw [hml]; rfl) rfl (hb hby own_d1_1) (by decide) (W := 0) (by show 2 * 0 + _ ≤ _; exact Nat.le_of_eq rfl) (by decide)
  refine own_go (A' := (T1.setTop (mkF m 4 #[.val (.ref a0_), .val (.int p1), .val (.double d2), .second, .val (.double d3), .second] []))) (fun _ k => st1 _ k) ?_
  refine own_go (A' := (T1.setTop (mkF m 5 #[.val (.ref a0_), .val (.int p1), .val (.double d2), .second, .val (.double d3), .second] [(.int p1)]))) (fun _ k => XS.iloadN X1.here hx rfl (hb hby own_d1_4) rfl k) ?_
  refine own_go (A' := (T1.setTop (mkF m 6 #[.val (.ref a0_), .val (.int p1), .val (.double d2), .second, .val (.double d3), .second] [(.int (1 : Int32)), (.int p1)]))) (fun _ k => XS.iconst X1.here hx rfl (hb hby own_d1_5) k) ?_
  refine own_go (A' := (T1.setTop (mkF m 23 #[.val (.ref a0_), .val (.int p1), .val (.double d2), .second, .val (.double d3), .second] []))) (fun _ k => XS.icmpYes X1.here hx rfl (pc0 := 6) (pc' := 23) rfl (hb hby own_d1_6) rfl (flt hp1).2.1 (by decide) (by decide) k) ?_
  have K_a : Keep h0 h0 [a0_] := Keep.refl _ _
  refine own_go (A' := (T1.setTop (mkF m 24 #[.val (.ref a0_), .val (.int p1), .val (.double d2), .second, .val (.double d3), .second] [(.ref a0_)]))) (fun _ k => XS.aloadN X1.here hx rfl (hb hby own_d1_23) rfl rfl k) ?_
  refine own_go (A' := (T1.setTop (mkF m 25 #[.val (.ref a0_), .val (.int p1), .val (.double d2), .second, .val (.double d3), .second] [(.int p1), (.ref a0_)]))) (fun _ k => XS.iloadN X1.here hx rfl (hb hby own_d1_24) rfl k) ?_
  obtain ⟨_, Fo⟩ := own_any F_a E_a (hw _ (List.mem_of_getElem? (i := 4) rfl)) (Or.inr (hw _ (List.mem_of_getElem? (i := 13) rfl)))
  obtain ⟨T2, h2, X2, e2, W2, st2⟩ := putF X1 hx hZ hown (host := "") (Or.inl (hw _ (List.mem_of_getElem? (i := 12) rfl))) Via.refl e1 Fo E_a (Or.inr ⟨(hw _ (List.mem_of_getElem? (i := 13) rfl)), rfl, hnm⟩) (hw _ (List.mem_of_getElem? (i := 4) rfl)) (ty := .int) (by decide) rfl rfl (g := (mkF m 25 #[.val (.ref a0_), .val (.int p1), .val (.double d2), .second, .val (.double d3), .second] [(.int p1), (.ref a0_)])) rfl rfl (hb hby own_d1_25)
  refine own_go (A' := (T2.setTop (mkF m 28 #[.val (.ref a0_), .val (.int p1), .val (.double d2), .second, .val (.double d3), .second] []))) (fun _ k => st2 _ k) ?_
  have N2 := Fr.snoc X2 N0 g_a
  have K_a := K_a.wr W2 (Or.inl (List.mem_of_getElem? (i := 0) rfl))
  have E_a := E_a.wr W2
  have F1 := Fo.same W2
  refine own_go (A' := (T2.setTop (mkF m 29 #[.val (.ref a0_), .val (.int p1), .val (.double d2), .second, .val (.double d3), .second] [(.ref a0_)]))) (fun _ k => XS.aloadN X2.here hx rfl (hb hby own_d1_28) rfl rfl k) ?_
  refine own_go (A' := (T2.setTop (mkF m 30 #[.val (.ref a0_), .val (.int p1), .val (.double d2), .second, .val (.double d3), .second] [(.double d2), (.ref a0_)]))) (fun _ k => XS.dloadN X2.here hx rfl (hb hby own_d1_29) rfl k) ?_
  obtain ⟨_, Fo⟩ := own_any F1 E_a (hw _ (List.mem_of_getElem? (i := 4) rfl)) (Or.inr (hw _ (List.mem_of_getElem? (i := 15) rfl)))
  obtain ⟨T3, h3, X3, e3, W3, st3⟩ := putF X2 hx hZ hown (host := "") (Or.inl (hw _ (List.mem_of_getElem? (i := 14) rfl))) Via.refl e2 Fo E_a (Or.inr ⟨(hw _ (List.mem_of_getElem? (i := 15) rfl)), rfl, hnm⟩) (hw _ (List.mem_of_getElem? (i := 4) rfl)) (ty := .double) (by decide) rfl rfl (g := (mkF m 30 #[.val (.ref a0_), .val (.int p1), .val (.double d2), .second, .val (.double d3), .second] [(.double d2), (.ref a0_)])) rfl rfl (hb hby own_d1_30)
  refine own_go (A' := (T3.setTop (mkF m 33 #[.val (.ref a0_), .val (.int p1), .val (.double d2), .second, .val (.double d3), .second] []))) (fun _ k => st3 _ k) ?_
  have N3 := Fr.snoc X3 N2 g_a
  have K_a := K_a.wr W3 (Or.inl (List.mem_of_getElem? (i := 0) rfl))
  have E_a := E_a.wr W3
  have F1 := F1.other W3 (Or.inr (slot_ne (Or.inr (hw _ (List.mem_of_getElem? (i := 13) rfl))) (Or.inr (hw _ (List.mem_of_getElem? (i := 15) rfl))) (by decide) (t := .int) (t' := .double) (by decide) (by decide)))
  have F2 := Fo.same W3
  refine own_go (A' := (T3.setTop (mkF m 34 #[.val (.ref a0_), .val (.int p1), .val (.double d2), .second, .val (.double d3), .second] [(.ref a0_)]))) (fun _ k => XS.aloadN X3.here hx rfl (hb hby own_d1_33) rfl rfl k) ?_
  refine own_go (A' := (T3.setTop (mkF m 36 #[.val (.ref a0_), .val (.int p1), .val (.double d2), .second, .val (.double d3), .second] [(.double d3), (.ref a0_)]))) (fun _ k => XS.dload X3.here hx rfl (hb hby own_d1_34) rfl k) ?_
  refine own_go (A' := (T3.setTop (mkF m 37 #[.val (.ref a0_), .val (.int p1), .val (.double d2), .second, .val (.double d3), .second] [(.int p1), (.double d3), (.ref a0_)]))) (fun _ k => XS.iloadN X3.here hx rfl (hb hby own_d1_36) rfl k) ?_
  refine own_go (A' := (T3.setTop (mkF m 38 #[.val (.ref a0_), .val (.int p1), .val (.double d2), .second, .val (.double d3), .second] [(.double (FP.i2d p1)), (.double d3), (.ref a0_)]))) (fun _ k => XS.i2dS X3.here hx rfl (hb hby own_d1_37) rfl rfl k) ?_
  refine own_go (A' := (T3.setTop (mkF m 39 #[.val (.ref a0_), .val (.int p1), .val (.double d2), .second, .val (.double d3), .second] [(.double (FP.ddiv d3 (FP.i2d p1))), (.ref a0_)]))) (fun _ k => XS.ddivS X3.here hx rfl (hb hby own_d1_38) rfl n1 rfl k) ?_
  refine own_go (A' := (T3.setTop (mkF m 40 #[.val (.ref a0_), .val (.int p1), .val (.double d2), .second, .val (.double d3), .second] [(.double d2), (.double (FP.ddiv d3 (FP.i2d p1))), (.ref a0_)]))) (fun _ k => XS.dloadN X3.here hx rfl (hb hby own_d1_39) rfl k) ?_
  refine own_go (A' := (T3.setTop (mkF m 41 #[.val (.ref a0_), .val (.int p1), .val (.double d2), .second, .val (.double d3), .second] [(.int p1), (.double d2), (.double (FP.ddiv d3 (FP.i2d p1))), (.ref a0_)]))) (fun _ k => XS.iloadN X3.here hx rfl (hb hby own_d1_40) rfl k) ?_
  refine own_go (A' := (T3.setTop (mkF m 42 #[.val (.ref a0_), .val (.int p1), .val (.double d2), .second, .val (.double d3), .second] [(.double (FP.i2d p1)), (.double d2), (.double (FP.ddiv d3 (FP.i2d p1))), (.ref a0_)]))) (fun _ k => XS.i2dS X3.here hx rfl (hb hby own_d1_41) rfl rfl k) ?_
  refine own_go (A' := (T3.setTop (mkF m 43 #[.val (.ref a0_), .val (.int p1), .val (.double d2), .second, .val (.double d3), .second] [(.double (FP.ddiv d2 (FP.i2d p1))), (.double (FP.ddiv d3 (FP.i2d p1))), (.ref a0_)]))) (fun _ k => XS.ddivS X3.here hx rfl (hb hby own_d1_42) rfl n2 rfl k) ?_
  refine own_go (A' := (T3.setTop (mkF m 44 #[.val (.ref a0_), .val (.int p1), .val (.double d2), .second, .val (.double d3), .second] [(.double st), (.ref a0_)]))) (fun _ k => XS.dsubS X3.here hx rfl (hb hby own_d1_43) rfl n3 hst k) ?_
  obtain ⟨_, Fo⟩ := own_any F1 E_a (hw _ (List.mem_of_getElem? (i := 4) rfl)) (Or.inr (hw _ (List.mem_of_getElem? (i := 17) rfl)))
  obtain ⟨T4, h4, X4, e4, W4, st4⟩ := putF X3 hx hZ hown (host := "") (Or.inl (hw _ (List.mem_of_getElem? (i := 16) rfl))) Via.refl e3 Fo E_a (Or.inr ⟨(hw _ (List.mem_of_getElem? (i := 17) rfl)), rfl, hnm⟩) (hw _ (List.mem_of_getElem? (i := 4) rfl)) (ty := .double) (by decide) rfl rfl (g := (mkF m 44 #[.val (.ref a0_), .val (.int p1), .val (.double d2), .second, .val (.double d3), .second] [(.double st), (.ref a0_)])) rfl rfl (hb hby own_d1_44)
  refine own_go (A' := (T4.setTop (mkF m 47 #[.val (.ref a0_), .val (.int p1), .val (.double d2), .second, .val (.double d3), .second] []))) (fun _ k => st4 _ k) ?_
  have N4 := Fr.snoc X4 N3 g_a
  have K_a := K_a.wr W4 (Or.inl (List.mem_of_getElem? (i := 0) rfl))
  have E_a := E_a.wr W4
  have F1 := F1.other W4 (Or.inr (slot_ne (Or.inr (hw _ (List.mem_of_getElem? (i := 13) rfl))) (Or.inr (hw _ (List.mem_of_getElem? (i := 17) rfl))) (by decide) (t := .int) (t' := .double) (by decide) (by decide)))
  have F2 := F2.other W4 (Or.inr (slot_ne (Or.inr (hw _ (List.mem_of_getElem? (i := 15) rfl))) (Or.inr (hw _ (List.mem_of_getElem? (i := 17) rfl))) (by decide) (t := .double) (t' := .double) (by decide) (by decide)))
  have F3 := Fo.same W4
  obtain ⟨fs, hr, hrun, hended, hW, hsame⟩ := X4.leave (v := none) (fun _ => rfl)
  refine ⟨_, _, X4.returnOut hx Bd.returns (hb hby own_d1_47) hr, hR _ _ ⟨hrun, hended, _, _, rfl, ?_, ⟨_, rfl⟩, hW, hsame.mono (by decide) (by decide)⟩⟩
  show own_Q_own_init Z a0_ p1 d2 d3 st u0 h0 n0 _ T4.heap _
  rw [e4]
  exact ⟨rfl, N4, K_a, E_a, F1, F2, F3⟩
theorem own_ef_own_index (m : MethodId) (a1 : Addr) (dv : UInt64) : entryFrame m #[(.ref a1), (.double dv)] 4 = mkF m 0 #[.val (.ref a1), .val (.double dv), .second, .unset] [] := by first | (simp [entryFrame, mkF, argsToLocals, Value.category]; done) | rfl
def own_Q_own_index (Z : State) (a1 : Addr) (dv : UInt64) (cnt : Int32) (dl st : UInt64) (nv nl ns : Int) (h0 : Heap) (n0 : Nat) (v : Option Value) (h : Heap) (L : List Loc) : Prop := v = some (.int (own_idxV cnt (nv - nl) ns)) ∧ Fr n0 L ∧ h = h0
set_option maxRecDepth 65536 in
set_option maxHeartbeats 40000000 in
theorem own_index (l : Launch) (Z : State) (a0 : Array Value) (hw : ∀ d ∈ tables_1, d.before a0 Z = true) (ws : List Jvm.Cond) (a1 : Addr) (dv : UInt64) (cnt : Int32) (dl st : UInt64) (nv nl ns : Int) (h0 : Heap) (n0 : Nat) (Z0 : n0 ≤ h0.size) (HV : own_At 1074 dv nv) (HL : own_At 1074 dl nl) (HS : own_At 1074 st ns) (hz : ns = 0 → st = 0) (hoff : nv - nl < 2147483648) (hs0 : 0 ≤ ns) (hs1 : ns ≤ 65535) (hcnt : cnt.toInt ≤ 256) (F1 : Fld Z h0 a1 "com/example/tilesweep/tilesweep/EqualIntervals" "count" "I" (.int cnt)) (F2 : Fld Z h0 a1 "com/example/tilesweep/tilesweep/EqualIntervals" "low" "D" (.double dl)) (F3 : Fld Z h0 a1 "com/example/tilesweep/tilesweep/EqualIntervals" "step" "D" (.double st)) :
    MetFree l (⟨"com/example/tilesweep/tilesweep/EqualIntervals", "index", "(D)I"⟩ : MethodName) (head1 (Jvm.Cond.code (⟨"com/example/tilesweep/tilesweep/EqualIntervals", "index", "(D)I"⟩ : MethodName) prog_13_method_3_code 4 (some .int) :: ws) ({ frames := 0, cells := 0, slots := 0, locals := 0 } : Room)) (fun a U => a = #[(.ref a1), (.double dv)] ∧ Z.Warmed39 U.vm ∧ U.heap = h0) (fun _ _ _ _ _ => True) (fun _ U o U' => ∃ v L, o = .returned v ∧ own_Q_own_index Z a1 dv cnt dl st nv nl ns h0 n0 v U'.heap L ∧ FrameEnd U o U' L ({ frames := 0, cells := 0, slots := 0, locals := 0 } : Room).cells ({ frames := 0, cells := 0, slots := 0, locals := 0 } : Room).slots) := by
  refine MetFree.of_bodySF (plainFor_of_name own_pn3) hisR ?_
  intro p e s m args below meth c s₁ Bd hml0 hP hK
  obtain ⟨rfl, hZ, hh⟩ := hP
  have hx := Bd.exec
  have hby := Bd.bytes
  have hml : c.maxLocals = 4 := hml0
  have hown : s.vm.findClass "com/example/tilesweep/tilesweep/EqualIntervals" = some m.cls := findClass_of_methodNamed Bd.named
  have hnm := (name_of_methodNamed Bd.named Bd.method).1
  have X0 : Stand p l e ({ frames := 0, cells := 0, slots := 0, locals := 0 } : Room) s m #[(.ref a1), (.double dv)] below meth c s₁ [] 0 0 := Stand.of_body Bd
  have e0 : s₁.heap = h0 := by rw [← hh, Bd.state]; rfl
  have N0 := Fr.nil n0
  refine own_open ?_
  intro R hR
  rw [own_ef_own_index m a1 dv]
  show own_W p e below R (s₁.setTop (mkF m 0 #[.val (.ref a1), .val (.double dv), .second, .unset] []))
  refine own_go (A' := (s₁.setTop (mkF m 1 #[.val (.ref a1), .val (.double dv), .second, .unset] [(.double dv)]))) (fun _ k => XS.dloadN X0.here hx rfl (hb hby own_d3_0) rfl k) ?_
  refine own_go (A' := (s₁.setTop (mkF m 2 #[.val (.ref a1), .val (.double dv), .second, .unset] [(.ref a1), (.double dv)]))) (fun _ k => XS.aloadN X0.here hx rfl (hb hby own_d3_1) rfl rfl k) ?_
  obtain ⟨T1, X1, e1, st1⟩ := getF X0 hx hZ hown (host := "") (Or.inl (hw _ (List.mem_of_getElem? (i := 14) rfl))) Via.refl e0 F2 (g := (mkF m 2 #[.val (.ref a1), .val (.double dv), .second, .unset] [(.ref a1), (.double dv)])) rfl rfl (hb hby own_d3_2)
  refine own_go (A' := (T1.setTop (mkF m 5 #[.val (.ref a1), .val (.double dv), .second, .unset] [(.double dl), (.double dv)]))) (fun _ k => st1 _ k) ?_
  refine own_go (A' := (T1.setTop (mkF m 6 #[.val (.ref a1), .val (.double dv), .second, .unset] [(.int (cmpValue (FP.dcmp dv dl) .g))]))) (fun _ k => XS.dcmpS X1.here hx rfl (hb hby own_d3_5) rfl rfl k) ?_
  have q1 := own_ca_gt HV HL .g
  by_cases hc1 : (0 : Int32) < (cmpValue (FP.dcmp dv dl) .g)
  · refine own_go (A' := (T1.setTop (mkF m 11 #[.val (.ref a1), .val (.double dv), .second, .unset] []))) (fun _ k => XS.ifYes X1.here hx rfl (pc0 := 6) (pc' := 11) rfl (hb hby own_d3_6) rfl ((if0 _ _).trans (tlt hc1).2.2.1) (by decide) (by decide) k) ?_
    have hpos : 0 < nv - nl := by have := q1.mp hc1; omega
    have HD := own_subAt HV HL (by decide) (by omega)
    obtain ⟨hnn, hq⟩ := own_quotA HD HS hz hpos hoff hs0 hs1
    refine own_go (A' := (T1.setTop (mkF m 12 #[.val (.ref a1), .val (.double dv), .second, .unset] [(.double dv)]))) (fun _ k => XS.dloadN X1.here hx rfl (hb hby own_d3_11) rfl k) ?_
    refine own_go (A' := (T1.setTop (mkF m 13 #[.val (.ref a1), .val (.double dv), .second, .unset] [(.ref a1), (.double dv)]))) (fun _ k => XS.aloadN X1.here hx rfl (hb hby own_d3_12) rfl rfl k) ?_
    obtain ⟨T2, X2, e2, st2⟩ := getF X1 hx hZ hown (host := "") (Or.inl (hw _ (List.mem_of_getElem? (i := 14) rfl))) Via.refl e1 F2 (g := (mkF m 13 #[.val (.ref a1), .val (.double dv), .second, .unset] [(.ref a1), (.double dv)])) rfl rfl (hb hby own_d3_13)
    refine own_go (A' := (T2.setTop (mkF m 16 #[.val (.ref a1), .val (.double dv), .second, .unset] [(.double dl), (.double dv)]))) (fun _ k => st2 _ k) ?_
    refine own_go (A' := (T2.setTop (mkF m 17 #[.val (.ref a1), .val (.double dv), .second, .unset] [(.double (FP.dsub dv dl))]))) (fun _ k => XS.dsubS X2.here hx rfl (hb hby own_d3_16) rfl HD.nn rfl k) ?_
    refine own_go (A' := (T2.setTop (mkF m 18 #[.val (.ref a1), .val (.double dv), .second, .unset] [(.ref a1), (.double (FP.dsub dv dl))]))) (fun _ k => XS.aloadN X2.here hx rfl (hb hby own_d3_17) rfl rfl k) ?_
    obtain ⟨T3, X3, e3, st3⟩ := getF X2 hx hZ hown (host := "") (Or.inl (hw _ (List.mem_of_getElem? (i := 16) rfl))) Via.refl e2 F3 (g := (mkF m 18 #[.val (.ref a1), .val (.double dv), .second, .unset] [(.ref a1), (.double (FP.dsub dv dl))])) rfl rfl (hb hby own_d3_18)
    refine own_go (A' := (T3.setTop (mkF m 21 #[.val (.ref a1), .val (.double dv), .second, .unset] [(.double st), (.double (FP.dsub dv dl))]))) (fun _ k => st3 _ k) ?_
    refine own_go (A' := (T3.setTop (mkF m 22 #[.val (.ref a1), .val (.double dv), .second, .unset] [(.double (FP.ddiv (FP.dsub dv dl) st))]))) (fun _ k => XS.ddivS X3.here hx rfl (hb hby own_d3_21) rfl hnn rfl k) ?_
    refine own_go (A' := (T3.setTop (mkF m 23 #[.val (.ref a1), .val (.double dv), .second, .unset] [(.int (FP.d2i (FP.ddiv (FP.dsub dv dl) st)))]))) (fun _ k => XS.d2iS X3.here hx rfl (hb hby own_d3_22) rfl rfl k) ?_
    refine own_go (A' := (T3.setTop (mkF m 24 #[.val (.ref a1), .val (.double dv), .second, .val (.int (FP.d2i (FP.ddiv (FP.dsub dv dl) st)))] []))) (fun _ k => XS.istoreN X3.here hx rfl (hb hby own_d3_23) rfl (l' := #[.val (.ref a1), .val (.double dv), .second, .val (.int (FP.d2i (FP.ddiv (FP.dsub dv dl) st)))]) rfl k) ?_
    refine own_go (A' := (T3.setTop (mkF m 25 #[.val (.ref a1), .val (.double dv), .second, .val (.int (FP.d2i (FP.ddiv (FP.dsub dv dl) st)))] [(.int (FP.d2i (FP.ddiv (FP.dsub dv dl) st)))]))) (fun _ k => XS.iloadN X3.here hx rfl (hb hby own_d3_24) rfl k) ?_
    refine own_go (A' := (T3.setTop (mkF m 26 #[.val (.ref a1), .val (.double dv), .second, .val (.int (FP.d2i (FP.ddiv (FP.dsub dv dl) st)))] [(.ref a1), (.int (FP.d2i (FP.ddiv (FP.dsub dv dl) st)))]))) (fun _ k => XS.aloadN X3.here hx rfl (hb hby own_d3_25) rfl rfl k) ?_
    obtain ⟨T4, X4, e4, st4⟩ := getF X3 hx hZ hown (host := "") (Or.inl (hw _ (List.mem_of_getElem? (i := 12) rfl))) Via.refl e3 F1 (g := (mkF m 26 #[.val (.ref a1), .val (.double dv), .second, .val (.int (FP.d2i (FP.ddiv (FP.dsub dv dl) st)))] [(.ref a1), (.int (FP.d2i (FP.ddiv (FP.dsub dv dl) st)))])) rfl rfl (hb hby own_d3_26)
    refine own_go (A' := (T4.setTop (mkF m 29 #[.val (.ref a1), .val (.double dv), .second, .val (.int (FP.d2i (FP.ddiv (FP.dsub dv dl) st)))] [(.int cnt), (.int (FP.d2i (FP.ddiv (FP.dsub dv dl) st)))]))) (fun _ k => st4 _ k) ?_
    by_cases hc2 : (FP.d2i (FP.ddiv (FP.dsub dv dl) st)) < cnt
    · refine own_go (A' := (T4.setTop (mkF m 32 #[.val (.ref a1), .val (.double dv), .second, .val (.int (FP.d2i (FP.ddiv (FP.dsub dv dl) st)))] []))) (fun _ k => XS.icmpNo X4.here hx rfl (hb hby own_d3_29) rfl (tlt hc2).2.1 k) ?_
      refine own_go (A' := (T4.setTop (mkF m 33 #[.val (.ref a1), .val (.double dv), .second, .val (.int (FP.d2i (FP.ddiv (FP.dsub dv dl) st)))] [(.int (FP.d2i (FP.ddiv (FP.dsub dv dl) st)))]))) (fun _ k => XS.iloadN X4.here hx rfl (hb hby own_d3_32) rfl k) ?_
      refine own_go (A' := (T4.setTop (mkF m 42 #[.val (.ref a1), .val (.double dv), .second, .val (.int (FP.d2i (FP.ddiv (FP.dsub dv dl) st)))] [(.int (FP.d2i (FP.ddiv (FP.dsub dv dl) st)))]))) (fun _ k => XS.goto X4.here hx rfl (pc0 := 33) (pc' := 42) rfl (hb hby own_d3_33) (by decide) (by decide) k) ?_
      obtain ⟨fs, hr, hrun, hended, hW, hsame⟩ := X4.leave (v := some (.int (FP.d2i (FP.ddiv (FP.dsub dv dl) st)))) (fun h => by rw [Bd.returns] at h; cases h)
      refine ⟨_, _, retI X4 hx Bd.returns (hb hby own_d3_42) hr, hR _ _ ⟨hrun, hended, _, _, rfl, ?_, ⟨_, rfl⟩, hW, hsame.mono (by decide) (by decide)⟩⟩
      show own_Q_own_index Z a1 dv cnt dl st nv nl ns h0 n0 _ T4.heap _
      rw [e4]
      exact ⟨by rw [own_idx_take hpos hq hcnt hc2], N0, rfl⟩
    · refine own_go (A' := (T4.setTop (mkF m 36 #[.val (.ref a1), .val (.double dv), .second, .val (.int (FP.d2i (FP.ddiv (FP.dsub dv dl) st)))] []))) (fun _ k => XS.icmpYes X4.here hx rfl (pc0 := 29) (pc' := 36) rfl (hb hby own_d3_29) rfl (flt hc2).2.1 (by decide) (by decide) k) ?_
      refine own_go (A' := (T4.setTop (mkF m 37 #[.val (.ref a1), .val (.double dv), .second, .val (.int (FP.d2i (FP.ddiv (FP.dsub dv dl) st)))] [(.ref a1)]))) (fun _ k => XS.aloadN X4.here hx rfl (hb hby own_d3_36) rfl rfl k) ?_
      obtain ⟨T5, X5, e5, st5⟩ := getF X4 hx hZ hown (host := "") (Or.inl (hw _ (List.mem_of_getElem? (i := 12) rfl))) Via.refl e4 F1 (g := (mkF m 37 #[.val (.ref a1), .val (.double dv), .second, .val (.int (FP.d2i (FP.ddiv (FP.dsub dv dl) st)))] [(.ref a1)])) rfl rfl (hb hby own_d3_37)
      refine own_go (A' := (T5.setTop (mkF m 40 #[.val (.ref a1), .val (.double dv), .second, .val (.int (FP.d2i (FP.ddiv (FP.dsub dv dl) st)))] [(.int cnt)]))) (fun _ k => st5 _ k) ?_
      refine own_go (A' := (T5.setTop (mkF m 41 #[.val (.ref a1), .val (.double dv), .second, .val (.int (FP.d2i (FP.ddiv (FP.dsub dv dl) st)))] [(.int (1 : Int32)), (.int cnt)]))) (fun _ k => XS.iconst X5.here hx rfl (hb hby own_d3_40) k) ?_
      refine own_go (A' := (T5.setTop (mkF m 42 #[.val (.ref a1), .val (.double dv), .second, .val (.int (FP.d2i (FP.ddiv (FP.dsub dv dl) st)))] [(.int (cnt - (1 : Int32)))]))) (fun _ k => XS.isub X5.here hx rfl (hb hby own_d3_41) rfl k) ?_
      obtain ⟨fs, hr, hrun, hended, hW, hsame⟩ := X5.leave (v := some (.int (cnt - (1 : Int32)))) (fun h => by rw [Bd.returns] at h; cases h)
      refine ⟨_, _, retI X5 hx Bd.returns (hb hby own_d3_42) hr, hR _ _ ⟨hrun, hended, _, _, rfl, ?_, ⟨_, rfl⟩, hW, hsame.mono (by decide) (by decide)⟩⟩
      show own_Q_own_index Z a1 dv cnt dl st nv nl ns h0 n0 _ T5.heap _
      rw [e5]
      exact ⟨by rw [own_idx_top hpos hq hc2], N0, rfl⟩
  · refine own_go (A' := (T1.setTop (mkF m 9 #[.val (.ref a1), .val (.double dv), .second, .unset] []))) (fun _ k => XS.ifNo X1.here hx rfl (hb hby own_d3_6) rfl ((if0 _ _).trans (flt hc1).2.2.1) k) ?_
    refine own_go (A' := (T1.setTop (mkF m 10 #[.val (.ref a1), .val (.double dv), .second, .unset] [(.int (0 : Int32))]))) (fun _ k => XS.iconst X1.here hx rfl (hb hby own_d3_9) k) ?_
    obtain ⟨fs, hr, hrun, hended, hW, hsame⟩ := X1.leave (v := some (.int (0 : Int32))) (fun h => by rw [Bd.returns] at h; cases h)
    refine ⟨_, _, retI X1 hx Bd.returns (hb hby own_d3_10) hr, hR _ _ ⟨hrun, hended, _, _, rfl, ?_, ⟨_, rfl⟩, hW, hsame.mono (by decide) (by decide)⟩⟩
    show own_Q_own_index Z a1 dv cnt dl st nv nl ns h0 n0 _ T1.heap _
    rw [e1]
    exact ⟨by unfold own_idxV; rw [if_pos (by
      by_cases q : nv - nl ≤ 0
      · exact q
      · exact absurd (q1.mpr (by omega)) hc1)], N0, rfl⟩
theorem own_ef_own_exp (m : MethodId) (p1 : Int32) (q2 : Int64) (q3 : Int64) : entryFrame m #[(.int p1), (.long q2), (.long q3)] 7 = mkF m 0 #[.val (.int p1), .val (.long q2), .second, .val (.long q3), .second, .unset, .unset] [] := by first | (simp [entryFrame, mkF, argsToLocals, Value.category]; done) | rfl
def own_Q_own_exp (Z : State) (p1 : Int32) (q2 : Int64) (q3 : Int64) (h0 : Heap) (n0 : Nat) (v : Option Value) (h : Heap) (L : List Loc) : Prop := v = some (.int (own_idxV p1 q3.toInt q2.toInt)) ∧ Fr n0 L ∧ h = h0
set_option maxRecDepth 65536 in
set_option maxHeartbeats 40000000 in
theorem own_exp (l : Launch) (Z : State) (a0 : Array Value) (hw : ∀ d ∈ tables_1, d.before a0 Z = true) (ws : List Jvm.Cond) (p1 : Int32) (q2 : Int64) (q3 : Int64) (h0 : Heap) (n0 : Nat) (Z0 : n0 ≤ h0.size) (hs0 : 0 ≤ q2.toInt) (hoff : q3.toInt < 2147483648) (hcnt : p1.toInt ≤ 256) :
    MetFree l (⟨"com/example/tilesweep/tilesweep/EqualIntervalsIndexPinLaw", "expected", "(IJJ)I"⟩ : MethodName) (head1 (Jvm.Cond.code (⟨"com/example/tilesweep/tilesweep/EqualIntervalsIndexPinLaw", "expected", "(IJJ)I"⟩ : MethodName) method_3_code 7 (some .int) :: ws) ({ frames := 0, cells := 0, slots := 0, locals := 0 } : Room)) (fun a U => a = #[(.int p1), (.long q2), (.long q3)] ∧ Z.Warmed39 U.vm ∧ U.heap = h0) (fun _ _ _ _ _ => True) (fun _ U o U' => ∃ v L, o = .returned v ∧ own_Q_own_exp Z p1 q2 q3 h0 n0 v U'.heap L ∧ FrameEnd U o U' L ({ frames := 0, cells := 0, slots := 0, locals := 0 } : Room).cells ({ frames := 0, cells := 0, slots := 0, locals := 0 } : Room).slots) := by
  refine MetFree.of_bodySF (plainFor_of_name own_pn4) hisR ?_
  intro p e s m args below meth c s₁ Bd hml0 hP hK
  obtain ⟨rfl, hZ, hh⟩ := hP
  have hx := Bd.exec
  have hby := Bd.bytes
  have hml : c.maxLocals = 7 := hml0
  have hown : s.vm.findClass "com/example/tilesweep/tilesweep/EqualIntervalsIndexPinLaw" = some m.cls := findClass_of_methodNamed Bd.named
  have hnm := (name_of_methodNamed Bd.named Bd.method).1
  have X0 : Stand p l e ({ frames := 0, cells := 0, slots := 0, locals := 0 } : Room) s m #[(.int p1), (.long q2), (.long q3)] below meth c s₁ [] 0 0 := Stand.of_body Bd
  have e0 : s₁.heap = h0 := by rw [← hh, Bd.state]; rfl
  have N0 := Fr.nil n0
  refine own_open ?_
  intro R hR
  rw [own_ef_own_exp m p1 q2 q3]
  show own_W p e below R (s₁.setTop (mkF m 0 #[.val (.int p1), .val (.long q2), .second, .val (.long q3), .second, .unset, .unset] []))
  refine own_go (A' := (s₁.setTop (mkF m 1 #[.val (.int p1), .val (.long q2), .second, .val (.long q3), .second, .unset, .unset] [(.long q3)]))) (fun _ k => XS.lloadN X0.here hx rfl (hb hby own_d4_0) rfl k) ?_
  refine own_go (A' := (s₁.setTop (mkF m 2 #[.val (.int p1), .val (.long q2), .second, .val (.long q3), .second, .unset, .unset] [(.long (0 : Int64)), (.long q3)]))) (fun _ k => XS.lconst X0.here hx rfl (hb hby own_d4_1) k) ?_
  refine own_go (A' := (s₁.setTop (mkF m 3 #[.val (.int p1), .val (.long q2), .second, .val (.long q3), .second, .unset, .unset] [(.int (lcmpW q3 (0 : Int64)))]))) (fun _ k => XS.lcmp X0.here hx rfl (hb hby own_d4_2) rfl k) ?_
  have q1 := own_l_gt q3 0
  by_cases hc1 : (0 : Int32) < (lcmpW q3 (0 : Int64))
  · refine own_go (A' := (s₁.setTop (mkF m 8 #[.val (.int p1), .val (.long q2), .second, .val (.long q3), .second, .unset, .unset] []))) (fun _ k => XS.ifYes X0.here hx rfl (pc0 := 3) (pc' := 8) rfl (hb hby own_d4_3) rfl ((if0 _ _).trans (tlt hc1).2.2.1) (by decide) (by decide) k) ?_
    have hpos : 0 < q3.toInt := Int64.lt_iff_toInt_lt.mp (q1.mp hc1)
    refine own_go (A' := (s₁.setTop (mkF m 9 #[.val (.int p1), .val (.long q2), .second, .val (.long q3), .second, .unset, .unset] [(.long q2)]))) (fun _ k => XS.lloadN X0.here hx rfl (hb hby own_d4_8) rfl k) ?_
    refine own_go (A' := (s₁.setTop (mkF m 10 #[.val (.int p1), .val (.long q2), .second, .val (.long q3), .second, .unset, .unset] [(.long (0 : Int64)), (.long q2)]))) (fun _ k => XS.lconst X0.here hx rfl (hb hby own_d4_9) k) ?_
    refine own_go (A' := (s₁.setTop (mkF m 11 #[.val (.int p1), .val (.long q2), .second, .val (.long q3), .second, .unset, .unset] [(.int (lcmpW q2 (0 : Int64)))]))) (fun _ k => XS.lcmp X0.here hx rfl (hb hby own_d4_10) rfl k) ?_
    have q4 := own_l_eq q2 0
    by_cases hc2 : (lcmpW q2 (0 : Int64)) = (0 : Int32)
    · refine own_go (A' := (s₁.setTop (mkF m 14 #[.val (.int p1), .val (.long q2), .second, .val (.long q3), .second, .unset, .unset] []))) (fun _ k => XS.ifNo X0.here hx rfl (hb hby own_d4_11) rfl ((if0 _ _).trans (teq hc2).2) k) ?_
      refine own_go (A' := (s₁.setTop (mkF m 15 #[.val (.int p1), .val (.long q2), .second, .val (.long q3), .second, .unset, .unset] [(.int p1)]))) (fun _ k => XS.iloadN X0.here hx rfl (hb hby own_d4_14) rfl k) ?_
      refine own_go (A' := (s₁.setTop (mkF m 16 #[.val (.int p1), .val (.long q2), .second, .val (.long q3), .second, .unset, .unset] [(.int (1 : Int32)), (.int p1)]))) (fun _ k => XS.iconst X0.here hx rfl (hb hby own_d4_15) k) ?_
      refine own_go (A' := (s₁.setTop (mkF m 17 #[.val (.int p1), .val (.long q2), .second, .val (.long q3), .second, .unset, .unset] [(.int (p1 - (1 : Int32)))]))) (fun _ k => XS.isub X0.here hx rfl (hb hby own_d4_16) rfl k) ?_
      obtain ⟨fs, hr, hrun, hended, hW, hsame⟩ := X0.leave (v := some (.int (p1 - (1 : Int32)))) (fun h => by rw [Bd.returns] at h; cases h)
      refine ⟨_, _, retI X0 hx Bd.returns (hb hby own_d4_17) hr, hR _ _ ⟨hrun, hended, _, _, rfl, ?_, ⟨_, rfl⟩, hW, hsame.mono (by decide) (by decide)⟩⟩
      show own_Q_own_exp Z p1 q2 q3 h0 n0 _ s₁.heap _
      rw [e0]
      exact ⟨by unfold own_idxV; rw [if_neg (by omega), if_pos (by rw [q4.mp hc2]; rfl)], N0, rfl⟩
    · refine own_go (A' := (s₁.setTop (mkF m 18 #[.val (.int p1), .val (.long q2), .second, .val (.long q3), .second, .unset, .unset] []))) (fun _ k => XS.ifYes X0.here hx rfl (pc0 := 11) (pc' := 18) rfl (hb hby own_d4_11) rfl ((if0 _ _).trans (feq hc2).2) (by decide) (by decide) k) ?_
      have hnz : ¬ q2 = 0 := fun q => hc2 (q4.mpr q)
      have hs1 : 0 < q2.toInt := by
        have : q2.toInt ≠ 0 := fun q => hnz (Int64.toInt_inj.mp q)
        omega
      obtain ⟨e1, e2⟩ := own_ldiv hpos hs1 hoff
      have hqv : ((q3 / q2).toInt32).toInt = own_qv q3.toInt q2.toInt := by unfold own_qv; rw [if_neg (by omega)]; exact e2
      refine own_go (A' := (s₁.setTop (mkF m 19 #[.val (.int p1), .val (.long q2), .second, .val (.long q3), .second, .unset, .unset] [(.long q3)]))) (fun _ k => XS.lloadN X0.here hx rfl (hb hby own_d4_18) rfl k) ?_
      refine own_go (A' := (s₁.setTop (mkF m 20 #[.val (.int p1), .val (.long q2), .second, .val (.long q3), .second, .unset, .unset] [(.long q2), (.long q3)]))) (fun _ k => XS.lloadN X0.here hx rfl (hb hby own_d4_19) rfl k) ?_
      refine own_go (A' := (s₁.setTop (mkF m 21 #[.val (.int p1), .val (.long q2), .second, .val (.long q3), .second, .unset, .unset] [(.long (q3 / q2))]))) (fun _ k => XS.ldiv X0.here hx rfl (hb hby own_d4_20) rfl hnz k) ?_
      refine own_go (A' := (s₁.setTop (mkF m 23 #[.val (.int p1), .val (.long q2), .second, .val (.long q3), .second, .val (.long (q3 / q2)), .second] []))) (fun _ k => XS.lstore X0.here hx rfl (hb hby own_d4_21) rfl (l' := #[.val (.int p1), .val (.long q2), .second, .val (.long q3), .second, .val (.long (q3 / q2)), .second]) rfl k) ?_
      refine own_go (A' := (s₁.setTop (mkF m 25 #[.val (.int p1), .val (.long q2), .second, .val (.long q3), .second, .val (.long (q3 / q2)), .second] [(.long (q3 / q2))]))) (fun _ k => XS.lload X0.here hx rfl (hb hby own_d4_23) rfl k) ?_
      refine own_go (A' := (s₁.setTop (mkF m 26 #[.val (.int p1), .val (.long q2), .second, .val (.long q3), .second, .val (.long (q3 / q2)), .second] [(.int p1), (.long (q3 / q2))]))) (fun _ k => XS.iloadN X0.here hx rfl (hb hby own_d4_25) rfl k) ?_
      refine own_go (A' := (s₁.setTop (mkF m 27 #[.val (.int p1), .val (.long q2), .second, .val (.long q3), .second, .val (.long (q3 / q2)), .second] [(.long (p1.toInt64)), (.long (q3 / q2))]))) (fun _ k => XS.i2l X0.here hx rfl (hb hby own_d4_26) rfl k) ?_
      refine own_go (A' := (s₁.setTop (mkF m 28 #[.val (.int p1), .val (.long q2), .second, .val (.long q3), .second, .val (.long (q3 / q2)), .second] [(.int (lcmpW (q3 / q2) (p1.toInt64)))]))) (fun _ k => XS.lcmp X0.here hx rfl (hb hby own_d4_27) rfl k) ?_
      have q5 := own_l_lt (q3 / q2) p1.toInt64
      by_cases hc3 : (lcmpW (q3 / q2) (p1.toInt64)) < (0 : Int32)
      · refine own_go (A' := (s₁.setTop (mkF m 31 #[.val (.int p1), .val (.long q2), .second, .val (.long q3), .second, .val (.long (q3 / q2)), .second] []))) (fun _ k => XS.ifNo X0.here hx rfl (hb hby own_d4_28) rfl ((if0 _ _).trans (tlt hc3).2.1) k) ?_
        refine own_go (A' := (s₁.setTop (mkF m 33 #[.val (.int p1), .val (.long q2), .second, .val (.long q3), .second, .val (.long (q3 / q2)), .second] [(.long (q3 / q2))]))) (fun _ k => XS.lload X0.here hx rfl (hb hby own_d4_31) rfl k) ?_
        refine own_go (A' := (s₁.setTop (mkF m 34 #[.val (.int p1), .val (.long q2), .second, .val (.long q3), .second, .val (.long (q3 / q2)), .second] [(.int ((q3 / q2).toInt32))]))) (fun _ k => XS.l2i X0.here hx rfl (hb hby own_d4_33) rfl k) ?_
        have hlt : (q3 / q2).toInt32 < p1 := by
          have := Int64.lt_iff_toInt_lt.mp (q5.mp hc3)
          rw [own_i2l] at this
          exact Int32.lt_iff_toInt_lt.mpr (by omega)
        obtain ⟨fs, hr, hrun, hended, hW, hsame⟩ := X0.leave (v := some (.int ((q3 / q2).toInt32))) (fun h => by rw [Bd.returns] at h; cases h)
        refine ⟨_, _, retI X0 hx Bd.returns (hb hby own_d4_34) hr, hR _ _ ⟨hrun, hended, _, _, rfl, ?_, ⟨_, rfl⟩, hW, hsame.mono (by decide) (by decide)⟩⟩
        show own_Q_own_exp Z p1 q2 q3 h0 n0 _ s₁.heap _
        rw [e0]
        exact ⟨by rw [own_idx_take hpos hqv hcnt hlt], N0, rfl⟩
      · refine own_go (A' := (s₁.setTop (mkF m 35 #[.val (.int p1), .val (.long q2), .second, .val (.long q3), .second, .val (.long (q3 / q2)), .second] []))) (fun _ k => XS.ifYes X0.here hx rfl (pc0 := 28) (pc' := 35) rfl (hb hby own_d4_28) rfl ((if0 _ _).trans (flt hc3).2.1) (by decide) (by decide) k) ?_
        refine own_go (A' := (s₁.setTop (mkF m 36 #[.val (.int p1), .val (.long q2), .second, .val (.long q3), .second, .val (.long (q3 / q2)), .second] [(.int p1)]))) (fun _ k => XS.iloadN X0.here hx rfl (hb hby own_d4_35) rfl k) ?_
        refine own_go (A' := (s₁.setTop (mkF m 37 #[.val (.int p1), .val (.long q2), .second, .val (.long q3), .second, .val (.long (q3 / q2)), .second] [(.int (1 : Int32)), (.int p1)]))) (fun _ k => XS.iconst X0.here hx rfl (hb hby own_d4_36) k) ?_
        refine own_go (A' := (s₁.setTop (mkF m 38 #[.val (.int p1), .val (.long q2), .second, .val (.long q3), .second, .val (.long (q3 / q2)), .second] [(.int (p1 - (1 : Int32)))]))) (fun _ k => XS.isub X0.here hx rfl (hb hby own_d4_37) rfl k) ?_
        have hlt : ¬ (q3 / q2).toInt32 < p1 := by
          intro q
          have := Int32.lt_iff_toInt_lt.mp q
          exact hc3 (q5.mpr (Int64.lt_iff_toInt_lt.mpr (by rw [own_i2l]; omega)))
        obtain ⟨fs, hr, hrun, hended, hW, hsame⟩ := X0.leave (v := some (.int (p1 - (1 : Int32)))) (fun h => by rw [Bd.returns] at h; cases h)
        refine ⟨_, _, retI X0 hx Bd.returns (hb hby own_d4_38) hr, hR _ _ ⟨hrun, hended, _, _, rfl, ?_, ⟨_, rfl⟩, hW, hsame.mono (by decide) (by decide)⟩⟩
        show own_Q_own_exp Z p1 q2 q3 h0 n0 _ s₁.heap _
        rw [e0]
        exact ⟨by rw [own_idx_top hpos hqv hlt], N0, rfl⟩
  · refine own_go (A' := (s₁.setTop (mkF m 6 #[.val (.int p1), .val (.long q2), .second, .val (.long q3), .second, .unset, .unset] []))) (fun _ k => XS.ifNo X0.here hx rfl (hb hby own_d4_3) rfl ((if0 _ _).trans (flt hc1).2.2.1) k) ?_
    refine own_go (A' := (s₁.setTop (mkF m 7 #[.val (.int p1), .val (.long q2), .second, .val (.long q3), .second, .unset, .unset] [(.int (0 : Int32))]))) (fun _ k => XS.iconst X0.here hx rfl (hb hby own_d4_6) k) ?_
    obtain ⟨fs, hr, hrun, hended, hW, hsame⟩ := X0.leave (v := some (.int (0 : Int32))) (fun h => by rw [Bd.returns] at h; cases h)
    refine ⟨_, _, retI X0 hx Bd.returns (hb hby own_d4_7) hr, hR _ _ ⟨hrun, hended, _, _, rfl, ?_, ⟨_, rfl⟩, hW, hsame.mono (by decide) (by decide)⟩⟩
    show own_Q_own_exp Z p1 q2 q3 h0 n0 _ s₁.heap _
    rw [e0]
    exact ⟨by unfold own_idxV; rw [if_pos (by
      by_cases q : q3.toInt ≤ 0
      · exact q
      · exact absurd (q1.mpr (Int64.lt_iff_toInt_lt.mpr (by show (0 : Int) < q3.toInt; omega))) hc1)], N0, rfl⟩
theorem own_ef_own_rm0 (m : MethodId) (p1 : Int32) (p2 : Int32) (p3 : Int32) (p4 : Int32) (p5 : Int32) : entryFrame m #[(.int p1), (.int p2), (.int p3), (.int p4), (.int p5)] maxLocals = mkF m 0 #[.val (.int p1), .val (.int p2), .val (.int p3), .val (.int p4), .val (.int p5), .unset, .unset, .unset, .unset, .unset, .unset, .unset, .unset, .unset, .unset, .unset, .unset, .unset] [] := by first | (simp [entryFrame, mkF, argsToLocals, Value.category, maxLocals]; done) | rfl
def own_Q_own_rm0 (Z : State) (p1 : Int32) (p2 : Int32) (p3 : Int32) (p4 : Int32) (p5 : Int32) (h0 : Heap) (n0 : Nat) (v : Option Value) (h : Heap) (L : List Loc) : Prop := v = some (.int 1) ∧ Fr n0 L
set_option maxRecDepth 65536 in
set_option maxHeartbeats 40000000 in
theorem own_rm0 (l : Launch) (Z : State) (a0 : Array Value) (hw : ∀ d ∈ tables_1, d.before a0 Z = true) (ws : List Jvm.Cond) (p1 : Int32) (p2 : Int32) (p3 : Int32) (p4 : Int32) (p5 : Int32) (h0 : Heap) (n0 : Nat) (Z0 : n0 ≤ h0.size)  :
    MetFree l x (head1 (Jvm.Cond.code x code maxLocals ret :: ws) room_1) (fun a U => a = #[(.int p1), (.int p2), (.int p3), (.int p4), (.int p5)] ∧ Z.Warmed39 U.vm ∧ U.heap = h0) (fun _ _ _ _ _ => True) (fun _ U o U' => ∃ v L, o = .returned v ∧ own_Q_own_rm0 Z p1 p2 p3 p4 p5 h0 n0 v U'.heap L ∧ FrameEnd U o U' L room_1.cells room_1.slots) := by
  refine MetFree.of_bodySF (plainFor_of_name own_pn0) hisR ?_
  intro p e s m args below meth c s₁ Bd hml0 hP hK
  obtain ⟨rfl, hZ, hh⟩ := hP
  have hx := Bd.exec
  have hby := Bd.bytes
  have hml : c.maxLocals = 18 := hml0
  have hown : s.vm.findClass "com/example/tilesweep/tilesweep/EqualIntervalsIndexPinLaw" = some m.cls := findClass_of_methodNamed Bd.named
  have hnm := (name_of_methodNamed Bd.named Bd.method).1
  have X0 : Stand p l e room_1 s m #[(.int p1), (.int p2), (.int p3), (.int p4), (.int p5)] below meth c s₁ [] 0 0 := Stand.of_body Bd
  have e0 : s₁.heap = h0 := by rw [← hh, Bd.state]; rfl
  have N0 := Fr.nil n0
  refine own_open ?_
  intro R hR
  rw [own_ef_own_rm0 m p1 p2 p3 p4 p5]
  show own_W p e below R (s₁.setTop (mkF m 0 #[.val (.int p1), .val (.int p2), .val (.int p3), .val (.int p4), .val (.int p5), .unset, .unset, .unset, .unset, .unset, .unset, .unset, .unset, .unset, .unset, .unset, .unset, .unset] []))
  have J67 : ∀ (cnt : Int32) (s_ lo hi sp off : Int64), 1 ≤ cnt.toInt → cnt.toInt ≤ 256 → 0 ≤ s_.toInt → s_.toInt ≤ 65535 → lo.toInt = cnt.toInt * p3.toInt → hi.toInt = cnt.toInt * (p3.toInt + s_.toInt) → -2147483648 ≤ off.toInt → off.toInt < 2147483648 → own_W p e below R (s₁.setTop (mkF m 67 #[.val (.int p1), .val (.int p2), .val (.int p3), .val (.int p4), .val (.int p5), .val (.int cnt), .val (.long s_), .second, .val (.long lo), .second, .val (.long hi), .second, .val (.long sp), .second, .unset, .unset, .unset, .unset] [(.long off)])) := by
    intro cnt s_ lo hi sp off c1 c2 s0 s1 hlo hhi o1 o2
    have t1 := own_i32_lo p3
    have t2 := own_i32_hi p3
    have m1 := own_mulbd (x := p3.toInt) (B := 2147483648) c1 c2 (by omega) (by omega) (by omega)
    have m2 := own_mulbd (x := p3.toInt + s_.toInt) (B := 2147549183) c1 c2 (by omega) (by omega) (by omega)
    have AL : own_At 1074 (FP.l2d lo) (cnt.toInt * p3.toInt) := (own_l2d lo (by rw [hlo]; omega)).cast hlo
    have AH : own_At 1074 (FP.l2d hi) (cnt.toInt * (p3.toInt + s_.toInt)) := (own_l2d hi (by rw [hhi]; omega)).cast hhi
    have hsum : (lo + off).toInt = cnt.toInt * p3.toInt + off.toInt := own_add64 hlo rfl (by omega) (by omega)
    have AV : own_At 1074 (FP.l2d (lo + off)) (cnt.toInt * p3.toInt + off.toInt) := (own_l2d (lo + off) (by rw [hsum]; omega)).cast hsum
    have DH := own_divAt (i := 1074) (c := p3.toInt + s_.toInt) AH (own_i2d cnt) (by omega) (by decide) rfl (by omega) (Int.mul_comm _ _)
    have DL := own_divAt (i := 1074) (c := p3.toInt) AL (own_i2d cnt) (by omega) (by decide) rfl (by omega) (Int.mul_comm _ _)
    have DS := (own_subAt DH DL (by decide) (by omega)).cast (n' := s_.toInt) (by omega)
    have hz : s_.toInt = 0 → FP.dsub (FP.ddiv (FP.l2d hi) (FP.i2d cnt)) (FP.ddiv (FP.l2d lo) (FP.i2d cnt)) = 0 := by
      intro q
      have : hi = lo := Int64.toInt_inj.mp (by rw [hhi, hlo, q, Int.add_zero])
      rw [this]; exact own_step0 DL
    have hc1 : ¬ cnt < (1 : Int32) := by rw [Int32.lt_iff_toInt_lt]; show ¬ cnt.toInt < 1; omega
    refine own_go (A' := (s₁.setTop (mkF m 69 #[.val (.int p1), .val (.int p2), .val (.int p3), .val (.int p4), .val (.int p5), .val (.int cnt), .val (.long s_), .second, .val (.long lo), .second, .val (.long hi), .second, .val (.long sp), .second, .val (.long off), .second, .unset, .unset] []))) (fun _ k => XS.lstore X0.here hx rfl (hb hby at_67) rfl (l' := #[.val (.int p1), .val (.int p2), .val (.int p3), .val (.int p4), .val (.int p5), .val (.int cnt), .val (.long s_), .second, .val (.long lo), .second, .val (.long hi), .second, .val (.long sp), .second, .val (.long off), .second, .unset, .unset]) rfl k) ?_
    obtain ⟨T1, h1, X1, e1, E1, A1, D1, -, st1⟩ := newO X0 hx hZ hown (hw _ (List.mem_of_getElem? (i := 3) rfl)) (hw _ (List.mem_of_getElem? (i := 4) rfl)) (hw _ (List.mem_of_getElem? (i := 5) rfl)) e0 (g := (mkF m 69 #[.val (.int p1), .val (.int p2), .val (.int p3), .val (.int p4), .val (.int p5), .val (.int cnt), .val (.long s_), .second, .val (.long lo), .second, .val (.long hi), .second, .val (.long sp), .second, .val (.long off), .second, .unset, .unset] [])) rfl (hb hby at_69) (by decide) (by decide)
    obtain ⟨b1, g1⟩ : ∃ z, z = h0.size := ⟨_, rfl⟩
    rw [← g1] at A1 D1 st1
    refine own_go (A' := (T1.setTop (mkF m 72 #[.val (.int p1), .val (.int p2), .val (.int p3), .val (.int p4), .val (.int p5), .val (.int cnt), .val (.long s_), .second, .val (.long lo), .second, .val (.long hi), .second, .val (.long sp), .second, .val (.long off), .second, .unset, .unset] [(.ref b1)]))) (fun _ k => st1 _ k) ?_
    have F1_count : Fld Z h1 b1 "com/example/tilesweep/tilesweep/EqualIntervals" "count" "I" (.int (0 : Int32)) := D1 (Or.inr (hw _ (List.mem_of_getElem? (i := 13) rfl))) (ty := .int) (by decide)
    have g_b1 : n0 ≤ b1 := by rw [g1]; exact Z0
    have Zn1 : n0 ≤ h1.size := Nat.le_trans Z0 E1.1
    refine own_go (A' := (T1.setTop (mkF m 73 #[.val (.int p1), .val (.int p2), .val (.int p3), .val (.int p4), .val (.int p5), .val (.int cnt), .val (.long s_), .second, .val (.long lo), .second, .val (.long hi), .second, .val (.long sp), .second, .val (.long off), .second, .unset, .unset] [(.ref b1), (.ref b1)]))) (fun _ k => XS.dup X1.here hx rfl (hb hby at_72) rfl rfl k) ?_
    refine own_go (A' := (T1.setTop (mkF m 75 #[.val (.int p1), .val (.int p2), .val (.int p3), .val (.int p4), .val (.int p5), .val (.int cnt), .val (.long s_), .second, .val (.long lo), .second, .val (.long hi), .second, .val (.long sp), .second, .val (.long off), .second, .unset, .unset] [(.int cnt), (.ref b1), (.ref b1)]))) (fun _ k => XS.iload X1.here hx rfl (hb hby at_73) rfl k) ?_
    refine own_go (A' := (T1.setTop (mkF m 77 #[.val (.int p1), .val (.int p2), .val (.int p3), .val (.int p4), .val (.int p5), .val (.int cnt), .val (.long s_), .second, .val (.long lo), .second, .val (.long hi), .second, .val (.long sp), .second, .val (.long off), .second, .unset, .unset] [(.long lo), (.int cnt), (.ref b1), (.ref b1)]))) (fun _ k => XS.lload X1.here hx rfl (hb hby at_75) rfl k) ?_
    refine own_go (A' := (T1.setTop (mkF m 78 #[.val (.int p1), .val (.int p2), .val (.int p3), .val (.int p4), .val (.int p5), .val (.int cnt), .val (.long s_), .second, .val (.long lo), .second, .val (.long hi), .second, .val (.long sp), .second, .val (.long off), .second, .unset, .unset] [(.double (FP.l2d lo)), (.int cnt), (.ref b1), (.ref b1)]))) (fun _ k => XS.l2dS X1.here hx rfl (hb hby at_77) rfl rfl k) ?_
    refine own_go (A' := (T1.setTop (mkF m 80 #[.val (.int p1), .val (.int p2), .val (.int p3), .val (.int p4), .val (.int p5), .val (.int cnt), .val (.long s_), .second, .val (.long lo), .second, .val (.long hi), .second, .val (.long sp), .second, .val (.long off), .second, .unset, .unset] [(.long hi), (.double (FP.l2d lo)), (.int cnt), (.ref b1), (.ref b1)]))) (fun _ k => XS.lload X1.here hx rfl (hb hby at_78) rfl k) ?_
    refine own_go (A' := (T1.setTop (mkF m 81 #[.val (.int p1), .val (.int p2), .val (.int p3), .val (.int p4), .val (.int p5), .val (.int cnt), .val (.long s_), .second, .val (.long lo), .second, .val (.long hi), .second, .val (.long sp), .second, .val (.long off), .second, .unset, .unset] [(.double (FP.l2d hi)), (.double (FP.l2d lo)), (.int cnt), (.ref b1), (.ref b1)]))) (fun _ k => XS.l2dS X1.here hx rfl (hb hby at_80) rfl rfl k) ?_
    obtain ⟨_, _, ⟨T2, L2, k2, n2⟩, -, X2, ⟨Lc2, hQ2, l2, y2, z2⟩, st2⟩ := X1.specialBack hx (y := (⟨"com/example/tilesweep/tilesweep/EqualIntervals", "<init>", "(IDD)V"⟩ : MethodName)) rfl hown (mvT hZ (hw _ (List.mem_of_getElem? (i := 6) rfl))) (mvT hZ (hw _ (List.mem_of_getElem? (i := 7) rfl))) (mvT hZ (hw _ (List.mem_of_getElem? (i := 8) rfl))) (by decide) (backOf (W := 1) (own_init l Z a0 hw [] b1 cnt (FP.l2d lo) (FP.l2d hi) _ _ h1 n0 Zn1 hc1 DH.nn DL.nn DS.nn rfl A1 F1_count g_b1) hZ (hw _ (List.mem_of_getElem? (i := 8) rfl)) (hw _ (List.mem_of_getElem? (i := 5) rfl)) (by decide) (by decide)) (g := (mkF m 81 #[.val (.int p1), .val (.int p2), .val (.int p3), .val (.int p4), .val (.int p5), .val (.int cnt), .val (.long s_), .second, .val (.long lo), .second, .val (.long hi), .second, .val (.long sp), .second, .val (.long off), .second, .unset, .unset] [(.double (FP.l2d hi)), (.double (FP.l2d lo)), (.int cnt), (.ref b1), (.ref b1)])) rfl (by rw [hml]; rfl) (Steps.refl _) (a := b1) (argsL := [(.int cnt), (.double (FP.l2d lo)), (.double (FP.l2d hi))]) (rest := [(.ref b1)]) (lenOf own_pd0 rfl) rfl (by show 2 * 0 + _ ≤ _; exact Nat.le_of_eq rfl) (hb hby at_81) (fun _ _ => ⟨rfl, e1, (by decide : 1 + 0 ≤ _), (by decide : 3 + 0 ≤ _)⟩)
    dsimp only [Pt.U, Pt.locs, Pt.cells, Pt.slots] at X2 l2 y2 z2 st2 hQ2
    subst l2 y2 z2
    obtain ⟨rfl, N2q, K2, Ea, Fa1, Fa2, Fa3⟩ := hQ2
    have N2 := Fr.app N0 N2q
    refine own_go (A' := (T2.setTop (mkF m 84 #[.val (.int p1), .val (.int p2), .val (.int p3), .val (.int p4), .val (.int p5), .val (.int cnt), .val (.long s_), .second, .val (.long lo), .second, .val (.long hi), .second, .val (.long sp), .second, .val (.long off), .second, .unset, .unset] [(.ref b1)]))) (fun _ k => st2.trans k) ?_
    have Zn2 : n0 ≤ T2.heap.size := Nat.le_trans Zn1 K2.1
    have eo : cnt.toInt * p3.toInt + off.toInt - cnt.toInt * p3.toInt = off.toInt := by omega
    refine own_go (A' := (T2.setTop (mkF m 86 #[.val (.int p1), .val (.int p2), .val (.int p3), .val (.int p4), .val (.int p5), .val (.int cnt), .val (.long s_), .second, .val (.long lo), .second, .val (.long hi), .second, .val (.long sp), .second, .val (.long off), .second, .val (.ref b1), .unset] []))) (fun _ k => XS.astore X2.here hx rfl (hb hby at_84) rfl rfl (l' := #[.val (.int p1), .val (.int p2), .val (.int p3), .val (.int p4), .val (.int p5), .val (.int cnt), .val (.long s_), .second, .val (.long lo), .second, .val (.long hi), .second, .val (.long sp), .second, .val (.long off), .second, .val (.ref b1), .unset]) rfl k) ?_
    refine own_go (A' := (T2.setTop (mkF m 88 #[.val (.int p1), .val (.int p2), .val (.int p3), .val (.int p4), .val (.int p5), .val (.int cnt), .val (.long s_), .second, .val (.long lo), .second, .val (.long hi), .second, .val (.long sp), .second, .val (.long off), .second, .val (.ref b1), .unset] [(.ref b1)]))) (fun _ k => XS.aload X2.here hx rfl (hb hby at_86) rfl rfl k) ?_
    refine own_go (A' := (T2.setTop (mkF m 90 #[.val (.int p1), .val (.int p2), .val (.int p3), .val (.int p4), .val (.int p5), .val (.int cnt), .val (.long s_), .second, .val (.long lo), .second, .val (.long hi), .second, .val (.long sp), .second, .val (.long off), .second, .val (.ref b1), .unset] [(.long lo), (.ref b1)]))) (fun _ k => XS.lload X2.here hx rfl (hb hby at_88) rfl k) ?_
    refine own_go (A' := (T2.setTop (mkF m 92 #[.val (.int p1), .val (.int p2), .val (.int p3), .val (.int p4), .val (.int p5), .val (.int cnt), .val (.long s_), .second, .val (.long lo), .second, .val (.long hi), .second, .val (.long sp), .second, .val (.long off), .second, .val (.ref b1), .unset] [(.long off), (.long lo), (.ref b1)]))) (fun _ k => XS.lload X2.here hx rfl (hb hby at_90) rfl k) ?_
    refine own_go (A' := (T2.setTop (mkF m 93 #[.val (.int p1), .val (.int p2), .val (.int p3), .val (.int p4), .val (.int p5), .val (.int cnt), .val (.long s_), .second, .val (.long lo), .second, .val (.long hi), .second, .val (.long sp), .second, .val (.long off), .second, .val (.ref b1), .unset] [(.long (lo + off)), (.ref b1)]))) (fun _ k => XS.ladd X2.here hx rfl (hb hby at_92) rfl k) ?_
    refine own_go (A' := (T2.setTop (mkF m 94 #[.val (.int p1), .val (.int p2), .val (.int p3), .val (.int p4), .val (.int p5), .val (.int cnt), .val (.long s_), .second, .val (.long lo), .second, .val (.long hi), .second, .val (.long sp), .second, .val (.long off), .second, .val (.ref b1), .unset] [(.double (FP.l2d (lo + off))), (.ref b1)]))) (fun _ k => XS.l2dS X2.here hx rfl (hb hby at_93) rfl rfl k) ?_
    obtain ⟨cq3, kq3, q3a, q3b, q3c⟩ := isOf hZ rfl Ea
    obtain ⟨_, _, ⟨T3, L3, k3, n3⟩, -, X3, ⟨Lc3, hQ3, l3, y3, z3⟩, st3⟩ := X2.virtualBack hx (y := (⟨"com/example/tilesweep/tilesweep/EqualIntervals", "index", "(D)I"⟩ : MethodName)) (z := (⟨"com/example/tilesweep/tilesweep/EqualIntervals", "index", "(D)I"⟩ : MethodName)) hown (mvT hZ (hw _ (List.mem_of_getElem? (i := 18) rfl))) (mvT hZ (hw _ (List.mem_of_getElem? (i := 19) rfl))) (notFace_of_selects (args := #[]) (mvT hZ (hw _ (List.mem_of_getElem? (i := 21) rfl)))) (mvT hZ (hw _ (List.mem_of_getElem? (i := 21) rfl))) (mvT hZ (hw _ (List.mem_of_getElem? (i := 20) rfl))) (by decide) (backOf (W := 0) (own_index l Z a0 hw [] b1 (FP.l2d (lo + off)) cnt (FP.l2d lo) _ _ _ _ T2.heap n0 Zn2 AV AL DS hz (by omega) s0 s1 c2 Fa1 Fa2 Fa3) hZ (hw _ (List.mem_of_getElem? (i := 22) rfl)) (hw _ (List.mem_of_getElem? (i := 5) rfl)) (by decide) (by decide)) q3a q3c (g := (mkF m 94 #[.val (.int p1), .val (.int p2), .val (.int p3), .val (.int p4), .val (.int p5), .val (.int cnt), .val (.long s_), .second, .val (.long lo), .second, .val (.long hi), .second, .val (.long sp), .second, .val (.long off), .second, .val (.ref b1), .unset] [(.double (FP.l2d (lo + off))), (.ref b1)])) rfl (by rw [hml]; rfl) (Steps.refl _) (argsL := [(.double (FP.l2d (lo + off)))]) (rest := []) (lenOf own_pd1 rfl) rfl (by show 2 * 0 + _ ≤ _; exact Nat.le_of_eq rfl) (hb hby at_94) (fun _ _ => ⟨rfl, rfl, (by decide : 1 + 0 ≤ _), (by decide : 3 + 0 ≤ _)⟩)
    dsimp only [Pt.U, Pt.locs, Pt.cells, Pt.slots] at X3 l3 y3 z3 st3 hQ3
    subst l3 y3 z3
    obtain ⟨rfl, N3q, hh3⟩ := hQ3
    have N3 := Fr.app N2 N3q
    refine own_go (A' := (T3.setTop (mkF m 97 #[.val (.int p1), .val (.int p2), .val (.int p3), .val (.int p4), .val (.int p5), .val (.int cnt), .val (.long s_), .second, .val (.long lo), .second, .val (.long hi), .second, .val (.long sp), .second, .val (.long off), .second, .val (.ref b1), .unset] [(.int (own_idxV cnt (cnt.toInt * p3.toInt + off.toInt - cnt.toInt * p3.toInt) s_.toInt))]))) (fun _ k => st3.trans k) ?_
    refine own_go (A' := (T3.setTop (mkF m 99 #[.val (.int p1), .val (.int p2), .val (.int p3), .val (.int p4), .val (.int p5), .val (.int cnt), .val (.long s_), .second, .val (.long lo), .second, .val (.long hi), .second, .val (.long sp), .second, .val (.long off), .second, .val (.ref b1), .val (.int (own_idxV cnt (cnt.toInt * p3.toInt + off.toInt - cnt.toInt * p3.toInt) s_.toInt))] []))) (fun _ k => XS.istore X3.here hx rfl (hb hby at_97) rfl (l' := #[.val (.int p1), .val (.int p2), .val (.int p3), .val (.int p4), .val (.int p5), .val (.int cnt), .val (.long s_), .second, .val (.long lo), .second, .val (.long hi), .second, .val (.long sp), .second, .val (.long off), .second, .val (.ref b1), .val (.int (own_idxV cnt (cnt.toInt * p3.toInt + off.toInt - cnt.toInt * p3.toInt) s_.toInt))]) rfl k) ?_
    refine own_go (A' := (T3.setTop (mkF m 101 #[.val (.int p1), .val (.int p2), .val (.int p3), .val (.int p4), .val (.int p5), .val (.int cnt), .val (.long s_), .second, .val (.long lo), .second, .val (.long hi), .second, .val (.long sp), .second, .val (.long off), .second, .val (.ref b1), .val (.int (own_idxV cnt (cnt.toInt * p3.toInt + off.toInt - cnt.toInt * p3.toInt) s_.toInt))] [(.int (own_idxV cnt (cnt.toInt * p3.toInt + off.toInt - cnt.toInt * p3.toInt) s_.toInt))]))) (fun _ k => XS.iload X3.here hx rfl (hb hby at_99) rfl k) ?_
    refine own_go (A' := (T3.setTop (mkF m 103 #[.val (.int p1), .val (.int p2), .val (.int p3), .val (.int p4), .val (.int p5), .val (.int cnt), .val (.long s_), .second, .val (.long lo), .second, .val (.long hi), .second, .val (.long sp), .second, .val (.long off), .second, .val (.ref b1), .val (.int (own_idxV cnt (cnt.toInt * p3.toInt + off.toInt - cnt.toInt * p3.toInt) s_.toInt))] [(.int cnt), (.int (own_idxV cnt (cnt.toInt * p3.toInt + off.toInt - cnt.toInt * p3.toInt) s_.toInt))]))) (fun _ k => XS.iload X3.here hx rfl (hb hby at_101) rfl k) ?_
    refine own_go (A' := (T3.setTop (mkF m 105 #[.val (.int p1), .val (.int p2), .val (.int p3), .val (.int p4), .val (.int p5), .val (.int cnt), .val (.long s_), .second, .val (.long lo), .second, .val (.long hi), .second, .val (.long sp), .second, .val (.long off), .second, .val (.ref b1), .val (.int (own_idxV cnt (cnt.toInt * p3.toInt + off.toInt - cnt.toInt * p3.toInt) s_.toInt))] [(.long s_), (.int cnt), (.int (own_idxV cnt (cnt.toInt * p3.toInt + off.toInt - cnt.toInt * p3.toInt) s_.toInt))]))) (fun _ k => XS.lload X3.here hx rfl (hb hby at_103) rfl k) ?_
    refine own_go (A' := (T3.setTop (mkF m 107 #[.val (.int p1), .val (.int p2), .val (.int p3), .val (.int p4), .val (.int p5), .val (.int cnt), .val (.long s_), .second, .val (.long lo), .second, .val (.long hi), .second, .val (.long sp), .second, .val (.long off), .second, .val (.ref b1), .val (.int (own_idxV cnt (cnt.toInt * p3.toInt + off.toInt - cnt.toInt * p3.toInt) s_.toInt))] [(.long off), (.long s_), (.int cnt), (.int (own_idxV cnt (cnt.toInt * p3.toInt + off.toInt - cnt.toInt * p3.toInt) s_.toInt))]))) (fun _ k => XS.lload X3.here hx rfl (hb hby at_105) rfl k) ?_
    obtain ⟨_, _, ⟨T4, L4, k4, n4⟩, -, X4, ⟨Lc4, hQ4, l4, y4, z4⟩, st4⟩ := Jvm.LawKit.callS X3 hx (y := (⟨"com/example/tilesweep/tilesweep/EqualIntervalsIndexPinLaw", "expected", "(IJJ)I"⟩ : MethodName)) hown (mvT hZ (hw _ (List.mem_of_getElem? (i := 23) rfl))) (mvT hZ (hw _ (List.mem_of_getElem? (i := 24) rfl))) (mvT hZ (hw _ (List.mem_of_getElem? (i := 25) rfl))) (mvT hZ (hw _ (List.mem_of_getElem? (i := 26) rfl))) (by decide) (backOf (W := 1) (own_exp l Z a0 hw [] cnt s_ off T2.heap n0 Zn2 s0 o2 c2) hZ (hw _ (List.mem_of_getElem? (i := 26) rfl)) (hw _ (List.mem_of_getElem? (i := 25) rfl)) (by decide) (by decide)) (g := (mkF m 107 #[.val (.int p1), .val (.int p2), .val (.int p3), .val (.int p4), .val (.int p5), .val (.int cnt), .val (.long s_), .second, .val (.long lo), .second, .val (.long hi), .second, .val (.long sp), .second, .val (.long off), .second, .val (.ref b1), .val (.int (own_idxV cnt (cnt.toInt * p3.toInt + off.toInt - cnt.toInt * p3.toInt) s_.toInt))] [(.long off), (.long s_), (.int cnt), (.int (own_idxV cnt (cnt.toInt * p3.toInt + off.toInt - cnt.toInt * p3.toInt) s_.toInt))])) rfl (by rw [hml]; rfl) (argsL := [(.int cnt), (.long s_), (.long off)]) (rest := [(.int (own_idxV cnt (cnt.toInt * p3.toInt + off.toInt - cnt.toInt * p3.toInt) s_.toInt))]) (lenOf own_pd2 rfl) rfl (by show 2 * 0 + _ ≤ _; exact Nat.le_of_eq rfl) (hb hby at_107) (fun _ _ => ⟨rfl, hh3, (by decide : 1 + 0 ≤ _), (by decide : 3 + 0 ≤ _)⟩)
    dsimp only [Pt.U, Pt.locs, Pt.cells, Pt.slots] at X4 l4 y4 z4 st4 hQ4
    subst l4 y4 z4
    obtain ⟨rfl, N4q, hh4⟩ := hQ4
    have N4 := Fr.app N3 N4q
    refine own_go (A' := (T4.setTop (mkF m 110 #[.val (.int p1), .val (.int p2), .val (.int p3), .val (.int p4), .val (.int p5), .val (.int cnt), .val (.long s_), .second, .val (.long lo), .second, .val (.long hi), .second, .val (.long sp), .second, .val (.long off), .second, .val (.ref b1), .val (.int (own_idxV cnt (cnt.toInt * p3.toInt + off.toInt - cnt.toInt * p3.toInt) s_.toInt))] [(.int (own_idxV cnt off.toInt s_.toInt)), (.int (own_idxV cnt (cnt.toInt * p3.toInt + off.toInt - cnt.toInt * p3.toInt) s_.toInt))]))) (fun _ k => st4 _ k) ?_
    refine own_go (A' := (T4.setTop (mkF m 113 #[.val (.int p1), .val (.int p2), .val (.int p3), .val (.int p4), .val (.int p5), .val (.int cnt), .val (.long s_), .second, .val (.long lo), .second, .val (.long hi), .second, .val (.long sp), .second, .val (.long off), .second, .val (.ref b1), .val (.int (own_idxV cnt (cnt.toInt * p3.toInt + off.toInt - cnt.toInt * p3.toInt) s_.toInt))] []))) (fun _ k => XS.icmpNo X4.here hx rfl (hb hby at_110) rfl (teq (congrArg (fun z => own_idxV cnt z s_.toInt) eo)).2 k) ?_
    refine own_go (A' := (T4.setTop (mkF m 114 #[.val (.int p1), .val (.int p2), .val (.int p3), .val (.int p4), .val (.int p5), .val (.int cnt), .val (.long s_), .second, .val (.long lo), .second, .val (.long hi), .second, .val (.long sp), .second, .val (.long off), .second, .val (.ref b1), .val (.int (own_idxV cnt (cnt.toInt * p3.toInt + off.toInt - cnt.toInt * p3.toInt) s_.toInt))] [(.int (1 : Int32))]))) (fun _ k => XS.iconst X4.here hx rfl (hb hby at_113) k) ?_
    refine own_go (A' := (T4.setTop (mkF m 118 #[.val (.int p1), .val (.int p2), .val (.int p3), .val (.int p4), .val (.int p5), .val (.int cnt), .val (.long s_), .second, .val (.long lo), .second, .val (.long hi), .second, .val (.long sp), .second, .val (.long off), .second, .val (.ref b1), .val (.int (own_idxV cnt (cnt.toInt * p3.toInt + off.toInt - cnt.toInt * p3.toInt) s_.toInt))] [(.int (1 : Int32))]))) (fun _ k => XS.goto X4.here hx rfl (pc0 := 114) (pc' := 118) rfl (hb hby at_114) (by decide) (by decide) k) ?_
    obtain ⟨fs, hr, hrun, hended, hW, hsame⟩ := X4.leave (v := some (.int (1 : Int32))) (fun h => by rw [Bd.returns] at h; cases h)
    refine ⟨_, _, retN X4 hx (t := .boolean) Bd.returns (by simp) (hb hby at_118) hr, hR _ _ ⟨hrun, hended, _, _, rfl, ?_, ⟨_, rfl⟩, hW, hsame.mono (by decide) (by decide)⟩⟩
    show own_Q_own_rm0 Z p1 p2 p3 p4 p5 h0 n0 _ T4.heap _
    rw [hh4]
    exact ⟨rfl, N4⟩
  refine own_go (A' := (s₁.setTop (mkF m 1 #[.val (.int p1), .val (.int p2), .val (.int p3), .val (.int p4), .val (.int p5), .unset, .unset, .unset, .unset, .unset, .unset, .unset, .unset, .unset, .unset, .unset, .unset, .unset] [(.int (1 : Int32))]))) (fun _ k => XS.iconst X0.here hx rfl (hb hby at_0) k) ?_
  refine own_go (A' := (s₁.setTop (mkF m 2 #[.val (.int p1), .val (.int p2), .val (.int p3), .val (.int p4), .val (.int p5), .unset, .unset, .unset, .unset, .unset, .unset, .unset, .unset, .unset, .unset, .unset, .unset, .unset] [(.int p1), (.int (1 : Int32))]))) (fun _ k => XS.iloadN X0.here hx rfl (hb hby at_1) rfl k) ?_
  refine own_go (A' := (s₁.setTop (mkF m 5 #[.val (.int p1), .val (.int p2), .val (.int p3), .val (.int p4), .val (.int p5), .unset, .unset, .unset, .unset, .unset, .unset, .unset, .unset, .unset, .unset, .unset, .unset, .unset] [(.int (255 : Int32)), (.int p1), (.int (1 : Int32))]))) (fun _ k => XS.sipush X0.here hx rfl (hb hby at_2) k) ?_
  refine own_go (A' := (s₁.setTop (mkF m 6 #[.val (.int p1), .val (.int p2), .val (.int p3), .val (.int p4), .val (.int p5), .unset, .unset, .unset, .unset, .unset, .unset, .unset, .unset, .unset, .unset, .unset, .unset, .unset] [(.int (p1 &&& (255 : Int32))), (.int (1 : Int32))]))) (fun _ k => XS.iand X0.here hx rfl (hb hby at_5) rfl k) ?_
  refine own_go (A' := (s₁.setTop (mkF m 7 #[.val (.int p1), .val (.int p2), .val (.int p3), .val (.int p4), .val (.int p5), .unset, .unset, .unset, .unset, .unset, .unset, .unset, .unset, .unset, .unset, .unset, .unset, .unset] [(.int ((1 : Int32) + (p1 &&& (255 : Int32))))]))) (fun _ k => XS.iadd X0.here hx rfl (hb hby at_6) rfl k) ?_
  refine own_go (A' := (s₁.setTop (mkF m 9 #[.val (.int p1), .val (.int p2), .val (.int p3), .val (.int p4), .val (.int p5), .val (.int ((1 : Int32) + (p1 &&& (255 : Int32)))), .unset, .unset, .unset, .unset, .unset, .unset, .unset, .unset, .unset, .unset, .unset, .unset] []))) (fun _ k => XS.istore X0.here hx rfl (hb hby at_7) rfl (l' := #[.val (.int p1), .val (.int p2), .val (.int p3), .val (.int p4), .val (.int p5), .val (.int ((1 : Int32) + (p1 &&& (255 : Int32)))), .unset, .unset, .unset, .unset, .unset, .unset, .unset, .unset, .unset, .unset, .unset, .unset]) rfl k) ?_
  refine own_go (A' := (s₁.setTop (mkF m 10 #[.val (.int p1), .val (.int p2), .val (.int p3), .val (.int p4), .val (.int p5), .val (.int ((1 : Int32) + (p1 &&& (255 : Int32)))), .unset, .unset, .unset, .unset, .unset, .unset, .unset, .unset, .unset, .unset, .unset, .unset] [(.int p2)]))) (fun _ k => XS.iloadN X0.here hx rfl (hb hby at_9) rfl k) ?_
  refine own_go (A' := (s₁.setTop (mkF m 12 #[.val (.int p1), .val (.int p2), .val (.int p3), .val (.int p4), .val (.int p5), .val (.int ((1 : Int32) + (p1 &&& (255 : Int32)))), .unset, .unset, .unset, .unset, .unset, .unset, .unset, .unset, .unset, .unset, .unset, .unset] [(.int (65535 : Int32)), (.int p2)]))) (fun _ k => X0.ldcInt hx hown (mvT hZ (hw _ (List.mem_of_getElem? (i := 0) rfl))) (g := (mkF m 10 #[.val (.int p1), .val (.int p2), .val (.int p3), .val (.int p4), .val (.int p5), .val (.int ((1 : Int32) + (p1 &&& (255 : Int32)))), .unset, .unset, .unset, .unset, .unset, .unset, .unset, .unset, .unset, .unset, .unset, .unset] [(.int p2)])) rfl (hb hby at_10) _ k) ?_
  refine own_go (A' := (s₁.setTop (mkF m 13 #[.val (.int p1), .val (.int p2), .val (.int p3), .val (.int p4), .val (.int p5), .val (.int ((1 : Int32) + (p1 &&& (255 : Int32)))), .unset, .unset, .unset, .unset, .unset, .unset, .unset, .unset, .unset, .unset, .unset, .unset] [(.int (p2 &&& (65535 : Int32)))]))) (fun _ k => XS.iand X0.here hx rfl (hb hby at_12) rfl k) ?_
  refine own_go (A' := (s₁.setTop (mkF m 14 #[.val (.int p1), .val (.int p2), .val (.int p3), .val (.int p4), .val (.int p5), .val (.int ((1 : Int32) + (p1 &&& (255 : Int32)))), .unset, .unset, .unset, .unset, .unset, .unset, .unset, .unset, .unset, .unset, .unset, .unset] [(.long ((p2 &&& (65535 : Int32)).toInt64))]))) (fun _ k => XS.i2l X0.here hx rfl (hb hby at_13) rfl k) ?_
  refine own_go (A' := (s₁.setTop (mkF m 16 #[.val (.int p1), .val (.int p2), .val (.int p3), .val (.int p4), .val (.int p5), .val (.int ((1 : Int32) + (p1 &&& (255 : Int32)))), .val (.long ((p2 &&& (65535 : Int32)).toInt64)), .second, .unset, .unset, .unset, .unset, .unset, .unset, .unset, .unset, .unset, .unset] []))) (fun _ k => XS.lstore X0.here hx rfl (hb hby at_14) rfl (l' := #[.val (.int p1), .val (.int p2), .val (.int p3), .val (.int p4), .val (.int p5), .val (.int ((1 : Int32) + (p1 &&& (255 : Int32)))), .val (.long ((p2 &&& (65535 : Int32)).toInt64)), .second, .unset, .unset, .unset, .unset, .unset, .unset, .unset, .unset, .unset, .unset]) rfl k) ?_
  refine own_go (A' := (s₁.setTop (mkF m 18 #[.val (.int p1), .val (.int p2), .val (.int p3), .val (.int p4), .val (.int p5), .val (.int ((1 : Int32) + (p1 &&& (255 : Int32)))), .val (.long ((p2 &&& (65535 : Int32)).toInt64)), .second, .unset, .unset, .unset, .unset, .unset, .unset, .unset, .unset, .unset, .unset] [(.int ((1 : Int32) + (p1 &&& (255 : Int32))))]))) (fun _ k => XS.iload X0.here hx rfl (hb hby at_16) rfl k) ?_
  refine own_go (A' := (s₁.setTop (mkF m 19 #[.val (.int p1), .val (.int p2), .val (.int p3), .val (.int p4), .val (.int p5), .val (.int ((1 : Int32) + (p1 &&& (255 : Int32)))), .val (.long ((p2 &&& (65535 : Int32)).toInt64)), .second, .unset, .unset, .unset, .unset, .unset, .unset, .unset, .unset, .unset, .unset] [(.long (((1 : Int32) + (p1 &&& (255 : Int32))).toInt64))]))) (fun _ k => XS.i2l X0.here hx rfl (hb hby at_18) rfl k) ?_
  refine own_go (A' := (s₁.setTop (mkF m 20 #[.val (.int p1), .val (.int p2), .val (.int p3), .val (.int p4), .val (.int p5), .val (.int ((1 : Int32) + (p1 &&& (255 : Int32)))), .val (.long ((p2 &&& (65535 : Int32)).toInt64)), .second, .unset, .unset, .unset, .unset, .unset, .unset, .unset, .unset, .unset, .unset] [(.int p3), (.long (((1 : Int32) + (p1 &&& (255 : Int32))).toInt64))]))) (fun _ k => XS.iloadN X0.here hx rfl (hb hby at_19) rfl k) ?_
  refine own_go (A' := (s₁.setTop (mkF m 21 #[.val (.int p1), .val (.int p2), .val (.int p3), .val (.int p4), .val (.int p5), .val (.int ((1 : Int32) + (p1 &&& (255 : Int32)))), .val (.long ((p2 &&& (65535 : Int32)).toInt64)), .second, .unset, .unset, .unset, .unset, .unset, .unset, .unset, .unset, .unset, .unset] [(.long (p3.toInt64)), (.long (((1 : Int32) + (p1 &&& (255 : Int32))).toInt64))]))) (fun _ k => XS.i2l X0.here hx rfl (hb hby at_20) rfl k) ?_
  refine own_go (A' := (s₁.setTop (mkF m 22 #[.val (.int p1), .val (.int p2), .val (.int p3), .val (.int p4), .val (.int p5), .val (.int ((1 : Int32) + (p1 &&& (255 : Int32)))), .val (.long ((p2 &&& (65535 : Int32)).toInt64)), .second, .unset, .unset, .unset, .unset, .unset, .unset, .unset, .unset, .unset, .unset] [(.long ((((1 : Int32) + (p1 &&& (255 : Int32))).toInt64) * (p3.toInt64)))]))) (fun _ k => XS.lmul X0.here hx rfl (hb hby at_21) rfl k) ?_
  refine own_go (A' := (s₁.setTop (mkF m 24 #[.val (.int p1), .val (.int p2), .val (.int p3), .val (.int p4), .val (.int p5), .val (.int ((1 : Int32) + (p1 &&& (255 : Int32)))), .val (.long ((p2 &&& (65535 : Int32)).toInt64)), .second, .val (.long ((((1 : Int32) + (p1 &&& (255 : Int32))).toInt64) * (p3.toInt64))), .second, .unset, .unset, .unset, .unset, .unset, .unset, .unset, .unset] []))) (fun _ k => XS.lstore X0.here hx rfl (hb hby at_22) rfl (l' := #[.val (.int p1), .val (.int p2), .val (.int p3), .val (.int p4), .val (.int p5), .val (.int ((1 : Int32) + (p1 &&& (255 : Int32)))), .val (.long ((p2 &&& (65535 : Int32)).toInt64)), .second, .val (.long ((((1 : Int32) + (p1 &&& (255 : Int32))).toInt64) * (p3.toInt64))), .second, .unset, .unset, .unset, .unset, .unset, .unset, .unset, .unset]) rfl k) ?_
  refine own_go (A' := (s₁.setTop (mkF m 26 #[.val (.int p1), .val (.int p2), .val (.int p3), .val (.int p4), .val (.int p5), .val (.int ((1 : Int32) + (p1 &&& (255 : Int32)))), .val (.long ((p2 &&& (65535 : Int32)).toInt64)), .second, .val (.long ((((1 : Int32) + (p1 &&& (255 : Int32))).toInt64) * (p3.toInt64))), .second, .unset, .unset, .unset, .unset, .unset, .unset, .unset, .unset] [(.int ((1 : Int32) + (p1 &&& (255 : Int32))))]))) (fun _ k => XS.iload X0.here hx rfl (hb hby at_24) rfl k) ?_
  refine own_go (A' := (s₁.setTop (mkF m 27 #[.val (.int p1), .val (.int p2), .val (.int p3), .val (.int p4), .val (.int p5), .val (.int ((1 : Int32) + (p1 &&& (255 : Int32)))), .val (.long ((p2 &&& (65535 : Int32)).toInt64)), .second, .val (.long ((((1 : Int32) + (p1 &&& (255 : Int32))).toInt64) * (p3.toInt64))), .second, .unset, .unset, .unset, .unset, .unset, .unset, .unset, .unset] [(.long (((1 : Int32) + (p1 &&& (255 : Int32))).toInt64))]))) (fun _ k => XS.i2l X0.here hx rfl (hb hby at_26) rfl k) ?_
  refine own_go (A' := (s₁.setTop (mkF m 28 #[.val (.int p1), .val (.int p2), .val (.int p3), .val (.int p4), .val (.int p5), .val (.int ((1 : Int32) + (p1 &&& (255 : Int32)))), .val (.long ((p2 &&& (65535 : Int32)).toInt64)), .second, .val (.long ((((1 : Int32) + (p1 &&& (255 : Int32))).toInt64) * (p3.toInt64))), .second, .unset, .unset, .unset, .unset, .unset, .unset, .unset, .unset] [(.int p3), (.long (((1 : Int32) + (p1 &&& (255 : Int32))).toInt64))]))) (fun _ k => XS.iloadN X0.here hx rfl (hb hby at_27) rfl k) ?_
  refine own_go (A' := (s₁.setTop (mkF m 29 #[.val (.int p1), .val (.int p2), .val (.int p3), .val (.int p4), .val (.int p5), .val (.int ((1 : Int32) + (p1 &&& (255 : Int32)))), .val (.long ((p2 &&& (65535 : Int32)).toInt64)), .second, .val (.long ((((1 : Int32) + (p1 &&& (255 : Int32))).toInt64) * (p3.toInt64))), .second, .unset, .unset, .unset, .unset, .unset, .unset, .unset, .unset] [(.long (p3.toInt64)), (.long (((1 : Int32) + (p1 &&& (255 : Int32))).toInt64))]))) (fun _ k => XS.i2l X0.here hx rfl (hb hby at_28) rfl k) ?_
  refine own_go (A' := (s₁.setTop (mkF m 31 #[.val (.int p1), .val (.int p2), .val (.int p3), .val (.int p4), .val (.int p5), .val (.int ((1 : Int32) + (p1 &&& (255 : Int32)))), .val (.long ((p2 &&& (65535 : Int32)).toInt64)), .second, .val (.long ((((1 : Int32) + (p1 &&& (255 : Int32))).toInt64) * (p3.toInt64))), .second, .unset, .unset, .unset, .unset, .unset, .unset, .unset, .unset] [(.long ((p2 &&& (65535 : Int32)).toInt64)), (.long (p3.toInt64)), (.long (((1 : Int32) + (p1 &&& (255 : Int32))).toInt64))]))) (fun _ k => XS.lload X0.here hx rfl (hb hby at_29) rfl k) ?_
  refine own_go (A' := (s₁.setTop (mkF m 32 #[.val (.int p1), .val (.int p2), .val (.int p3), .val (.int p4), .val (.int p5), .val (.int ((1 : Int32) + (p1 &&& (255 : Int32)))), .val (.long ((p2 &&& (65535 : Int32)).toInt64)), .second, .val (.long ((((1 : Int32) + (p1 &&& (255 : Int32))).toInt64) * (p3.toInt64))), .second, .unset, .unset, .unset, .unset, .unset, .unset, .unset, .unset] [(.long ((p3.toInt64) + ((p2 &&& (65535 : Int32)).toInt64))), (.long (((1 : Int32) + (p1 &&& (255 : Int32))).toInt64))]))) (fun _ k => XS.ladd X0.here hx rfl (hb hby at_31) rfl k) ?_
  refine own_go (A' := (s₁.setTop (mkF m 33 #[.val (.int p1), .val (.int p2), .val (.int p3), .val (.int p4), .val (.int p5), .val (.int ((1 : Int32) + (p1 &&& (255 : Int32)))), .val (.long ((p2 &&& (65535 : Int32)).toInt64)), .second, .val (.long ((((1 : Int32) + (p1 &&& (255 : Int32))).toInt64) * (p3.toInt64))), .second, .unset, .unset, .unset, .unset, .unset, .unset, .unset, .unset] [(.long ((((1 : Int32) + (p1 &&& (255 : Int32))).toInt64) * ((p3.toInt64) + ((p2 &&& (65535 : Int32)).toInt64))))]))) (fun _ k => XS.lmul X0.here hx rfl (hb hby at_32) rfl k) ?_
  refine own_go (A' := (s₁.setTop (mkF m 35 #[.val (.int p1), .val (.int p2), .val (.int p3), .val (.int p4), .val (.int p5), .val (.int ((1 : Int32) + (p1 &&& (255 : Int32)))), .val (.long ((p2 &&& (65535 : Int32)).toInt64)), .second, .val (.long ((((1 : Int32) + (p1 &&& (255 : Int32))).toInt64) * (p3.toInt64))), .second, .val (.long ((((1 : Int32) + (p1 &&& (255 : Int32))).toInt64) * ((p3.toInt64) + ((p2 &&& (65535 : Int32)).toInt64)))), .second, .unset, .unset, .unset, .unset, .unset, .unset] []))) (fun _ k => XS.lstore X0.here hx rfl (hb hby at_33) rfl (l' := #[.val (.int p1), .val (.int p2), .val (.int p3), .val (.int p4), .val (.int p5), .val (.int ((1 : Int32) + (p1 &&& (255 : Int32)))), .val (.long ((p2 &&& (65535 : Int32)).toInt64)), .second, .val (.long ((((1 : Int32) + (p1 &&& (255 : Int32))).toInt64) * (p3.toInt64))), .second, .val (.long ((((1 : Int32) + (p1 &&& (255 : Int32))).toInt64) * ((p3.toInt64) + ((p2 &&& (65535 : Int32)).toInt64)))), .second, .unset, .unset, .unset, .unset, .unset, .unset]) rfl k) ?_
  refine own_go (A' := (s₁.setTop (mkF m 37 #[.val (.int p1), .val (.int p2), .val (.int p3), .val (.int p4), .val (.int p5), .val (.int ((1 : Int32) + (p1 &&& (255 : Int32)))), .val (.long ((p2 &&& (65535 : Int32)).toInt64)), .second, .val (.long ((((1 : Int32) + (p1 &&& (255 : Int32))).toInt64) * (p3.toInt64))), .second, .val (.long ((((1 : Int32) + (p1 &&& (255 : Int32))).toInt64) * ((p3.toInt64) + ((p2 &&& (65535 : Int32)).toInt64)))), .second, .unset, .unset, .unset, .unset, .unset, .unset] [(.int ((1 : Int32) + (p1 &&& (255 : Int32))))]))) (fun _ k => XS.iload X0.here hx rfl (hb hby at_35) rfl k) ?_
  refine own_go (A' := (s₁.setTop (mkF m 38 #[.val (.int p1), .val (.int p2), .val (.int p3), .val (.int p4), .val (.int p5), .val (.int ((1 : Int32) + (p1 &&& (255 : Int32)))), .val (.long ((p2 &&& (65535 : Int32)).toInt64)), .second, .val (.long ((((1 : Int32) + (p1 &&& (255 : Int32))).toInt64) * (p3.toInt64))), .second, .val (.long ((((1 : Int32) + (p1 &&& (255 : Int32))).toInt64) * ((p3.toInt64) + ((p2 &&& (65535 : Int32)).toInt64)))), .second, .unset, .unset, .unset, .unset, .unset, .unset] [(.long (((1 : Int32) + (p1 &&& (255 : Int32))).toInt64))]))) (fun _ k => XS.i2l X0.here hx rfl (hb hby at_37) rfl k) ?_
  refine own_go (A' := (s₁.setTop (mkF m 40 #[.val (.int p1), .val (.int p2), .val (.int p3), .val (.int p4), .val (.int p5), .val (.int ((1 : Int32) + (p1 &&& (255 : Int32)))), .val (.long ((p2 &&& (65535 : Int32)).toInt64)), .second, .val (.long ((((1 : Int32) + (p1 &&& (255 : Int32))).toInt64) * (p3.toInt64))), .second, .val (.long ((((1 : Int32) + (p1 &&& (255 : Int32))).toInt64) * ((p3.toInt64) + ((p2 &&& (65535 : Int32)).toInt64)))), .second, .unset, .unset, .unset, .unset, .unset, .unset] [(.long ((p2 &&& (65535 : Int32)).toInt64)), (.long (((1 : Int32) + (p1 &&& (255 : Int32))).toInt64))]))) (fun _ k => XS.lload X0.here hx rfl (hb hby at_38) rfl k) ?_
  refine own_go (A' := (s₁.setTop (mkF m 41 #[.val (.int p1), .val (.int p2), .val (.int p3), .val (.int p4), .val (.int p5), .val (.int ((1 : Int32) + (p1 &&& (255 : Int32)))), .val (.long ((p2 &&& (65535 : Int32)).toInt64)), .second, .val (.long ((((1 : Int32) + (p1 &&& (255 : Int32))).toInt64) * (p3.toInt64))), .second, .val (.long ((((1 : Int32) + (p1 &&& (255 : Int32))).toInt64) * ((p3.toInt64) + ((p2 &&& (65535 : Int32)).toInt64)))), .second, .unset, .unset, .unset, .unset, .unset, .unset] [(.long ((((1 : Int32) + (p1 &&& (255 : Int32))).toInt64) * ((p2 &&& (65535 : Int32)).toInt64)))]))) (fun _ k => XS.lmul X0.here hx rfl (hb hby at_40) rfl k) ?_
  refine own_go (A' := (s₁.setTop (mkF m 43 #[.val (.int p1), .val (.int p2), .val (.int p3), .val (.int p4), .val (.int p5), .val (.int ((1 : Int32) + (p1 &&& (255 : Int32)))), .val (.long ((p2 &&& (65535 : Int32)).toInt64)), .second, .val (.long ((((1 : Int32) + (p1 &&& (255 : Int32))).toInt64) * (p3.toInt64))), .second, .val (.long ((((1 : Int32) + (p1 &&& (255 : Int32))).toInt64) * ((p3.toInt64) + ((p2 &&& (65535 : Int32)).toInt64)))), .second, .val (.long ((((1 : Int32) + (p1 &&& (255 : Int32))).toInt64) * ((p2 &&& (65535 : Int32)).toInt64))), .second, .unset, .unset, .unset, .unset] []))) (fun _ k => XS.lstore X0.here hx rfl (hb hby at_41) rfl (l' := #[.val (.int p1), .val (.int p2), .val (.int p3), .val (.int p4), .val (.int p5), .val (.int ((1 : Int32) + (p1 &&& (255 : Int32)))), .val (.long ((p2 &&& (65535 : Int32)).toInt64)), .second, .val (.long ((((1 : Int32) + (p1 &&& (255 : Int32))).toInt64) * (p3.toInt64))), .second, .val (.long ((((1 : Int32) + (p1 &&& (255 : Int32))).toInt64) * ((p3.toInt64) + ((p2 &&& (65535 : Int32)).toInt64)))), .second, .val (.long ((((1 : Int32) + (p1 &&& (255 : Int32))).toInt64) * ((p2 &&& (65535 : Int32)).toInt64))), .second, .unset, .unset, .unset, .unset]) rfl k) ?_
  refine own_go (A' := (s₁.setTop (mkF m 45 #[.val (.int p1), .val (.int p2), .val (.int p3), .val (.int p4), .val (.int p5), .val (.int ((1 : Int32) + (p1 &&& (255 : Int32)))), .val (.long ((p2 &&& (65535 : Int32)).toInt64)), .second, .val (.long ((((1 : Int32) + (p1 &&& (255 : Int32))).toInt64) * (p3.toInt64))), .second, .val (.long ((((1 : Int32) + (p1 &&& (255 : Int32))).toInt64) * ((p3.toInt64) + ((p2 &&& (65535 : Int32)).toInt64)))), .second, .val (.long ((((1 : Int32) + (p1 &&& (255 : Int32))).toInt64) * ((p2 &&& (65535 : Int32)).toInt64))), .second, .unset, .unset, .unset, .unset] [(.int p5)]))) (fun _ k => XS.iload X0.here hx rfl (hb hby at_43) rfl k) ?_
  refine own_go (A' := (s₁.setTop (mkF m 46 #[.val (.int p1), .val (.int p2), .val (.int p3), .val (.int p4), .val (.int p5), .val (.int ((1 : Int32) + (p1 &&& (255 : Int32)))), .val (.long ((p2 &&& (65535 : Int32)).toInt64)), .second, .val (.long ((((1 : Int32) + (p1 &&& (255 : Int32))).toInt64) * (p3.toInt64))), .second, .val (.long ((((1 : Int32) + (p1 &&& (255 : Int32))).toInt64) * ((p3.toInt64) + ((p2 &&& (65535 : Int32)).toInt64)))), .second, .val (.long ((((1 : Int32) + (p1 &&& (255 : Int32))).toInt64) * ((p2 &&& (65535 : Int32)).toInt64))), .second, .unset, .unset, .unset, .unset] [(.int (1 : Int32)), (.int p5)]))) (fun _ k => XS.iconst X0.here hx rfl (hb hby at_45) k) ?_
  refine own_go (A' := (s₁.setTop (mkF m 47 #[.val (.int p1), .val (.int p2), .val (.int p3), .val (.int p4), .val (.int p5), .val (.int ((1 : Int32) + (p1 &&& (255 : Int32)))), .val (.long ((p2 &&& (65535 : Int32)).toInt64)), .second, .val (.long ((((1 : Int32) + (p1 &&& (255 : Int32))).toInt64) * (p3.toInt64))), .second, .val (.long ((((1 : Int32) + (p1 &&& (255 : Int32))).toInt64) * ((p3.toInt64) + ((p2 &&& (65535 : Int32)).toInt64)))), .second, .val (.long ((((1 : Int32) + (p1 &&& (255 : Int32))).toInt64) * ((p2 &&& (65535 : Int32)).toInt64))), .second, .unset, .unset, .unset, .unset] [(.int (p5 &&& (1 : Int32)))]))) (fun _ k => XS.iand X0.here hx rfl (hb hby at_46) rfl k) ?_
  have k1 := own_mask_bd p1 255 8 (by decide) (by decide)
  have k2 := own_mask_bd p2 65535 16 (by decide) (by decide)
  have k3 := own_mask_bd p4 2147483647 31 (by decide) (by decide)
  have t1 := own_i32_lo p3
  have t2 := own_i32_hi p3
  have ec : ((1 : Int32) + (p1 &&& 255)).toInt = 1 + (p1 &&& 255).toInt := by rw [Int32.toInt_add, show (1 : Int32).toInt = 1 from rfl, Int.bmod_eq_of_le (by omega) (by omega)]
  have es : (p2 &&& 65535).toInt64.toInt = (p2 &&& 65535).toInt := own_i2l _
  have c1 : 1 ≤ ((1 : Int32) + (p1 &&& 255)).toInt := by omega
  have c2 : ((1 : Int32) + (p1 &&& 255)).toInt ≤ 256 := by omega
  have m1 := own_mulbd (x := p3.toInt) (B := 2147483648) c1 c2 (by omega) (by omega) (by omega)
  have m2 := own_mulbd (x := p3.toInt + (p2 &&& 65535).toInt) (B := 2147549183) c1 c2 (by omega) (by omega) (by omega)
  have m3 := own_mulbd (x := (p2 &&& 65535).toInt) (B := 65535) c1 c2 (by omega) (by omega) (by omega)
  have hlo := own_mul64 (own_i2l ((1 : Int32) + (p1 &&& 255))) (own_i2l p3) (by omega) (by omega)
  have hsm := own_add64 (own_i2l p3) (own_i2l (p2 &&& 65535)) (by omega) (by omega)
  have hhi := own_mul64 (own_i2l ((1 : Int32) + (p1 &&& 255))) hsm (by omega) (by omega)
  have hsp := own_mul64 (own_i2l ((1 : Int32) + (p1 &&& 255))) (own_i2l (p2 &&& 65535)) (by omega) (by omega)
  by_cases hm : (p5 &&& (1 : Int32)) = (0 : Int32)
  · refine own_go (A' := (s₁.setTop (mkF m 55 #[.val (.int p1), .val (.int p2), .val (.int p3), .val (.int p4), .val (.int p5), .val (.int ((1 : Int32) + (p1 &&& (255 : Int32)))), .val (.long ((p2 &&& (65535 : Int32)).toInt64)), .second, .val (.long ((((1 : Int32) + (p1 &&& (255 : Int32))).toInt64) * (p3.toInt64))), .second, .val (.long ((((1 : Int32) + (p1 &&& (255 : Int32))).toInt64) * ((p3.toInt64) + ((p2 &&& (65535 : Int32)).toInt64)))), .second, .val (.long ((((1 : Int32) + (p1 &&& (255 : Int32))).toInt64) * ((p2 &&& (65535 : Int32)).toInt64))), .second, .unset, .unset, .unset, .unset] []))) (fun _ k => XS.ifYes X0.here hx rfl (pc0 := 47) (pc' := 55) rfl (hb hby at_47) rfl ((if0 _ _).trans (teq hm).1) (by decide) (by decide) k) ?_
    refine own_go (A' := (s₁.setTop (mkF m 56 #[.val (.int p1), .val (.int p2), .val (.int p3), .val (.int p4), .val (.int p5), .val (.int ((1 : Int32) + (p1 &&& (255 : Int32)))), .val (.long ((p2 &&& (65535 : Int32)).toInt64)), .second, .val (.long ((((1 : Int32) + (p1 &&& (255 : Int32))).toInt64) * (p3.toInt64))), .second, .val (.long ((((1 : Int32) + (p1 &&& (255 : Int32))).toInt64) * ((p3.toInt64) + ((p2 &&& (65535 : Int32)).toInt64)))), .second, .val (.long ((((1 : Int32) + (p1 &&& (255 : Int32))).toInt64) * ((p2 &&& (65535 : Int32)).toInt64))), .second, .unset, .unset, .unset, .unset] [(.int p4)]))) (fun _ k => XS.iloadN X0.here hx rfl (hb hby at_55) rfl k) ?_
    refine own_go (A' := (s₁.setTop (mkF m 58 #[.val (.int p1), .val (.int p2), .val (.int p3), .val (.int p4), .val (.int p5), .val (.int ((1 : Int32) + (p1 &&& (255 : Int32)))), .val (.long ((p2 &&& (65535 : Int32)).toInt64)), .second, .val (.long ((((1 : Int32) + (p1 &&& (255 : Int32))).toInt64) * (p3.toInt64))), .second, .val (.long ((((1 : Int32) + (p1 &&& (255 : Int32))).toInt64) * ((p3.toInt64) + ((p2 &&& (65535 : Int32)).toInt64)))), .second, .val (.long ((((1 : Int32) + (p1 &&& (255 : Int32))).toInt64) * ((p2 &&& (65535 : Int32)).toInt64))), .second, .unset, .unset, .unset, .unset] [(.int (2147483647 : Int32)), (.int p4)]))) (fun _ k => X0.ldcInt hx hown (mvT hZ (hw _ (List.mem_of_getElem? (i := 1) rfl))) (g := (mkF m 56 #[.val (.int p1), .val (.int p2), .val (.int p3), .val (.int p4), .val (.int p5), .val (.int ((1 : Int32) + (p1 &&& (255 : Int32)))), .val (.long ((p2 &&& (65535 : Int32)).toInt64)), .second, .val (.long ((((1 : Int32) + (p1 &&& (255 : Int32))).toInt64) * (p3.toInt64))), .second, .val (.long ((((1 : Int32) + (p1 &&& (255 : Int32))).toInt64) * ((p3.toInt64) + ((p2 &&& (65535 : Int32)).toInt64)))), .second, .val (.long ((((1 : Int32) + (p1 &&& (255 : Int32))).toInt64) * ((p2 &&& (65535 : Int32)).toInt64))), .second, .unset, .unset, .unset, .unset] [(.int p4)])) rfl (hb hby at_56) _ k) ?_
    refine own_go (A' := (s₁.setTop (mkF m 59 #[.val (.int p1), .val (.int p2), .val (.int p3), .val (.int p4), .val (.int p5), .val (.int ((1 : Int32) + (p1 &&& (255 : Int32)))), .val (.long ((p2 &&& (65535 : Int32)).toInt64)), .second, .val (.long ((((1 : Int32) + (p1 &&& (255 : Int32))).toInt64) * (p3.toInt64))), .second, .val (.long ((((1 : Int32) + (p1 &&& (255 : Int32))).toInt64) * ((p3.toInt64) + ((p2 &&& (65535 : Int32)).toInt64)))), .second, .val (.long ((((1 : Int32) + (p1 &&& (255 : Int32))).toInt64) * ((p2 &&& (65535 : Int32)).toInt64))), .second, .unset, .unset, .unset, .unset] [(.int (p4 &&& (2147483647 : Int32)))]))) (fun _ k => XS.iand X0.here hx rfl (hb hby at_58) rfl k) ?_
    refine own_go (A' := (s₁.setTop (mkF m 60 #[.val (.int p1), .val (.int p2), .val (.int p3), .val (.int p4), .val (.int p5), .val (.int ((1 : Int32) + (p1 &&& (255 : Int32)))), .val (.long ((p2 &&& (65535 : Int32)).toInt64)), .second, .val (.long ((((1 : Int32) + (p1 &&& (255 : Int32))).toInt64) * (p3.toInt64))), .second, .val (.long ((((1 : Int32) + (p1 &&& (255 : Int32))).toInt64) * ((p3.toInt64) + ((p2 &&& (65535 : Int32)).toInt64)))), .second, .val (.long ((((1 : Int32) + (p1 &&& (255 : Int32))).toInt64) * ((p2 &&& (65535 : Int32)).toInt64))), .second, .unset, .unset, .unset, .unset] [(.long ((p4 &&& (2147483647 : Int32)).toInt64))]))) (fun _ k => XS.i2l X0.here hx rfl (hb hby at_59) rfl k) ?_
    refine own_go (A' := (s₁.setTop (mkF m 62 #[.val (.int p1), .val (.int p2), .val (.int p3), .val (.int p4), .val (.int p5), .val (.int ((1 : Int32) + (p1 &&& (255 : Int32)))), .val (.long ((p2 &&& (65535 : Int32)).toInt64)), .second, .val (.long ((((1 : Int32) + (p1 &&& (255 : Int32))).toInt64) * (p3.toInt64))), .second, .val (.long ((((1 : Int32) + (p1 &&& (255 : Int32))).toInt64) * ((p3.toInt64) + ((p2 &&& (65535 : Int32)).toInt64)))), .second, .val (.long ((((1 : Int32) + (p1 &&& (255 : Int32))).toInt64) * ((p2 &&& (65535 : Int32)).toInt64))), .second, .unset, .unset, .unset, .unset] [(.long ((((1 : Int32) + (p1 &&& (255 : Int32))).toInt64) * ((p2 &&& (65535 : Int32)).toInt64))), (.long ((p4 &&& (2147483647 : Int32)).toInt64))]))) (fun _ k => XS.lload X0.here hx rfl (hb hby at_60) rfl k) ?_
    refine own_go (A' := (s₁.setTop (mkF m 65 #[.val (.int p1), .val (.int p2), .val (.int p3), .val (.int p4), .val (.int p5), .val (.int ((1 : Int32) + (p1 &&& (255 : Int32)))), .val (.long ((p2 &&& (65535 : Int32)).toInt64)), .second, .val (.long ((((1 : Int32) + (p1 &&& (255 : Int32))).toInt64) * (p3.toInt64))), .second, .val (.long ((((1 : Int32) + (p1 &&& (255 : Int32))).toInt64) * ((p3.toInt64) + ((p2 &&& (65535 : Int32)).toInt64)))), .second, .val (.long ((((1 : Int32) + (p1 &&& (255 : Int32))).toInt64) * ((p2 &&& (65535 : Int32)).toInt64))), .second, .unset, .unset, .unset, .unset] [(.long (2 : Int64)), (.long ((((1 : Int32) + (p1 &&& (255 : Int32))).toInt64) * ((p2 &&& (65535 : Int32)).toInt64))), (.long ((p4 &&& (2147483647 : Int32)).toInt64))]))) (fun _ k => X0.ldc2Long hx hown (mvT hZ (hw _ (List.mem_of_getElem? (i := 2) rfl))) (g := (mkF m 62 #[.val (.int p1), .val (.int p2), .val (.int p3), .val (.int p4), .val (.int p5), .val (.int ((1 : Int32) + (p1 &&& (255 : Int32)))), .val (.long ((p2 &&& (65535 : Int32)).toInt64)), .second, .val (.long ((((1 : Int32) + (p1 &&& (255 : Int32))).toInt64) * (p3.toInt64))), .second, .val (.long ((((1 : Int32) + (p1 &&& (255 : Int32))).toInt64) * ((p3.toInt64) + ((p2 &&& (65535 : Int32)).toInt64)))), .second, .val (.long ((((1 : Int32) + (p1 &&& (255 : Int32))).toInt64) * ((p2 &&& (65535 : Int32)).toInt64))), .second, .unset, .unset, .unset, .unset] [(.long ((((1 : Int32) + (p1 &&& (255 : Int32))).toInt64) * ((p2 &&& (65535 : Int32)).toInt64))), (.long ((p4 &&& (2147483647 : Int32)).toInt64))])) rfl (hb hby at_62) _ k) ?_
    refine own_go (A' := (s₁.setTop (mkF m 66 #[.val (.int p1), .val (.int p2), .val (.int p3), .val (.int p4), .val (.int p5), .val (.int ((1 : Int32) + (p1 &&& (255 : Int32)))), .val (.long ((p2 &&& (65535 : Int32)).toInt64)), .second, .val (.long ((((1 : Int32) + (p1 &&& (255 : Int32))).toInt64) * (p3.toInt64))), .second, .val (.long ((((1 : Int32) + (p1 &&& (255 : Int32))).toInt64) * ((p3.toInt64) + ((p2 &&& (65535 : Int32)).toInt64)))), .second, .val (.long ((((1 : Int32) + (p1 &&& (255 : Int32))).toInt64) * ((p2 &&& (65535 : Int32)).toInt64))), .second, .unset, .unset, .unset, .unset] [(.long (((((1 : Int32) + (p1 &&& (255 : Int32))).toInt64) * ((p2 &&& (65535 : Int32)).toInt64)) + (2 : Int64))), (.long ((p4 &&& (2147483647 : Int32)).toInt64))]))) (fun _ k => XS.ladd X0.here hx rfl (hb hby at_65) rfl k) ?_
    have hs2 := own_add64 (b := 2) hsp rfl (by show _ ≤ _ + (2 : Int); omega) (by show _ + (2 : Int) < _; omega)
    have hge : 0 ≤ ((1 : Int32) + (p1 &&& 255)).toInt * (p2 &&& 65535).toInt := Int.mul_nonneg (by omega) (by omega)
    have hpos : 0 < (((1 : Int32) + (p1 &&& 255)).toInt64 * (p2 &&& 65535).toInt64 + 2).toInt := by rw [hs2]; show 0 < _ + (2 : Int); omega
    have hnz : ¬ (((1 : Int32) + (p1 &&& 255)).toInt64 * (p2 &&& 65535).toInt64 + 2) = 0 := by intro q; rw [q] at hpos; exact absurd hpos (by decide)
    have hrem := own_lrem (a := (p4 &&& 2147483647).toInt64) (by rw [own_i2l]; omega) hpos (by rw [own_i2l]; omega)
    refine own_go (A' := (s₁.setTop (mkF m 67 #[.val (.int p1), .val (.int p2), .val (.int p3), .val (.int p4), .val (.int p5), .val (.int ((1 : Int32) + (p1 &&& (255 : Int32)))), .val (.long ((p2 &&& (65535 : Int32)).toInt64)), .second, .val (.long ((((1 : Int32) + (p1 &&& (255 : Int32))).toInt64) * (p3.toInt64))), .second, .val (.long ((((1 : Int32) + (p1 &&& (255 : Int32))).toInt64) * ((p3.toInt64) + ((p2 &&& (65535 : Int32)).toInt64)))), .second, .val (.long ((((1 : Int32) + (p1 &&& (255 : Int32))).toInt64) * ((p2 &&& (65535 : Int32)).toInt64))), .second, .unset, .unset, .unset, .unset] [(.long (((p4 &&& (2147483647 : Int32)).toInt64) - ((p4 &&& (2147483647 : Int32)).toInt64) / (((((1 : Int32) + (p1 &&& (255 : Int32))).toInt64) * ((p2 &&& (65535 : Int32)).toInt64)) + (2 : Int64)) * (((((1 : Int32) + (p1 &&& (255 : Int32))).toInt64) * ((p2 &&& (65535 : Int32)).toInt64)) + (2 : Int64))))]))) (fun _ k => XS.lrem X0.here hx rfl (hb hby at_66) rfl hnz k) ?_
    exact J67 _ _ _ _ _ _ c1 c2 (by omega) (by omega) hlo (by rw [hhi, es]) (by omega) (by omega)
  · refine own_go (A' := (s₁.setTop (mkF m 50 #[.val (.int p1), .val (.int p2), .val (.int p3), .val (.int p4), .val (.int p5), .val (.int ((1 : Int32) + (p1 &&& (255 : Int32)))), .val (.long ((p2 &&& (65535 : Int32)).toInt64)), .second, .val (.long ((((1 : Int32) + (p1 &&& (255 : Int32))).toInt64) * (p3.toInt64))), .second, .val (.long ((((1 : Int32) + (p1 &&& (255 : Int32))).toInt64) * ((p3.toInt64) + ((p2 &&& (65535 : Int32)).toInt64)))), .second, .val (.long ((((1 : Int32) + (p1 &&& (255 : Int32))).toInt64) * ((p2 &&& (65535 : Int32)).toInt64))), .second, .unset, .unset, .unset, .unset] []))) (fun _ k => XS.ifNo X0.here hx rfl (hb hby at_47) rfl ((if0 _ _).trans (feq hm).1) k) ?_
    refine own_go (A' := (s₁.setTop (mkF m 51 #[.val (.int p1), .val (.int p2), .val (.int p3), .val (.int p4), .val (.int p5), .val (.int ((1 : Int32) + (p1 &&& (255 : Int32)))), .val (.long ((p2 &&& (65535 : Int32)).toInt64)), .second, .val (.long ((((1 : Int32) + (p1 &&& (255 : Int32))).toInt64) * (p3.toInt64))), .second, .val (.long ((((1 : Int32) + (p1 &&& (255 : Int32))).toInt64) * ((p3.toInt64) + ((p2 &&& (65535 : Int32)).toInt64)))), .second, .val (.long ((((1 : Int32) + (p1 &&& (255 : Int32))).toInt64) * ((p2 &&& (65535 : Int32)).toInt64))), .second, .unset, .unset, .unset, .unset] [(.int p4)]))) (fun _ k => XS.iloadN X0.here hx rfl (hb hby at_50) rfl k) ?_
    refine own_go (A' := (s₁.setTop (mkF m 52 #[.val (.int p1), .val (.int p2), .val (.int p3), .val (.int p4), .val (.int p5), .val (.int ((1 : Int32) + (p1 &&& (255 : Int32)))), .val (.long ((p2 &&& (65535 : Int32)).toInt64)), .second, .val (.long ((((1 : Int32) + (p1 &&& (255 : Int32))).toInt64) * (p3.toInt64))), .second, .val (.long ((((1 : Int32) + (p1 &&& (255 : Int32))).toInt64) * ((p3.toInt64) + ((p2 &&& (65535 : Int32)).toInt64)))), .second, .val (.long ((((1 : Int32) + (p1 &&& (255 : Int32))).toInt64) * ((p2 &&& (65535 : Int32)).toInt64))), .second, .unset, .unset, .unset, .unset] [(.long (p4.toInt64))]))) (fun _ k => XS.i2l X0.here hx rfl (hb hby at_51) rfl k) ?_
    refine own_go (A' := (s₁.setTop (mkF m 67 #[.val (.int p1), .val (.int p2), .val (.int p3), .val (.int p4), .val (.int p5), .val (.int ((1 : Int32) + (p1 &&& (255 : Int32)))), .val (.long ((p2 &&& (65535 : Int32)).toInt64)), .second, .val (.long ((((1 : Int32) + (p1 &&& (255 : Int32))).toInt64) * (p3.toInt64))), .second, .val (.long ((((1 : Int32) + (p1 &&& (255 : Int32))).toInt64) * ((p3.toInt64) + ((p2 &&& (65535 : Int32)).toInt64)))), .second, .val (.long ((((1 : Int32) + (p1 &&& (255 : Int32))).toInt64) * ((p2 &&& (65535 : Int32)).toInt64))), .second, .unset, .unset, .unset, .unset] [(.long (p4.toInt64))]))) (fun _ k => XS.goto X0.here hx rfl (pc0 := 52) (pc' := 67) rfl (hb hby at_52) (by decide) (by decide) k) ?_
    have u1 := own_i32_lo p4
    have u2 := own_i32_hi p4
    have u3 := own_i2l p4
    exact J67 _ _ _ _ _ _ c1 c2 (by omega) (by omega) hlo (by rw [hhi, es]) (by omega) (by omega)
set_option maxRecDepth 65536 in
set_option maxHeartbeats 40000000 in
theorem own_comes {Post : Tables → Env → Array Value → State → Outcome → State → Prop} (hpost : ∀ tb e args s v u, (limb_1_1.after args s (.returned v) u = true ∧ limb_1_2.after args s (.returned v) u = true ∧ True) → FrameEnd s (.returned v) u (Jvm.fieldLocs frame_1_writes args s ++ Jvm.arrayLocs frame_1_arrays args s ++ Jvm.staticLocs frame_1_statics s) 16 128 → Post tb e args s (.returned v) u) :
    ArmFor flags0 classFile x code maxLocals ret World_1 tables_1 room_1 Calls_1 rest_1 Pre_1 Post := by
  intro l hfl _ _ p e ha hc hk s m args below hf hA hF happ hP
  obtain ⟨hcalls, hrest, hpre⟩ := hP
  obtain ⟨-, -, -, hnamed, -, -, -, hat⟩ := (Spec.applies_iff hf).mp happ
  obtain ⟨hg, hn⟩ := and_e (Cond.before_iff.mp (show (Jvm.Cond.and given_1 narrow_1).before args s = true from hpre))
  obtain ⟨g1, g2⟩ := and_e hg
  obtain ⟨g3, g4⟩ := and_e g2
  obtain ⟨g5, g6⟩ := and_e g4
  obtain ⟨g7, g8⟩ := and_e g6
  obtain ⟨g9, g10⟩ := and_e g8
  obtain ⟨w0, w1, w2, w3, w4, rfl⟩ : ∃ w0 w1 w2 w3 w4 : Value, args = #[w0, w1, w2, w3, w4] := by
    have hs : args.size = 5 := by simpa [Cond.value, given_1] using g1
    obtain ⟨L⟩ := args
    match L, hs with
    | [w0, w1, w2, w3, w4], _ => exact ⟨w0, w1, w2, w3, w4, rfl⟩
  have hw := fun d (hd : d ∈ tables_1) => atoms_spec (ws := Jvm.Cond.code x code maxLocals ret :: tables_1) hat d (List.mem_cons_of_mem _ hd)
  have hfit : Fit s := fun {y c} hc i hi => by
    obtain ⟨ha, rfl⟩ := Array.getElem?_eq_some_iff.mp hc
    have q := List.all_eq_true.mp ((Array.all_eq_true_iff_forall_mem.mp hF) _ (Array.getElem_mem ha)) i (List.mem_range.mpr hi)
    simpa [Array.getElem?_eq_getElem hi] using q
  obtain ⟨i0, ei0⟩ := is_v g3
  obtain rfl : w0 = (.int i0) := Option.some.inj ei0
  obtain ⟨i1, ei1⟩ := is_v g5
  obtain rfl : w1 = (.int i1) := Option.some.inj ei1
  obtain ⟨i2, ei2⟩ := is_v g7
  obtain rfl : w2 = (.int i2) := Option.some.inj ei2
  obtain ⟨i3, ei3⟩ := is_v g9
  obtain rfl : w3 = (.int i3) := Option.some.inj ei3
  obtain ⟨i4, ei4⟩ := is_v g10
  obtain rfl : w4 = (.int i4) := Option.some.inj ei4
  obtain ⟨n, o, h1, h2, h3, _, L, rfl, ⟨rfl, N⟩, hq⟩ := own_rm0 l s _ hw tables_1 i0 i1 i2 i3 i4  s.heap s.heap.size (Nat.le_refl _)  p e ha hc hk s m _ below hf ((Spec.applies_iff_loose hf).mp happ).1 ⟨rfl, State.Warmed39.refl s, rfl⟩ trivial
  refine ⟨n, _, h1, h2, h3, hpost _ _ _ _ _ _ ⟨Cond.after_iff.mpr rfl, Cond.after_iff.mpr (eq_i res_at (Term.int_eval (1)) rfl), trivial⟩ ⟨hq.1, hq.2.1, (hq.2.2.sift fun y hy => Or.inr (N y hy)).mono (by decide) (by decide)⟩⟩
theorem main_1_1 : Claimed_1_1 := own_comes fun _ _ _ _ _ _ h hF => ⟨h.1, hF⟩
theorem main_1_2 : Claimed_1_2 := own_comes fun _ _ _ _ _ _ h hF => ⟨h.2.1, hF⟩
end Jvm.Pilot.@@N@@
namespace Jvm.Pilot.@@N@@
open Jvm Jvm.ClassFile Sem Op Lib Jvm.Free Jvm.Stand Jvm.Pilot.@@N@@.Jvm.D
/-! MADE BY PROGRAM (witnessworld.py) out of the Statement's table words and the real class files: 9 classes; the members and pool entries that the words name. The judged class is class 1, her method 1. -/
namespace start1
open Jvm.ClassFile
def u (s : String) : CpInfo := .utf8 (stringToUtf16 s)
/-- a pool by its gaps: so many unusable entries, then the entry; so many at the end -/
def gap : Nat → List CpInfo → List CpInfo
  | 0, r => r
  | n + 1, r => .unusable :: gap n r
def poolList (es : List (Nat × CpInfo)) (last : Nat) : List CpInfo := es.foldr (fun e r => gap e.1 (e.2 :: r)) (gap last [])
def pool (es : List (Nat × CpInfo)) (last : Nat) : Array CpInfo := ⟨poolList es last⟩
def fileOf (pool : Array CpInfo) (this : Nat) (attrs : Array Attribute := #[]) (ms : Array MethodInfo := #[]) (fl : Nat := 33) (sup : Nat := 0) (ifs : Array Nat := #[]) (fds : Array FieldInfo := #[]) : ClassFile where
  minorVersion := 0
  majorVersion := 65
  constantPool := pool
  accessFlags := fl
  thisClass := this
  superClass := sup
  interfaces := ifs
  fields := fds
  methods := ms
  attributes := attrs
def plain (name : String) (sup : Option ClassId) : Class where
  name := name
  kind := .ordinary
  loader := none
  accessFlags := 33
  super := sup
  interfaces := #[]
  cf := none
  fields := #[]
  methods := #[]
  instanceTypes := #[]
  staticTypes := #[]
  resolved := #[]
  callSites := []
  init := .initialized
  statics := none
  mirror := none

def pool0 : Array CpInfo := pool [(5, u "<init>"), (0, u "()V"), (1, .class_ 10), (1, u "java/lang/Object")] 113

def k0c0 : Code := { maxStack := 0, maxLocals := 1, code := object_method_1_code, exceptionTable := #[], attributes := #[] }
def k0m0 : Method := { name := "<init>", desc := "()V", sig := { parameters := [], returnType := none }, accessFlags := 1, code := some k0c0 }
/-- java/lang/Object -/
def k0 : Class := { plain "java/lang/Object" none with
  accessFlags := 33
  interfaces := #[]
  cf := some (fileOf pool0 8 #[] #[{ accessFlags := 1, nameIndex := 5, descriptorIndex := 6, attributes := #[] }] 33 0 #[] #[])
  fields := #[]
  methods := #[k0m0]
  instanceTypes := #[]
  staticTypes := #[]
  resolved := Array.replicate 124 none
  statics := none }

def pool1 : Array CpInfo := pool [(2, .class_ 4), (1, u "java/lang/Object"), (0, u "<init>"), (0, u "()V"), (0, .integer 65535), (0, .integer 2147483647), (0, .long 2), (1, .class_ 12), (0, u "com/example/tilesweep/tilesweep/EqualIntervals"), (0, .methodref 11 14), (0, .nameAndType 5 15), (0, u "(IDD)V"), (0, .methodref 11 17), (0, .nameAndType 18 19), (0, u "index"), (0, u "(D)I"), (0, .methodref 21 22), (0, .class_ 23), (0, .nameAndType 24 25), (0, u "com/example/tilesweep/tilesweep/EqualIntervalsIndexPinLaw"), (0, u "expected"), (0, u "(IJJ)I"), (2, u "law"), (0, u "(IIIII)Z")] 3

def k1m0 : Method := { name := "<init>", desc := "()V", sig := { parameters := [], returnType := none }, accessFlags := 1, code := none }
def k1c1 : Code := { maxStack := 7, maxLocals := 18, code := code, exceptionTable := #[], attributes := #[] }
def k1m1 : Method := { name := "law", desc := "(IIIII)Z", sig := { parameters := [.int, .int, .int, .int, .int], returnType := some .boolean }, accessFlags := 9, code := some k1c1 }
def k1c2 : Code := { maxStack := 4, maxLocals := 7, code := method_3_code, exceptionTable := #[], attributes := #[] }
def k1m2 : Method := { name := "expected", desc := "(IJJ)I", sig := { parameters := [.int, .long, .long], returnType := some .int }, accessFlags := 10, code := some k1c2 }
/-- com/example/tilesweep/tilesweep/EqualIntervalsIndexPinLaw -/
def k1 : Class := { plain "com/example/tilesweep/tilesweep/EqualIntervalsIndexPinLaw" (some 0) with
  accessFlags := 49
  interfaces := #[]
  cf := some (fileOf pool1 21 #[] #[{ accessFlags := 1, nameIndex := 5, descriptorIndex := 6, attributes := #[] }, { accessFlags := 9, nameIndex := 28, descriptorIndex := 29, attributes := #[] }, { accessFlags := 10, nameIndex := 24, descriptorIndex := 25, attributes := #[] }] 49 2 #[] #[])
  fields := #[]
  methods := #[k1m0, k1m1, k1m2]
  instanceTypes := #[]
  staticTypes := #[]
  resolved := Array.replicate 33 none
  statics := none }

def pool2 : Array CpInfo := pool [(1, .methodref 2 3), (0, .class_ 4), (0, .nameAndType 5 6), (0, u "java/lang/Object"), (0, u "<init>"), (0, u "()V"), (9, .fieldref 17 18), (0, .class_ 19), (0, .nameAndType 20 21), (0, u "com/example/tilesweep/tilesweep/EqualIntervals"), (0, u "count"), (0, u "I"), (0, .fieldref 17 23), (0, .nameAndType 24 25), (0, u "low"), (0, u "D"), (0, .fieldref 17 27), (0, .nameAndType 28 25), (0, u "step"), (0, u "(IDD)V"), (4, u "index"), (0, u "(D)I")] 17

def k2c0 : Code := { maxStack := 7, maxLocals := 6, code := prog_13_method_1_code, exceptionTable := #[], attributes := #[] }
def k2m0 : Method := { name := "<init>", desc := "(IDD)V", sig := { parameters := [.int, .double, .double], returnType := none }, accessFlags := 0, code := some k2c0 }
def k2c1 : Code := { maxStack := 4, maxLocals := 4, code := prog_13_method_3_code, exceptionTable := #[], attributes := #[] }
def k2m1 : Method := { name := "index", desc := "(D)I", sig := { parameters := [.double], returnType := some .int }, accessFlags := 0, code := some k2c1 }
/-- com/example/tilesweep/tilesweep/EqualIntervals -/
def k2 : Class := { plain "com/example/tilesweep/tilesweep/EqualIntervals" (some 0) with
  accessFlags := 48
  interfaces := #[]
  cf := some (fileOf pool2 17 #[] #[{ accessFlags := 0, nameIndex := 5, descriptorIndex := 29, attributes := #[] }, { accessFlags := 0, nameIndex := 34, descriptorIndex := 35, attributes := #[] }] 48 2 #[] #[{ accessFlags := 18, nameIndex := 20, descriptorIndex := 21, attributes := #[] }, { accessFlags := 18, nameIndex := 24, descriptorIndex := 25, attributes := #[] }, { accessFlags := 18, nameIndex := 28, descriptorIndex := 25, attributes := #[] }])
  fields := #[{ name := "count", type := .int, accessFlags := 18, slot := 0, constantValue := 0 }, { name := "low", type := .double, accessFlags := 18, slot := 1, constantValue := 0 }, { name := "step", type := .double, accessFlags := 18, slot := 2, constantValue := 0 }]
  methods := #[k2m0, k2m1]
  instanceTypes := #[.int, .double, .double]
  staticTypes := #[]
  resolved := Array.replicate 53 none
  statics := none }

def pool3 : Array CpInfo := pool [(1, u "java/lang/Cloneable"), (0, .class_ 1), (0, u "java/lang/Object"), (0, .class_ 3)] 3

/-- java/lang/Cloneable -/
def k3 : Class := { plain "java/lang/Cloneable" (some 0) with
  accessFlags := 1537
  interfaces := #[]
  cf := some (fileOf pool3 2 #[] #[] 1537 4 #[] #[])
  fields := #[]
  methods := #[]
  instanceTypes := #[]
  staticTypes := #[]
  resolved := Array.replicate 8 none
  statics := none }

def pool4 : Array CpInfo := pool [(1, u "java/io/Serializable"), (0, .class_ 1), (0, u "java/lang/Object"), (0, .class_ 3)] 3

/-- java/io/Serializable -/
def k4 : Class := { plain "java/io/Serializable" (some 0) with
  accessFlags := 1537
  interfaces := #[]
  cf := some (fileOf pool4 2 #[] #[] 1537 4 #[] #[])
  fields := #[]
  methods := #[]
  instanceTypes := #[]
  staticTypes := #[]
  resolved := Array.replicate 8 none
  statics := none }

/-- the primitive byte -/
def k5 : Class := { plain "byte" none with kind := .primitive 'B', accessFlags := 0x411 }
/-- [B -/
def k6 : Class := { plain "[B" (some 0) with kind := .array 5 .byte, interfaces := #[3, 4], accessFlags := 1041 }

/-- the primitive int -/
def k7 : Class := { plain "int" none with kind := .primitive 'I', accessFlags := 0x411 }
/-- [I -/
def k8 : Class := { plain "[I" (some 0) with kind := .array 7 .int, interfaces := #[3, 4], accessFlags := 1041 }

def heap : Heap := #[]
def classes : Array Class := #[k0, k1, k2, k3, k4, k5, k6, k7, k8]
def interned : List (Array UInt16 × Addr) := []
def slotsUsed : Nat := 0
def theMethod : MethodId := ⟨1, 1⟩
def args0 : Array Value := #[.int 5, .int 6, .int 7, .int 8, .int 9]
def aboutOver (below : List Frame) : State where
  vm := { classes := classes, interned := interned.toArray }
  heap := heap
  slotsUsed := slotsUsed
  threads := #[{ frames := .invoking theMethod args0 :: below }]
def below0 : List Frame := [.native { method := ⟨0, 0⟩, args := #[] }]
def about1 : State := aboutOver below0
def p0 : Program := .bare "" "" ""
def e0 : Env := launch0.env 0 0 0
theorem w_frames : about1.frames = Frame.invoking theMethod args0 :: below0 := rfl
set_option maxRecDepth 65536 in
theorem w_args : argsFit about1.vm theMethod args0 = true := by decide +kernel
set_option maxRecDepth 65536 in
theorem w_heap : heapFits about1 = true := by decide +kernel
set_option maxRecDepth 65536 in
theorem w_runnable : about1.curStatus? = some .runnable := by decide +kernel
set_option maxRecDepth 65536 in
theorem w_alone : about1.alone = true := by decide +kernel
set_option maxRecDepth 65536 in
theorem w_named : about1.methodNamed? x = some theMethod := by decide +kernel
set_option maxRecDepth 65536 in
theorem w_hears : about1.hears theMethod below0 = true := by decide +kernel
set_option maxRecDepth 65536 in
theorem w_ripe : about1.ripe theMethod args0 below0 = true := by decide +kernel
theorem w_running : about1.status = .running := rfl
set_option maxRecDepth 65536 in
theorem w_room : about1.hasRoom e0.platform room_1 = true :=
  launch0.hasRoom_least _ room_1 (by decide +kernel) (by decide +kernel) (by decide +kernel) (by decide +kernel) (by decide +kernel) (by decide +kernel)
theorem allAtoms_all (ts : List Jvm.Cond) (a : Array Jvm.Value) (st : Jvm.State) : (allAtoms ts).before a st = ts.all (fun c => c.before a st) := by
  induction ts with
  | nil => rfl
  | cons c t ih =>
    show (Jvm.Cond.and c (allAtoms t)).before a st = _
    rw [Jvm.Cond.before_and, ih, List.all_cons]
def words1 : List Jvm.Cond := Jvm.Cond.code x code maxLocals ret :: tables_1
/-- a 'code' word, met by the world's own term for the bytes: nothing is compared byte by byte -/
theorem code_word {y : MethodName} {bytes : ByteArray} {mx : Nat} {rt : Option FieldType} {a : Array Value} {s : State} {m : MethodId} {meth : Method} {c : Code} (h1 : s.methodNamed? y = some m) (h2 : s.vm.method? m = some meth) (h3 : meth.code = some c) (h4 : c.code = bytes)
    (h5 : (c.maxLocals == mx && c.exceptionTable.isEmpty && decide (c.maxStack ≤ mostOperands) && decide (meth.sig.returnType = rt) && !meth.locks && decide (parseMethodDescriptor y.desc = some meth.sig)) = true) : (Jvm.Cond.code y bytes mx rt).before a s = true := by
  simp only [Bool.and_eq_true, beq_iff_eq, Bool.not_eq_true', decide_eq_true_eq] at h5
  obtain ⟨⟨⟨⟨⟨g1, g2⟩, g3⟩, g4⟩, g5⟩, g6⟩ := h5
  simp [Cond.before, Cond.holds, Cond.value, h1, h2, h3, h4, g1, g2, g3, g4, g5, g6]
def isCode : Jvm.Cond → Bool
  | .code _ _ _ _ => true
  | _ => false
theorem all_split {L : List Jvm.Cond} {P : Jvm.Cond → Bool} (h1 : L.all (fun c => isCode c || P c) = true) (h2 : ∀ c ∈ L.filter isCode, P c = true) : L.all P = true := by
  refine List.all_eq_true.mpr fun c hc => ?_
  have h := List.all_eq_true.mp h1 c hc
  rcases Bool.eq_false_or_eq_true (isCode c) with hi | hi
  · exact h2 c (List.mem_filter.mpr ⟨hc, hi⟩)
  · simpa [hi] using h
set_option maxRecDepth 65536 in
theorem w_c0 : (Jvm.Cond.code x code maxLocals ret).before args0 about1 = true := code_word (m := ⟨1, 1⟩) (meth := k1m1) (c := k1c1) (by decide +kernel) rfl rfl rfl (by decide +kernel)
set_option maxRecDepth 65536 in
theorem w_c1 : (Jvm.Cond.code ({ cls := "com/example/tilesweep/tilesweep/EqualIntervals", name := "<init>", desc := "(IDD)V" } : Jvm.MethodName) prog_13_method_1_code (6 : Nat) (Option.none : Option Jvm.ClassFile.FieldType)).before args0 about1 = true := code_word (m := ⟨2, 0⟩) (meth := k2m0) (c := k2c0) (by decide +kernel) rfl rfl rfl (by decide +kernel)
set_option maxRecDepth 65536 in
theorem w_c2 : (Jvm.Cond.code ({ cls := "java/lang/Object", name := "<init>", desc := "()V" } : Jvm.MethodName) object_method_1_code (1 : Nat) (Option.none : Option Jvm.ClassFile.FieldType)).before args0 about1 = true := code_word (m := ⟨0, 0⟩) (meth := k0m0) (c := k0c0) (by decide +kernel) rfl rfl rfl (by decide +kernel)
set_option maxRecDepth 65536 in
theorem w_c3 : (Jvm.Cond.code ({ cls := "com/example/tilesweep/tilesweep/EqualIntervals", name := "index", desc := "(D)I" } : Jvm.MethodName) prog_13_method_3_code (4 : Nat) (Option.some Jvm.ClassFile.FieldType.int)).before args0 about1 = true := code_word (m := ⟨2, 1⟩) (meth := k2m1) (c := k2c1) (by decide +kernel) rfl rfl rfl (by decide +kernel)
set_option maxRecDepth 65536 in
theorem w_c4 : (Jvm.Cond.code ({ cls := "com/example/tilesweep/tilesweep/EqualIntervalsIndexPinLaw", name := "expected", desc := "(IJJ)I" } : Jvm.MethodName) method_3_code (7 : Nat) (Option.some Jvm.ClassFile.FieldType.int)).before args0 about1 = true := code_word (m := ⟨1, 2⟩) (meth := k1m2) (c := k1c2) (by decide +kernel) rfl rfl rfl (by decide +kernel)
def codes1 : List Jvm.Cond := [Jvm.Cond.code x code maxLocals ret, Jvm.Cond.code ({ cls := "com/example/tilesweep/tilesweep/EqualIntervals", name := "<init>", desc := "(IDD)V" } : Jvm.MethodName) prog_13_method_1_code (6 : Nat) (Option.none : Option Jvm.ClassFile.FieldType), Jvm.Cond.code ({ cls := "java/lang/Object", name := "<init>", desc := "()V" } : Jvm.MethodName) object_method_1_code (1 : Nat) (Option.none : Option Jvm.ClassFile.FieldType), Jvm.Cond.code ({ cls := "com/example/tilesweep/tilesweep/EqualIntervals", name := "index", desc := "(D)I" } : Jvm.MethodName) prog_13_method_3_code (4 : Nat) (Option.some Jvm.ClassFile.FieldType.int), Jvm.Cond.code ({ cls := "com/example/tilesweep/tilesweep/EqualIntervalsIndexPinLaw", name := "expected", desc := "(IJJ)I" } : Jvm.MethodName) method_3_code (7 : Nat) (Option.some Jvm.ClassFile.FieldType.int)]
set_option maxRecDepth 65536 in
theorem codes_eq : words1.filter isCode = codes1 := rfl
theorem w_codes : ∀ c ∈ words1.filter isCode, c.before args0 about1 = true := by
  rw [codes_eq]
  intro c hc
  simp only [codes1, List.mem_cons, List.not_mem_nil, or_false] at hc
  rcases hc with rfl | rfl | rfl | rfl | rfl
  · exact w_c0
  · exact w_c1
  · exact w_c2
  · exact w_c3
  · exact w_c4
set_option maxRecDepth 65536 in
theorem w_t1 : (words1.take 24).all (fun c => isCode c || c.before args0 about1) = true := by decide +kernel
set_option maxRecDepth 65536 in
theorem w_t2 : (words1.drop 24).all (fun c => isCode c || c.before args0 about1) = true := by decide +kernel
theorem w_tables : (allAtoms (Jvm.Cond.code x code maxLocals ret :: tables_1)).before args0 about1 = true := by
  rw [allAtoms_all]
  show words1.all (fun c => c.before args0 about1) = true
  refine all_split ?_ w_codes
  rw [← List.take_append_drop 24 words1, List.all_append, w_t1, w_t2]
  rfl
set_option maxRecDepth 65536 in
theorem w_case : (Jvm.Cond.and given_1 narrow_1).before args0 about1 = true := by decide +kernel
theorem w_applies : (headSpec (Jvm.Cond.code x code maxLocals ret :: tables_1) room_1).applies x e0.platform about1 = true :=
  (Spec.applies_iff w_frames).mpr ⟨w_running, w_runnable, w_alone, w_named, w_hears, w_ripe, w_room, w_tables⟩
theorem atStart : AtStart classFile x code maxLocals ret World_1 tables_1 room_1 Calls_1 rest_1 Pre_1 launch0 p0 e0 about1 theMethod args0 below0 :=
  ⟨lists_1, trivial, launch0.admits_env _ _ _, launch0.least_env, fairChoices_fair.cas, fairChoices_fair.clock, w_frames, w_args, w_heap, w_applies, trivial, trivial, w_case⟩
end start1
theorem witness_1 : WitnessClaimed_1 := ⟨start1.p0, start1.e0, start1.about1, start1.theMethod, start1.args0, start1.below0, start1.atStart⟩
end Jvm.Pilot.@@N@@
