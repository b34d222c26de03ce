import JvmDerived
import JvmDerived.Pilot.@@N@@Statement
import JvmDerived.Pilot.@@N@@Code
set_option linter.unusedVariables false
set_option linter.unusedSimpArgs false
namespace Jvm.RoadKit
open Sem ClassFile Op Lib Jvm.Stand Jvm.Free Jvm.LawKit
section New
variable {p : Program} {l : Launch} {e : Env} {R : Room} {s : State} {m : MethodId} {args : Array Value} {below : List Frame} {meth : Method} {c : Code} {T : State} {locs : List Loc} {cells slots : Nat}
theorem retI (X : Stand p l e R s m args below meth c T locs cells slots) (hx : p.tables.exec = Jvm.exec) {pc : Nat} {Ls : Array Slot} {z : Int32} {rest : List Value} (hret : meth.sig.returnType = some .int) (hd : decode c.code pc = .ok (.ireturn, 1)) {fs : List Frame}
    (hl : ∀ (f : JFrame) (acts : List Action), f.method = m → f.locked = none → f.entered = [] → (doReturn e (T.setTop f) acts (some (.int z))).1 = T.setFrames fs) : Steps p.tables e below (T.setTop (mkF m pc Ls (.int z :: rest))) (T.setFrames fs) :=
  retOut X hx (t := .int) hret rfl (Or.inl ⟨rfl, Or.inl rfl, _, rfl⟩) hd hl
end New
end Jvm.RoadKit
namespace Jvm.Pilot.@@N@@
open Jvm Jvm.ClassFile Sem Op Lib Jvm.Free Jvm.Stand Jvm.LawKit Jvm.RoadKit Bundle Jvm.Pilot.@@N@@.Jvm.D
/-! own layer 0: a goal that is walked forward -/
def own_W (p : Program) (e : Env) (below : List Frame) (R : State → Outcome → Prop) (A : State) : Prop := ∃ s₂ o, Steps p.tables e below A s₂ ∧ R s₂ o
theorem own_go {p : Program} {e : Env} {below : List Frame} {R : State → Outcome → Prop} {A A' : State} (h : ∀ t, Steps p.tables e below A' t → Steps p.tables e below A t) (k : own_W p e below R A') : own_W p e below R A := by
  obtain ⟨s₂, o, st, r⟩ := k
  exact ⟨s₂, o, h _ st, r⟩
theorem own_any {Z : State} {h : Heap} {a : Addr} {C O O' n n' d d' : String} {w : Value} {a0 : Array Value} {k : Nat} (F : Fld Z h a O n d w) (E : Exa Z h a C) (wi : (Cond.instantiable C k).before a0 Z = true) (L : Laid Z a0 C O' n' d') : ∃ w', Fld Z h a O' n' d' w' := by
  obtain ⟨cell, cf, kf, i, f, h1, h2, h3, h4, h5, h6, h7⟩ := F
  obtain ⟨cell', k', e1, e2, e3, e4, e5⟩ := E
  cases h1.symm.trans e1
  obtain ⟨c, k2, cf', kf', i', f', a1, a2, a3, a4, a5, a6, -⟩ := L.spec
  cases e2.symm.trans a1
  cases e3.symm.trans a2
  obtain ⟨c3, k3, i1, i2, i3, -⟩ := Cond.instantiable_spec wi
  cases e2.symm.trans i1
  cases e3.symm.trans i2
  have hs := e5 i3
  have hlt : f'.slot < cell.slots.size := by rw [hs]; exact (Array.getElem?_eq_some_iff.mp a6).1
  exact ⟨_, cell, cf', kf', i', f', h1, a3, a4, h4, h5, a5, Array.getElem?_eq_getElem hlt⟩
theorem own_open {p : Program} {e : Env} {below : List Frame} {Q : State → Outcome → Prop} {A : State} (h : ∀ R : State → Outcome → Prop, (∀ s₂ o, Q s₂ o → R s₂ o) → own_W p e below R A) : ∃ s₂ o, Steps p.tables e below A s₂ ∧ Q s₂ o := h Q fun _ _ q => q
/-! own layer 1: doubles as whole numbers of 2^k units (value n * 2^(k - 1074)), over the library's zval -/
section OwnFP
open Jvm.FP Jvm.FP.Core Jvm.Free.Fl
/-- x is finite and worth v units of 2^-1074 -/
def own_Is (x : UInt64) (v : Int) : Prop := DFin x ∧ zval b64 (val64 x) = v
/-- some double is worth v -/
def own_Rep (v : Int) : Prop := ∃ d : Datum, Jvm.FP.Core.fits b64 d ∧ (∃ s c q, d = .fin s c q) ∧ zval b64 d = v
/-- x is finite and worth n units of 2^(k - 1074) -/
def own_At (k : Nat) (x : UInt64) (n : Int) : Prop := own_Is x (n * 2 ^ k)
theorem own_Is.rep {x : UInt64} {v : Int} (h : own_Is x v) : own_Rep v := ⟨val64 x, val64_fits x, h.1, h.2⟩
theorem own_Is.nn {x : UInt64} {v : Int} (h : own_Is x v) : NoNaN64 x := noNaN64_no.mpr h.1.notNaN
theorem own_At.nn {k : Nat} {x : UInt64} {n : Int} (h : own_At k x n) : NoNaN64 x := own_Is.nn h
theorem own_At.cast {k : Nat} {x : UInt64} {n n' : Int} (h : own_At k x n) (e : n = n') : own_At k x n' := e ▸ h
theorem own_zval_fin (s : Bool) (c : Nat) (q : Int) : zval b64 (.fin s c q) = signed s (inUnits c q b64.qmin) := rfl
theorem own_pos_pow (k : Nat) : (0 : Int) < 2 ^ k := Int.pow_pos (by decide)
theorem own_signed_abs (n : Int) : signed (decide (n < 0)) n.natAbs = n := by
  by_cases h : n < 0
  · simp only [h, decide_true, signed, if_true]; omega
  · simp only [h, decide_false, signed]; simp; omega
theorem own_rep_mk (n : Int) (k : Nat) (hn : n.natAbs < 2 ^ 53) (hk : k ≤ 2045) : own_Rep (n * 2 ^ k) := by
  have hq : b64.qmin = -1074 := qmin_b64
  have hm : b64.qmax = 971 := by decide
  obtain ⟨c', q', h1, h2⟩ := round_exact good_b64 (decide (n < 0)) (c := n.natAbs) (q := (k : Int) + b64.qmin) hn (by omega) (by omega)
  refine ⟨.fin (decide (n < 0)) c' q', ?_, ⟨_, _, _, rfl⟩, ?_⟩
  · rw [← h1]; exact round_fits good_b64 _
  · rw [own_zval_fin, h2]
    unfold inUnits
    rw [show ((k : Int) + b64.qmin - b64.qmin).toNat = k by omega, signed_mul, own_signed_abs]
    simp
theorem own_rep_top {v : Int} (h : own_Rep v) : -((b64.tails * 2 ^ (b64.exps - 2) : Nat) : Int) < v ∧ v < ((b64.tails * 2 ^ (b64.exps - 2) : Nat) : Int) := by
  obtain ⟨d, hf, ⟨s, c, q, rfl⟩, rfl⟩ := h
  have hz := zmag_lt_top good_b64 hf
  rw [own_zval_fin]
  generalize b64.tails * 2 ^ (b64.exps - 2) = top at hz ⊢
  generalize inUnits c q b64.qmin = z at hz ⊢
  cases s <;> simp only [signed] <;> simp <;> omega
theorem own_fin_of {x : UInt64} {lo hi : Int} (hx : val64 x ≠ .nan) (rl : own_Rep lo) (rh : own_Rep hi) (h1 : lo ≤ zval b64 (val64 x)) (h2 : zval b64 (val64 x) ≤ hi) : DFin x := by
  have t1 := own_rep_top rl
  have t2 := own_rep_top rh
  unfold DFin
  cases h : val64 x with
  | nan => exact absurd h hx
  | fin s c q => exact ⟨s, c, q, rfl⟩
  | inf s =>
    rw [h] at h1 h2
    have e : zval b64 (.inf s) = signed s (b64.tails * 2 ^ (b64.exps - 2)) := rfl
    rw [e] at h1 h2
    generalize b64.tails * 2 ^ (b64.exps - 2) = top at *
    exfalso
    cases s <;> simp only [signed] at h1 h2 <;> simp at h1 h2 <;> omega
theorem own_add {a b : UInt64} {v w lo hi : Int} (ha : own_Is a v) (hb : own_Is b w) (rl : own_Rep lo) (rh : own_Rep hi) (h1 : lo ≤ v + w) (h2 : v + w ≤ hi) :
    ∃ u, own_Is (FP.dadd a b) u ∧ lo ≤ u ∧ u ≤ hi := by
  have hn : val64 (Core.dadd a b) ≠ .nan := (notNaN_iff _).mp (dadd_out ha.1.notNaN hb.1)
  obtain ⟨dl, fl, ⟨sl, cl, ql, el⟩, zl⟩ := rl
  obtain ⟨dh, fh, ⟨sh, ch, qh, eh⟩, zh⟩ := rh
  have g1 := sum_ge good_b64 ha.1 hb.1 (val64_fits a) (val64_fits b) fl (by rw [el]; nofun) (by rw [ha.2, hb.2, zl]; exact h1)
  have g2 := sum_le good_b64 ha.1 hb.1 (val64_fits a) (val64_fits b) fh (by rw [eh]; nofun) (by rw [ha.2, hb.2, zh]; exact h2)
  rw [← val64_dadd, zl] at g1
  rw [← val64_dadd, zh] at g2
  exact ⟨_, ⟨own_fin_of hn ⟨dl, fl, ⟨sl, cl, ql, el⟩, zl⟩ ⟨dh, fh, ⟨sh, ch, qh, eh⟩, zh⟩ g1 g2, rfl⟩, g1, g2⟩
theorem own_cneg {b : UInt64} {w : Int} (hb : own_Is b w) : own_Is (Core.dneg b) (-w) := by
  obtain ⟨⟨s, c, q, e⟩, h⟩ := hb
  refine ⟨⟨!s, c, q, ?_⟩, ?_⟩
  · rw [Jvm.FP.Core.val64_dneg, e]; rfl
  · rw [Jvm.FP.Core.val64_dneg, zval_negate, h]
theorem own_sub {a b : UInt64} {v w lo hi : Int} (ha : own_Is a v) (hb : own_Is b w) (rl : own_Rep lo) (rh : own_Rep hi) (h1 : lo ≤ v - w) (h2 : v - w ≤ hi) :
    ∃ u, own_Is (FP.dsub a b) u ∧ lo ≤ u ∧ u ≤ hi := by
  have e : FP.dsub a b = FP.dadd a (Core.dneg b) := dsub_eq a b
  rw [e]
  exact own_add ha (own_cneg hb) rl rh (by omega) (by omega)
theorem own_mul {a b : UInt64} {v w lo hi : Int} (ha : own_Is a v) (hb : own_Is b w) (rl : own_Rep lo) (rh : own_Rep hi) (h1 : lo * 2 ^ 1074 ≤ v * w) (h2 : v * w ≤ hi * 2 ^ 1074) :
    ∃ u, own_Is (FP.dmul a b) u ∧ lo ≤ u ∧ u ≤ hi := by
  have hn : val64 (Core.dmul a b) ≠ .nan := (notNaN_iff _).mp (dmul_out ha.1 hb.1)
  obtain ⟨⟨s, c, q, ea⟩, za⟩ := ha
  obtain ⟨⟨t, d, r, eb⟩, zb⟩ := hb
  have fa := val64_fits a
  have fb := val64_fits b
  rw [ea] at fa za
  rw [eb] at fb zb
  obtain ⟨p1, p2, p3⟩ := product_units fa fb
  have ev : signed (s != t) (inUnits (c * d) (q + r) (2 * b64.qmin)) = v * w := by rw [p3, signed_xor, ← za, ← zb]; rfl
  have eq : (b64.qmin - 2 * b64.qmin).toNat = 1074 := by rw [qmin_b64]; rfl
  have hle : 2 * b64.qmin ≤ b64.qmin := by rw [qmin_b64]; decide
  have em : val64 (Core.dmul a b) = round b64 (.fin (s != t) (c * d) (q + r)) := by rw [val64_dmul, ea, eb, p1]
  obtain ⟨dl, fl, ⟨sl, cl, ql, el⟩, zl⟩ := rl
  obtain ⟨dh, fh, ⟨sh, ch, qh, eh⟩, zh⟩ := rh
  have g1 := zval_round_ge good_b64 (s := (s != t)) (c := c * d) (q := q + r) (e0 := 2 * b64.qmin) (V := dl) fl (by rw [el]; nofun) hle p2 (by rw [ev, eq, zl]; simpa using h1)
  have g2 := zval_round_le good_b64 (s := (s != t)) (c := c * d) (q := q + r) (e0 := 2 * b64.qmin) (V := dh) fh (by rw [eh]; nofun) hle p2 (by rw [ev, eq, zh]; simpa using h2)
  rw [← em, zl] at g1
  rw [← em, zh] at g2
  exact ⟨_, ⟨own_fin_of hn ⟨dl, fl, ⟨sl, cl, ql, el⟩, zl⟩ ⟨dh, fh, ⟨sh, ch, qh, eh⟩, zh⟩ g1 g2, rfl⟩, g1, g2⟩
theorem own_signed_nonneg {s : Bool} {z : Nat} {v : Int} (h : signed s z = v) (hv : 0 ≤ v) : (z : Int) = v := by
  cases s <;> simp only [signed] at h <;> simp at h <;> omega
theorem own_div_up (K : Nat) {c d q1 r1 z : Nat} {t f : Nat} (h : c * 2 ^ q1 * 2 ^ K ≤ z * (d * 2 ^ r1)) (e : t + r1 = q1 + K + f) : c * 2 ^ t ≤ z * 2 ^ f * d := by
  have hp : 0 < 2 ^ r1 := Nat.two_pow_pos r1
  refine Nat.le_of_mul_le_mul_right (c := 2 ^ r1) ?_ hp
  calc c * 2 ^ t * 2 ^ r1 = c * 2 ^ (t + r1) := by rw [Nat.pow_add]; ac_rfl
    _ = (c * 2 ^ q1 * 2 ^ K) * 2 ^ f := by rw [e, Nat.pow_add, Nat.pow_add]; ac_rfl
    _ ≤ (z * (d * 2 ^ r1)) * 2 ^ f := Nat.mul_le_mul_right _ h
    _ = z * 2 ^ f * d * 2 ^ r1 := by ac_rfl
theorem own_div_dn (K : Nat) {c d q1 r1 z : Nat} {t f : Nat} (h : z * (d * 2 ^ r1) ≤ c * 2 ^ q1 * 2 ^ K) (e : t + r1 = q1 + K + f) : z * 2 ^ f * d ≤ c * 2 ^ t := by
  have hp : 0 < 2 ^ r1 := Nat.two_pow_pos r1
  refine Nat.le_of_mul_le_mul_right (c := 2 ^ r1) ?_ hp
  calc z * 2 ^ f * d * 2 ^ r1 = (z * (d * 2 ^ r1)) * 2 ^ f := by ac_rfl
    _ ≤ (c * 2 ^ q1 * 2 ^ K) * 2 ^ f := Nat.mul_le_mul_right _ h
    _ = c * 2 ^ (t + r1) := by rw [e, Nat.pow_add, Nat.pow_add]; ac_rfl
    _ = c * 2 ^ t * 2 ^ r1 := by rw [Nat.pow_add]; ac_rfl
theorem own_ac2 (c A w B : Int) : c * A * (w * B) = (c * w) * (A * B) := by ac_rfl
/-- the quotient of two numbers at or above nought -/
theorem own_div0 {a b : UInt64} {v w lo hi : Int} (ha : own_Is a v) (hb : own_Is b w) (hv : 0 ≤ v) (hw : 0 < w) (rl : own_Rep lo) (rh : own_Rep hi) (h0 : 0 ≤ lo) (h1 : lo * w ≤ v * 2 ^ 1074) (h2 : v * 2 ^ 1074 ≤ hi * w) :
    ∃ u, own_Is (FP.ddiv a b) u ∧ lo ≤ u ∧ u ≤ hi := by
  have hq : b64.qmin = -1074 := qmin_b64
  obtain ⟨⟨s, c, q, ea⟩, za⟩ := ha
  obtain ⟨⟨t, d, r, eb⟩, zb⟩ := hb
  have fa := val64_fits a
  have fb := val64_fits b
  rw [ea] at fa za
  rw [eb] at fb zb
  rw [own_zval_fin] at za zb
  have ma := own_signed_nonneg za hv
  have mb := own_signed_nonneg zb (by omega)
  have hd : d ≠ 0 := by
    rintro rfl
    simp [inUnits] at mb; omega
  have hs : c = 0 ∨ (s != t) = false := by
    have ht : t = false := by
      cases t with
      | false => rfl
      | true => simp only [signed] at zb; simp at zb; omega
    cases hs : s with
    | false => right; rw [ht]; rfl
    | true =>
      left
      rw [hs] at za
      simp only [signed] at za; simp at za
      have : inUnits c q b64.qmin = 0 := by omega
      unfold inUnits at this
      have hp := Nat.two_pow_pos (q - b64.qmin).toNat
      rcases Nat.mul_eq_zero.mp this with h | h
      · exact h
      · omega
  have ev : val64 (Core.ddiv a b) = roundRatio b64 (s != t) c d (q - r) := by rw [val64_ddiv, ea, eb]; simp only [quotient, if_neg hd]
  have hn : val64 (Core.ddiv a b) ≠ .nan := by rw [ev]; exact roundRatio_ne_nan _ _ _ _ _
  obtain ⟨dl, fl, ⟨sl, cl, ql, el⟩, zl⟩ := rl
  obtain ⟨dh, fh, ⟨sh, ch, qh, eh⟩, zh⟩ := rh
  have hhi : 0 ≤ hi := by
    have : 0 ≤ hi * w := Int.le_trans (Int.mul_nonneg hv (Int.le_of_lt (own_pos_pow _))) h2
    exact Int.nonneg_of_mul_nonneg_left this hw
  have ml : (zmag b64 dl : Int) = lo := own_signed_nonneg zl h0
  have mh : (zmag b64 dh : Int) = hi := own_signed_nonneg zh hhi
  have e0 : ∃ e0 : Int, e0 ≤ b64.qmin ∧ e0 ≤ q - r := ⟨min b64.qmin (q - r), Int.min_le_left _ _, Int.min_le_right _ _⟩
  obtain ⟨e0, k1, k2⟩ := e0
  have fq := fa.2.1
  have fr := fb.2.1
  have ee : ((q - r) - e0).toNat + (r - b64.qmin).toNat = (q - b64.qmin).toNat + 1074 + (b64.qmin - e0).toNat := by omega
  have g1 : zmag b64 dl ≤ zmag b64 (roundRatio b64 (s != t) c d (q - r)) := by
    refine zmag_roundRatio_ge good_b64 (e0 := e0) (Nat.pos_of_ne_zero hd) fl k1 k2 ?_
    refine own_div_dn 1074 (q1 := (q - b64.qmin).toNat) (r1 := (r - b64.qmin).toNat) ?_ ee
    have h := h1
    rw [← ml, ← ma, ← mb] at h
    unfold inUnits at h
    exact_mod_cast h
  have g2 : zmag b64 (roundRatio b64 (s != t) c d (q - r)) ≤ zmag b64 dh := by
    refine zmag_roundRatio_le good_b64 (e0 := e0) (Nat.pos_of_ne_zero hd) fh (by rw [eh]; nofun) k1 k2 ?_
    refine own_div_up 1074 (q1 := (q - b64.qmin).toNat) (r1 := (r - b64.qmin).toNat) ?_ ee
    have h := h2
    rw [← mh, ← ma, ← mb] at h
    unfold inUnits at h
    exact_mod_cast h
  have gz : zval b64 (val64 (Core.ddiv a b)) = (zmag b64 (roundRatio b64 (s != t) c d (q - r)) : Int) := by
    rw [ev]
    unfold zval
    rw [sgn_roundRatio]
    rcases hs with rfl | hs
    · have : zmag b64 (roundRatio b64 (s != t) 0 d (q - r)) = 0 := by simp [roundRatio, zmag, inUnits]
      rw [this]; simp [signed]
    · rw [hs]; simp [signed]
  have f1 : lo ≤ zval b64 (val64 (Core.ddiv a b)) := by rw [gz, ← ml]; exact_mod_cast g1
  have f2 : zval b64 (val64 (Core.ddiv a b)) ≤ hi := by rw [gz, ← mh]; exact_mod_cast g2
  exact ⟨_, ⟨own_fin_of hn ⟨dl, fl, ⟨sl, cl, ql, el⟩, zl⟩ ⟨dh, fh, ⟨sh, ch, qh, eh⟩, zh⟩ f1 f2, rfl⟩, f1, f2⟩
/-- the quotient by a number above nought, where it comes out whole: v * 2^1074 = u * w -/
theorem own_div {a b : UInt64} {v w u : Int} (ha : own_Is a v) (hb : own_Is b w) (hw : 0 < w) (ru : own_Rep u) (h : u * w = v * 2 ^ 1074) : own_Is (FP.ddiv a b) u := by
  by_cases hv : 0 ≤ v
  · have hu : 0 ≤ u := by
      have : 0 ≤ u * w := by rw [h]; exact Int.mul_nonneg hv (Int.le_of_lt (own_pos_pow _))
      exact Int.nonneg_of_mul_nonneg_left this hw
    obtain ⟨z, hz, z1, z2⟩ := own_div0 ha hb hv hw ru ru hu (Int.le_of_eq h) (Int.le_of_eq h.symm)
    exact (Int.le_antisymm z2 z1) ▸ hz
  · have hneg : own_Rep (-u) := by
      obtain ⟨d, h1, ⟨s, c, q, rfl⟩, h3⟩ := ru
      exact ⟨.fin (!s) c q, h1, ⟨_, _, _, rfl⟩, by rw [← h3]; exact zval_negate b64 (.fin s c q)⟩
    have hp := own_pos_pow 1074
    have hu : 0 ≤ -u := by
      have : u * w < 0 := by rw [h]; exact Int.mul_neg_of_neg_of_pos (by omega) hp
      by_cases q : 0 ≤ -u
      · exact q
      · exact absurd (Int.mul_nonneg (show 0 ≤ u by omega) (Int.le_of_lt hw)) (by omega)
    have h' : -u * w = -v * 2 ^ 1074 := by rw [Int.neg_mul, Int.neg_mul, h]
    obtain ⟨z, hz, z1, z2⟩ := own_div0 (own_cneg ha) hb (by omega) hw hneg hneg hu (Int.le_of_eq h') (Int.le_of_eq h'.symm)
    have e : Core.ddiv (Core.dneg a) b = Core.dneg (Core.ddiv a b) := ddiv_dneg a b
    have nn : val64 (Core.ddiv a b) ≠ .nan := by
      have q := hz.1.ne_nan
      intro k
      apply q
      show val64 (Core.ddiv (Core.dneg a) b) = .nan
      rw [e, Jvm.FP.Core.val64_dneg, k]; rfl
    have hz2 : own_Is (Core.dneg (Core.ddiv (Core.dneg a) b)) (-z) := own_cneg hz
    rw [e, dneg_dneg nn] at hz2
    have : -z = u := by omega
    exact this ▸ hz2
theorem own_i2d (n : Int32) : own_At 1074 (FP.i2d n) n.toInt := by
  refine ⟨Core.i2d_fin n, ?_⟩
  rw [show FP.i2d n = Core.i2d n from rfl, DInt_zval (i2d_int n)]
  unfold one64; norm_cast
theorem own_l2d (n : Int64) (h : n.toInt.natAbs ≤ 2 ^ 53) : own_At 1074 (FP.l2d n) n.toInt := by
  refine ⟨Core.l2d_fin n, ?_⟩
  rw [show FP.l2d n = Core.l2d n from rfl, DInt_zval (l2d_int h)]
  unfold one64; norm_cast
theorem own_cmp {a b : UInt64} {v w : Int} (ha : own_Is a v) (hb : own_Is b w) : FP.dcmp a b = some (compare v w) := by
  rw [show FP.dcmp a b = Core.dcmp a b from rfl, dcmp_zval ha.1.ne_nan hb.1.ne_nan, ha.2, hb.2]
theorem own_cmpV {a b : UInt64} {v w : Int} (ha : own_Is a v) (hb : own_Is b w) (o : CmpOp) : cmpValue (FP.dcmp a b) o = if v < w then -1 else if v = w then 0 else 1 := by
  rw [own_cmp ha hb, compare_ite]
  by_cases h1 : v < w
  · simp only [h1, if_true]; rfl
  · by_cases h2 : v = w
    · simp only [h1, h2, if_true, if_false, Int.lt_irrefl]; rfl
    · simp only [h1, h2, if_false]; rfl
theorem own_cmpAt {k : Nat} {a b : UInt64} {v w : Int} (ha : own_At k a v) (hb : own_At k b w) (o : CmpOp) : cmpValue (FP.dcmp a b) o = if v < w then -1 else if v = w then 0 else 1 := by
  rw [own_cmpV ha hb o]
  have hp := own_pos_pow k
  have e1 : (v * 2 ^ k < w * 2 ^ k) ↔ v < w := ⟨fun h => Int.lt_of_mul_lt_mul_right h (Int.le_of_lt hp), fun h => Int.mul_lt_mul_of_pos_right h hp⟩
  have e2 : (v * 2 ^ k = w * 2 ^ k) ↔ v = w := ⟨fun h => Int.eq_of_mul_eq_mul_right (Int.ne_of_gt hp) h, fun h => by rw [h]⟩
  simp only [e1, e2]
theorem own_addAt {k : Nat} {a b : UInt64} {v w : Int} (ha : own_At k a v) (hb : own_At k b w) (hk : k ≤ 2045) (h : (v + w).natAbs < 2 ^ 53) : own_At k (FP.dadd a b) (v + w) := by
  have r := own_rep_mk (v + w) k h hk
  have e : (v + w) * 2 ^ k = v * 2 ^ k + w * 2 ^ k := Int.add_mul _ _ _
  obtain ⟨u, hu, u1, u2⟩ := own_add ha hb r r (Int.le_of_eq e) (Int.le_of_eq e.symm)
  have eu := Int.le_antisymm u2 u1
  rw [eu] at hu
  exact hu
theorem own_subAt {k : Nat} {a b : UInt64} {v w : Int} (ha : own_At k a v) (hb : own_At k b w) (hk : k ≤ 2045) (h : (v - w).natAbs < 2 ^ 53) : own_At k (FP.dsub a b) (v - w) := by
  have r := own_rep_mk (v - w) k h hk
  have e : (v - w) * 2 ^ k = v * 2 ^ k - w * 2 ^ k := Int.sub_mul _ _ _
  obtain ⟨u, hu, u1, u2⟩ := own_sub ha hb r r (Int.le_of_eq e) (Int.le_of_eq e.symm)
  have eu := Int.le_antisymm u2 u1
  rw [eu] at hu
  exact hu
theorem own_mulAt {k j i : Nat} {a b : UInt64} {v w : Int} (ha : own_At k a v) (hb : own_At j b w) (hi : i ≤ 2045) (hk : k + j = i + 1074) (h : (v * w).natAbs < 2 ^ 53) : own_At i (FP.dmul a b) (v * w) := by
  have r := own_rep_mk (v * w) i h hi
  have e : (v * w) * 2 ^ i * 2 ^ 1074 = (v * 2 ^ k) * (w * 2 ^ j) := by
    rw [own_ac2, Int.mul_assoc (v * w), ← Int.pow_add, ← Int.pow_add, hk]
  obtain ⟨u, hu, u1, u2⟩ := own_mul ha hb r r (Int.le_of_eq e) (Int.le_of_eq e.symm)
  have eu := Int.le_antisymm u2 u1
  rw [eu] at hu
  exact hu
theorem own_divAt {k j i : Nat} {a b : UInt64} {v w c : Int} (ha : own_At k a v) (hb : own_At j b w) (hw : 0 < w) (hi : i ≤ 2045) (hk : k + 1074 = i + j) (h : c.natAbs < 2 ^ 53) (hc : c * w = v) : own_At i (FP.ddiv a b) c := by
  refine own_div ha hb (Int.mul_pos hw (own_pos_pow _)) (own_rep_mk c i h hi) ?_
  rw [own_ac2, hc, Int.mul_assoc v, ← Int.pow_add, ← Int.pow_add, hk]
theorem own_up {k j i : Nat} {a : UInt64} {v : Int} (ha : own_At k a v) (hk : k = i + j) : own_At i a (v * 2 ^ j) := by
  unfold own_At at *
  rw [Int.mul_assoc, ← Int.pow_add, Nat.add_comm j i, ← hk]; exact ha
theorem own_down {k j i : Nat} {a : UInt64} {v : Int} (ha : own_At i a (v * 2 ^ j)) (hk : k = i + j) : own_At k a v := by
  unfold own_At at *
  rw [Int.mul_assoc, ← Int.pow_add, Nat.add_comm j i, ← hk] at ha; exact ha
theorem own_zero {k : Nat} : own_At k 0 0 := ⟨⟨false, 0, _, val64_zero⟩, by rw [zval64_zero]; simp⟩
theorem own_c_gt {a b : UInt64} {v w : Int} (ha : own_Is a v) (hb : own_Is b w) (o : CmpOp) : (0 : Int32) < cmpValue (FP.dcmp a b) o ↔ w < v := by
  rw [own_cmpV ha hb o]
  split
  · exact ⟨fun h => absurd h (by decide), fun h => by omega⟩
  · split
    · exact ⟨fun h => absurd h (by decide), fun h => by omega⟩
    · exact ⟨fun h => by omega, fun h => by decide⟩
theorem own_c_lt {a b : UInt64} {v w : Int} (ha : own_Is a v) (hb : own_Is b w) (o : CmpOp) : cmpValue (FP.dcmp a b) o < (0 : Int32) ↔ v < w := by
  rw [own_cmpV ha hb o]
  split
  · exact ⟨fun h => by omega, fun h => by decide⟩
  · split
    · exact ⟨fun h => absurd h (by decide), fun h => by omega⟩
    · exact ⟨fun h => absurd h (by decide), fun h => by omega⟩
theorem own_c_eq {a b : UInt64} {v w : Int} (ha : own_Is a v) (hb : own_Is b w) (o : CmpOp) : cmpValue (FP.dcmp a b) o = (0 : Int32) ↔ v = w := by
  rw [own_cmpV ha hb o]
  split
  · exact ⟨fun h => absurd h (by decide), fun h => by omega⟩
  · split
    · exact ⟨fun h => by omega, fun h => by decide⟩
    · exact ⟨fun h => absurd h (by decide), fun h => by omega⟩
theorem own_mul_lt {k : Nat} {v w : Int} : (v * 2 ^ k < w * 2 ^ k) ↔ v < w :=
  ⟨fun h => Int.lt_of_mul_lt_mul_right h (Int.le_of_lt (own_pos_pow k)), fun h => Int.mul_lt_mul_of_pos_right h (own_pos_pow k)⟩
theorem own_mul_eq {k : Nat} {v w : Int} : (v * 2 ^ k = w * 2 ^ k) ↔ v = w :=
  ⟨fun h => Int.eq_of_mul_eq_mul_right (Int.ne_of_gt (own_pos_pow k)) h, fun h => by rw [h]⟩
theorem own_ca_gt {k : Nat} {a b : UInt64} {v w : Int} (ha : own_At k a v) (hb : own_At k b w) (o : CmpOp) : (0 : Int32) < cmpValue (FP.dcmp a b) o ↔ w < v := (own_c_gt ha hb o).trans own_mul_lt
theorem own_ca_lt {k : Nat} {a b : UInt64} {v w : Int} (ha : own_At k a v) (hb : own_At k b w) (o : CmpOp) : cmpValue (FP.dcmp a b) o < (0 : Int32) ↔ v < w := (own_c_lt ha hb o).trans own_mul_lt
theorem own_ca_eq {k : Nat} {a b : UInt64} {v w : Int} (ha : own_At k a v) (hb : own_At k b w) (o : CmpOp) : cmpValue (FP.dcmp a b) o = (0 : Int32) ↔ v = w := (own_c_eq ha hb o).trans own_mul_eq
theorem own_neg {k : Nat} {x : UInt64} {n : Int} (h : own_At k x n) : own_At k (FP.dneg x) (-n) := by
  obtain ⟨⟨s, c, q, e⟩, hz⟩ := h
  have hv : val64 (FP.dneg x) = negate (val64 x) := Jvm.FP.val64_dneg x
  refine ⟨⟨!s, c, q, by rw [hv, e]; rfl⟩, ?_⟩
  rw [hv, zval_negate, hz, Int.neg_mul]
end OwnFP
/-! own layer 2: int and long comparisons -/
section OwnInt
theorem own_l_gt (x y : Int64) : (0 : Int32) < lcmpW x y ↔ y < x := by
  show (0 : Int32) < (if x > y then (1 : Int32) else if x = y then 0 else -1) ↔ y < x
  by_cases h1 : x > y
  · rw [if_pos h1]; exact ⟨fun _ => h1, fun _ => by decide⟩
  · rw [if_neg h1]
    by_cases h2 : x = y
    · rw [if_pos h2]; exact ⟨fun h => absurd h (by decide), fun h => absurd h h1⟩
    · rw [if_neg h2]; exact ⟨fun h => absurd h (by decide), fun h => absurd h h1⟩
theorem own_l_eq (x y : Int64) : lcmpW x y = (0 : Int32) ↔ x = y := by
  show (if x > y then (1 : Int32) else if x = y then 0 else -1) = 0 ↔ x = y
  by_cases h1 : x > y
  · have h3 := Int64.lt_iff_toInt_lt.mp h1
    rw [if_pos h1]; exact ⟨fun h => absurd h (by decide), fun h => by rw [h] at h3; omega⟩
  · rw [if_neg h1]
    by_cases h2 : x = y
    · rw [if_pos h2]; exact ⟨fun _ => h2, fun _ => rfl⟩
    · rw [if_neg h2]; exact ⟨fun h => absurd h (by decide), fun h => absurd h h2⟩
theorem own_l_lt (x y : Int64) : lcmpW x y < (0 : Int32) ↔ x < y := by
  show (if x > y then (1 : Int32) else if x = y then 0 else -1) < 0 ↔ x < y
  by_cases h1 : x > y
  · have h3 := Int64.lt_iff_toInt_lt.mp h1
    rw [if_pos h1]; exact ⟨fun h => absurd h (by decide), fun h => by have := Int64.lt_iff_toInt_lt.mp h; omega⟩
  · rw [if_neg h1]
    by_cases h2 : x = y
    · rw [if_pos h2]; exact ⟨fun h => absurd h (by decide), fun h => by rw [h2] at h; have := Int64.lt_iff_toInt_lt.mp h; omega⟩
    · rw [if_neg h2]
      have q1 : ¬ y.toInt < x.toInt := fun h => h1 (Int64.lt_iff_toInt_lt.mpr h)
      have q2 : x.toInt ≠ y.toInt := fun h => h2 (Int64.toInt_inj.mp h)
      exact ⟨fun _ => Int64.lt_iff_toInt_lt.mpr (by omega), fun _ => by decide⟩
theorem own_i2l (a : Int32) : a.toInt64.toInt = a.toInt := by simp
theorem own_i32_lo (a : Int32) : -2147483648 ≤ a.toInt := a.le_toInt
theorem own_i32_hi (a : Int32) : a.toInt < 2147483648 := by have := a.toInt_lt; omega
theorem own_mask (x m : Int32) (k : Nat) (hm : m.toBitVec.toNat = 2 ^ k - 1) (hk : k ≤ 31) : (x &&& m).toInt = ((x.toBitVec.toNat % 2 ^ k : Nat) : Int) := by
  have e : (x &&& m).toBitVec.toNat = x.toBitVec.toNat % 2 ^ k := by
    rw [Int32.toBitVec_and, BitVec.toNat_and, hm]; exact Nat.and_two_pow_sub_one_eq_mod _ k
  have hlt : x.toBitVec.toNat % 2 ^ k < 2 ^ 31 := Nat.lt_of_lt_of_le (Nat.mod_lt _ (Nat.two_pow_pos k)) (Nat.pow_le_pow_right (by decide) hk)
  show (x &&& m).toBitVec.toInt = _
  rw [BitVec.toInt_eq_toNat_of_lt (by rw [e]; omega), e]
theorem own_mask_bd (x m : Int32) (k : Nat) (hm : m.toBitVec.toNat = 2 ^ k - 1) (hk : k ≤ 31) : 0 ≤ (x &&& m).toInt ∧ (x &&& m).toInt < ((2 ^ k : Nat) : Int) := by
  rw [own_mask x m k hm hk]
  have := Nat.mod_lt x.toBitVec.toNat (Nat.two_pow_pos k)
  omega
end OwnInt

def own_key (a b : Int32) : Int64 := ((a.toInt64 <<< ((32 : Int32) &&& 0x3f).toInt64) + (b.toInt64 + (2147483648 : Int64)))
theorem own_key_toInt (a b : Int32) : (own_key a b).toInt = a.toInt * 4294967296 + b.toInt + 2147483648 := by
  have h1 := own_i32_lo a
  have h2 := own_i32_hi a
  have h3 := own_i32_lo b
  have h4 := own_i32_hi b
  have e1 : (a.toInt64 <<< ((32 : Int32) &&& 0x3f).toInt64) = a.toInt64 * 4294967296 := by
    have : (((32 : Int32) &&& 0x3f).toInt64) = 32 := by decide
    rw [this]
    apply Int64.toBitVec_inj.mp
    rw [Int64.toBitVec_shiftLeft, Int64.toBitVec_mul]
    show a.toInt64.toBitVec <<< ((32#64).smod 64) = a.toInt64.toBitVec * 4294967296#64
    rw [show (32#64 : BitVec 64).smod 64 = 32#64 by decide, BitVec.shiftLeft_eq', BitVec.shiftLeft_eq_mul_twoPow]
    rfl
  have e2 : (a.toInt64 * 4294967296).toInt = a.toInt * 4294967296 := by
    rw [Jvm.FP.Core.int64_mul (by rw [own_i2l]; show _ ≤ a.toInt * 4294967296; omega) (by rw [own_i2l]; show a.toInt * 4294967296 < _; omega), own_i2l]; rfl
  have e3 : (b.toInt64 + 2147483648).toInt = b.toInt + 2147483648 := by
    rw [Jvm.FP.Core.int64_add (by rw [own_i2l]; show _ ≤ b.toInt + 2147483648; omega) (by rw [own_i2l]; show b.toInt + 2147483648 < _; omega), own_i2l]; rfl
  unfold own_key
  rw [e1, Jvm.FP.Core.int64_add (by rw [e2, e3]; omega) (by rw [e2, e3]; omega), e2, e3]; omega
def own_lex (a b c d : Int) : Prop := a < c ∨ (a = c ∧ b < d)
theorem own_key_lt (a b c d : Int32) : own_key a b < own_key c d ↔ own_lex a.toInt b.toInt c.toInt d.toInt := by
  have h1 := own_i32_lo b
  have h2 := own_i32_hi b
  have h3 := own_i32_lo d
  have h4 := own_i32_hi d
  rw [Int64.lt_iff_toInt_lt, own_key_toInt, own_key_toInt]
  unfold own_lex
  omega
def own_lexV (a b c d : Int) : Int32 := if a < c ∨ (a = c ∧ b < d) then 1 else 0
theorem own_lexV_t {a b c d : Int} (h : own_lex a b c d) : own_lexV a b c d = 1 := if_pos h
theorem own_lexV_f {a b c d : Int} (h : ¬ own_lex a b c d) : own_lexV a b c d = 0 := if_neg h
theorem own_d1_0 : decode method_2_code 0 = .ok (.iload_n 0, 1) := by decide +kernel
theorem own_d1_1 : decode method_2_code 1 = .ok (.i2l, 1) := by decide +kernel
theorem own_d1_2 : decode method_2_code 2 = .ok (.bipush 32, 2) := by decide +kernel
theorem own_d1_4 : decode method_2_code 4 = .ok (.lshl, 1) := by decide +kernel
theorem own_d1_5 : decode method_2_code 5 = .ok (.iload_n 1, 1) := by decide +kernel
theorem own_d1_6 : decode method_2_code 6 = .ok (.i2l, 1) := by decide +kernel
theorem own_d1_7 : decode method_2_code 7 = .ok (.ldc2_w 7, 3) := by decide +kernel
theorem own_d1_10 : decode method_2_code 10 = .ok (.ladd, 1) := by decide +kernel
theorem own_d1_11 : decode method_2_code 11 = .ok (.ladd, 1) := by decide +kernel
theorem own_d1_12 : decode method_2_code 12 = .ok (.lreturn, 1) := by decide +kernel
theorem own_d2_0 : decode prog_53_method_1_code 0 = .ok (.aload_n 0, 1) := by decide +kernel
theorem own_d2_1 : decode prog_53_method_1_code 1 = .ok (.invokespecial 1, 3) := by decide +kernel
theorem own_d2_4 : decode prog_53_method_1_code 4 = .ok (.aload_n 0, 1) := by decide +kernel
theorem own_d2_5 : decode prog_53_method_1_code 5 = .ok (.dload_n 1, 1) := by decide +kernel
theorem own_d2_6 : decode prog_53_method_1_code 6 = .ok (.putfield 7, 3) := by decide +kernel
theorem own_d2_9 : decode prog_53_method_1_code 9 = .ok (.aload_n 0, 1) := by decide +kernel
theorem own_d2_10 : decode prog_53_method_1_code 10 = .ok (.dload_n 3, 1) := by decide +kernel
theorem own_d2_11 : decode prog_53_method_1_code 11 = .ok (.putfield 13, 3) := by decide +kernel
theorem own_d2_14 : decode prog_53_method_1_code 14 = .ok (.return_, 1) := by decide +kernel
theorem own_d3_0 : decode jdk_30_method_1_code 0 = .ok (.aload_n 0, 1) := by decide +kernel
theorem own_d3_1 : decode jdk_30_method_1_code 1 = .ok (.invokespecial 1, 3) := by decide +kernel
theorem own_d3_4 : decode jdk_30_method_1_code 4 = .ok (.return_, 1) := by decide +kernel
theorem own_d5_0 : decode prog_53_method_2_code 0 = .ok (.aload_n 0, 1) := by decide +kernel
theorem own_d5_1 : decode prog_53_method_2_code 1 = .ok (.getfield 7, 3) := by decide +kernel
theorem own_d5_4 : decode prog_53_method_2_code 4 = .ok (.aload_n 1, 1) := by decide +kernel
theorem own_d5_5 : decode prog_53_method_2_code 5 = .ok (.getfield 7, 3) := by decide +kernel
theorem own_d5_8 : decode prog_53_method_2_code 8 = .ok (.dcmp .g, 1) := by decide +kernel
theorem own_d5_9 : decode prog_53_method_2_code 9 = .ok (.ifCond .lt 27, 3) := by decide +kernel
theorem own_d5_12 : decode prog_53_method_2_code 12 = .ok (.aload_n 0, 1) := by decide +kernel
theorem own_d5_13 : decode prog_53_method_2_code 13 = .ok (.getfield 7, 3) := by decide +kernel
theorem own_d5_16 : decode prog_53_method_2_code 16 = .ok (.aload_n 1, 1) := by decide +kernel
theorem own_d5_17 : decode prog_53_method_2_code 17 = .ok (.getfield 7, 3) := by decide +kernel
theorem own_d5_20 : decode prog_53_method_2_code 20 = .ok (.dcmp .l, 1) := by decide +kernel
theorem own_d5_21 : decode prog_53_method_2_code 21 = .ok (.ifCond .ne 19, 3) := by decide +kernel
theorem own_d5_24 : decode prog_53_method_2_code 24 = .ok (.aload_n 0, 1) := by decide +kernel
theorem own_d5_25 : decode prog_53_method_2_code 25 = .ok (.getfield 13, 3) := by decide +kernel
theorem own_d5_28 : decode prog_53_method_2_code 28 = .ok (.aload_n 1, 1) := by decide +kernel
theorem own_d5_29 : decode prog_53_method_2_code 29 = .ok (.getfield 13, 3) := by decide +kernel
theorem own_d5_32 : decode prog_53_method_2_code 32 = .ok (.dcmp .g, 1) := by decide +kernel
theorem own_d5_33 : decode prog_53_method_2_code 33 = .ok (.ifCond .ge 7, 3) := by decide +kernel
theorem own_d5_36 : decode prog_53_method_2_code 36 = .ok (.iconst 1, 1) := by decide +kernel
theorem own_d5_37 : decode prog_53_method_2_code 37 = .ok (.goto 4, 3) := by decide +kernel
theorem own_d5_40 : decode prog_53_method_2_code 40 = .ok (.iconst 0, 1) := by decide +kernel
theorem own_d5_41 : decode prog_53_method_2_code 41 = .ok (.ireturn, 1) := by decide +kernel
theorem own_pd0 : parseMethodDescriptor "()V" = some ⟨[], none⟩ := by decide +kernel
theorem own_pd1 : parseMethodDescriptor "(II)J" = some ⟨[.int, .int], some .long⟩ := by decide +kernel
theorem own_pd2 : parseMethodDescriptor "(DD)V" = some ⟨[.double, .double], none⟩ := by decide +kernel
theorem own_pd3 : parseMethodDescriptor "(Lcom/example/medianet/medianet/search/Score;)Z" = some ⟨[(.object "com/example/medianet/medianet/search/Score")], some .boolean⟩ := by decide +kernel
theorem own_pn0 : plainName "com/example/medianet/medianet/search/ScoreBelowPinLaw" = true := by first | (simp [plainName, overriddenIn]; done) | decide +kernel
theorem own_pn1 : plainName "com/example/medianet/medianet/search/ScoreBelowPinLaw" = true := by first | (simp [plainName, overriddenIn]; done) | decide +kernel
theorem own_pn2 : plainName "com/example/medianet/medianet/search/Score" = true := by first | (simp [plainName, overriddenIn]; done) | decide +kernel
theorem own_pn3 : plainName "java/lang/Record" = true := by first | (simp [plainName, overriddenIn]; done) | decide +kernel
theorem own_pn5 : plainName "com/example/medianet/medianet/search/Score" = true := by first | (simp [plainName, overriddenIn]; done) | decide +kernel
theorem own_ef_own_keyM (m : MethodId) (p1 : Int32) (p2 : Int32) : entryFrame m #[(.int p1), (.int p2)] 2 = mkF m 0 #[.val (.int p1), .val (.int p2)] [] := by first | (simp [entryFrame, mkF, argsToLocals, Value.category]; done) | rfl
def own_Q_own_keyM (Z : State) (p1 : Int32) (p2 : Int32) (h0 : Heap) (n0 : Nat) (v : Option Value) (h : Heap) (L : List Loc) : Prop := v = some (.long (own_key p1 p2)) ∧ Fr n0 L ∧ h = h0
set_option maxRecDepth 65536 in
set_option maxHeartbeats 40000000 in
theorem own_keyM (l : Launch) (Z : State) (a0 : Array Value) (hw : ∀ d ∈ tables_1, d.before a0 Z = true) (ws : List Jvm.Cond) (p1 : Int32) (p2 : Int32) (h0 : Heap) (n0 : Nat) (Z0 : n0 ≤ h0.size)  :
    MetFree l (⟨"com/example/medianet/medianet/search/ScoreBelowPinLaw", "key", "(II)J"⟩ : MethodName) (head1 (Jvm.Cond.code (⟨"com/example/medianet/medianet/search/ScoreBelowPinLaw", "key", "(II)J"⟩ : MethodName) method_2_code 2 (some .long) :: ws) ({ frames := 0, cells := 0, slots := 0, locals := 0 } : Room)) (fun a U => a = #[(.int p1), (.int p2)] ∧ Z.Warmed39 U.vm ∧ U.heap = h0) (fun _ _ _ _ _ => True) (fun _ U o U' => ∃ v L, o = .returned v ∧ own_Q_own_keyM Z p1 p2 h0 n0 v U'.heap L ∧ FrameEnd U o U' L ({ frames := 0, cells := 0, slots := 0, locals := 0 } : Room).cells ({ frames := 0, cells := 0, slots := 0, locals := 0 } : Room).slots) := by
  refine MetFree.of_bodySF (plainFor_of_name own_pn1) hisR ?_
  intro p e s m args below meth c s₁ Bd hml0 hP hK
  obtain ⟨rfl, hZ, hh⟩ := hP
  have hx := Bd.exec
  have hby := Bd.bytes
  have hml : c.maxLocals = 2 := hml0
  have hown : s.vm.findClass "com/example/medianet/medianet/search/ScoreBelowPinLaw" = some m.cls := findClass_of_methodNamed Bd.named
  have hnm := (name_of_methodNamed Bd.named Bd.method).1
  have X0 : Stand p l e ({ frames := 0, cells := 0, slots := 0, locals := 0 } : Room) s m #[(.int p1), (.int p2)] below meth c s₁ [] 0 0 := Stand.of_body Bd
  have e0 : s₁.heap = h0 := by rw [← hh, Bd.state]; rfl
  have N0 := Fr.nil n0
  refine own_open ?_
  intro R hR
  rw [own_ef_own_keyM m p1 p2]
  show own_W p e below R (s₁.setTop (mkF m 0 #[.val (.int p1), .val (.int p2)] []))
  refine own_go (A' := (s₁.setTop (mkF m 1 #[.val (.int p1), .val (.int p2)] [(.int p1)]))) (fun _ k => XS.iloadN X0.here hx rfl (hb hby own_d1_0) rfl k) ?_
  refine own_go (A' := (s₁.setTop (mkF m 2 #[.val (.int p1), .val (.int p2)] [(.long (p1.toInt64))]))) (fun _ k => XS.i2l X0.here hx rfl (hb hby own_d1_1) rfl k) ?_
  refine own_go (A' := (s₁.setTop (mkF m 4 #[.val (.int p1), .val (.int p2)] [(.int (32 : Int32)), (.long (p1.toInt64))]))) (fun _ k => XS.bipush X0.here hx rfl (hb hby own_d1_2) k) ?_
  refine own_go (A' := (s₁.setTop (mkF m 5 #[.val (.int p1), .val (.int p2)] [(.long ((p1.toInt64) <<< ((32 : Int32) &&& 0x3f).toInt64))]))) (fun _ k => XS.lshl X0.here hx rfl (hb hby own_d1_4) rfl k) ?_
  refine own_go (A' := (s₁.setTop (mkF m 6 #[.val (.int p1), .val (.int p2)] [(.int p2), (.long ((p1.toInt64) <<< ((32 : Int32) &&& 0x3f).toInt64))]))) (fun _ k => XS.iloadN X0.here hx rfl (hb hby own_d1_5) rfl k) ?_
  refine own_go (A' := (s₁.setTop (mkF m 7 #[.val (.int p1), .val (.int p2)] [(.long (p2.toInt64)), (.long ((p1.toInt64) <<< ((32 : Int32) &&& 0x3f).toInt64))]))) (fun _ k => XS.i2l X0.here hx rfl (hb hby own_d1_6) rfl k) ?_
  refine own_go (A' := (s₁.setTop (mkF m 10 #[.val (.int p1), .val (.int p2)] [(.long (2147483648 : Int64)), (.long (p2.toInt64)), (.long ((p1.toInt64) <<< ((32 : Int32) &&& 0x3f).toInt64))]))) (fun _ k => X0.ldc2Long hx hown (mvT hZ (hw _ (List.mem_of_getElem? (i := 4) rfl))) (g := (mkF m 7 #[.val (.int p1), .val (.int p2)] [(.long (p2.toInt64)), (.long ((p1.toInt64) <<< ((32 : Int32) &&& 0x3f).toInt64))])) rfl (hb hby own_d1_7) _ k) ?_
  refine own_go (A' := (s₁.setTop (mkF m 11 #[.val (.int p1), .val (.int p2)] [(.long ((p2.toInt64) + (2147483648 : Int64))), (.long ((p1.toInt64) <<< ((32 : Int32) &&& 0x3f).toInt64))]))) (fun _ k => XS.ladd X0.here hx rfl (hb hby own_d1_10) rfl k) ?_
  refine own_go (A' := (s₁.setTop (mkF m 12 #[.val (.int p1), .val (.int p2)] [(.long (((p1.toInt64) <<< ((32 : Int32) &&& 0x3f).toInt64) + ((p2.toInt64) + (2147483648 : Int64))))]))) (fun _ k => XS.ladd X0.here hx rfl (hb hby own_d1_11) rfl k) ?_
  obtain ⟨fs, hr, hrun, hended, hW, hsame⟩ := X0.leave (v := some (.long (((p1.toInt64) <<< ((32 : Int32) &&& 0x3f).toInt64) + ((p2.toInt64) + (2147483648 : Int64))))) (fun h => by rw [Bd.returns] at h; cases h)
  refine ⟨_, _, retOut X0 hx (t := .long) Bd.returns rfl (Or.inr (Or.inl ⟨rfl, rfl, _, rfl⟩)) (hb hby own_d1_12) hr, hR _ _ ⟨hrun, hended, _, _, rfl, ?_, ⟨_, rfl⟩, hW, hsame.mono (by decide) (by decide)⟩⟩
  show own_Q_own_keyM Z p1 p2 h0 n0 _ s₁.heap _
  rw [e0]
  exact ⟨rfl, N0, rfl⟩
theorem own_ef_own_record (m : MethodId) (a1 : Addr) : entryFrame m #[(.ref a1)] 1 = mkF m 0 #[.val (.ref a1)] [] := by first | (simp [entryFrame, mkF, argsToLocals, Value.category]; done) | rfl
def own_Q_own_record (Z : State) (a1 : Addr) (h0 : Heap) (n0 : Nat) (v : Option Value) (h : Heap) (L : List Loc) : Prop := v = none ∧ Fr n0 L ∧ h = h0
set_option maxRecDepth 65536 in
set_option maxHeartbeats 40000000 in
theorem own_record (l : Launch) (Z : State) (a0 : Array Value) (hw : ∀ d ∈ tables_1, d.before a0 Z = true) (ws : List Jvm.Cond) (a1 : Addr) (h0 : Heap) (n0 : Nat) (Z0 : n0 ≤ h0.size)  :
    MetFree l (⟨"java/lang/Record", "<init>", "()V"⟩ : MethodName) (head1 (Jvm.Cond.code (⟨"java/lang/Record", "<init>", "()V"⟩ : MethodName) jdk_30_method_1_code 1 none :: ws) ({ frames := 1, cells := 0, slots := 0, locals := 12 } : Room)) (fun a U => a = #[(.ref a1)] ∧ Z.Warmed39 U.vm ∧ U.heap = h0) (fun _ _ _ _ _ => True) (fun _ U o U' => ∃ v L, o = .returned v ∧ own_Q_own_record Z a1 h0 n0 v U'.heap L ∧ FrameEnd U o U' L ({ frames := 1, cells := 0, slots := 0, locals := 12 } : Room).cells ({ frames := 1, cells := 0, slots := 0, locals := 12 } : Room).slots) := by
  refine MetFree.of_bodySF (plainFor_of_name own_pn3) hisR ?_
  intro p e s m args below meth c s₁ Bd hml0 hP hK
  obtain ⟨rfl, hZ, hh⟩ := hP
  have hx := Bd.exec
  have hby := Bd.bytes
  have hml : c.maxLocals = 1 := hml0
  have hown : s.vm.findClass "java/lang/Record" = some m.cls := findClass_of_methodNamed Bd.named
  have hnm := (name_of_methodNamed Bd.named Bd.method).1
  have X0 : Stand p l e ({ frames := 1, cells := 0, slots := 0, locals := 12 } : Room) s m #[(.ref a1)] below meth c s₁ [] 0 0 := Stand.of_body Bd
  have e0 : s₁.heap = h0 := by rw [← hh, Bd.state]; rfl
  have N0 := Fr.nil n0
  refine own_open ?_
  intro R hR
  rw [own_ef_own_record m a1]
  show own_W p e below R (s₁.setTop (mkF m 0 #[.val (.ref a1)] []))
  refine own_go (A' := (s₁.setTop (mkF m 1 #[.val (.ref a1)] [(.ref a1)]))) (fun _ k => XS.aloadN X0.here hx rfl (hb hby own_d3_0) rfl rfl k) ?_
  obtain ⟨T1, X1, e1, st1⟩ := initO X0 hx hZ hown (hw _ (List.mem_of_getElem? (i := 16) rfl)) (hw _ (List.mem_of_getElem? (i := 17) rfl)) (hw _ (List.mem_of_getElem? (i := 18) rfl)) e0 (g := (mkF m 1 #[.val (.ref a1)] [(.ref a1)])) rfl (by rw [hml]; rfl) rfl (hb hby own_d3_1) (by decide) (W := 0) (by show 2 * 0 + _ ≤ _; exact Nat.le_of_eq rfl) (by decide)
  refine own_go (A' := (T1.setTop (mkF m 4 #[.val (.ref a1)] []))) (fun _ k => st1 _ k) ?_
  obtain ⟨fs, hr, hrun, hended, hW, hsame⟩ := X1.leave (v := none) (fun _ => rfl)
  refine ⟨_, _, X1.returnOut hx Bd.returns (hb hby own_d3_4) hr, hR _ _ ⟨hrun, hended, _, _, rfl, ?_, ⟨_, rfl⟩, hW, hsame.mono (by decide) (by decide)⟩⟩
  show own_Q_own_record Z a1 h0 n0 _ T1.heap _
  rw [e1]
  exact ⟨rfl, N0, rfl⟩
theorem own_ef_own_init (m : MethodId) (a0_ : Addr) (d1 : UInt64) (d2 : UInt64) : entryFrame m #[(.ref a0_), (.double d1), (.double d2)] 5 = mkF m 0 #[.val (.ref a0_), .val (.double d1), .second, .val (.double d2), .second] [] := by first | (simp [entryFrame, mkF, argsToLocals, Value.category]; done) | rfl
def own_Q_own_init (Z : State) (a0_ : Addr) (d1 : UInt64) (d2 : UInt64) (u0 : Value) (h0 : Heap) (n0 : Nat) (v : Option Value) (h : Heap) (L : List Loc) : Prop := v = none ∧ Fr n0 L ∧ Keep h0 h [a0_] ∧ Exa Z h a0_ "com/example/medianet/medianet/search/Score" ∧ Fld Z h a0_ "com/example/medianet/medianet/search/Score" "excess" "D" (.double d1) ∧ Fld Z h a0_ "com/example/medianet/medianet/search/Score" "objective" "D" (.double d2)
set_option maxRecDepth 65536 in
set_option maxHeartbeats 40000000 in
theorem own_init (l : Launch) (Z : State) (a0 : Array Value) (hw : ∀ d ∈ tables_1, d.before a0 Z = true) (ws : List Jvm.Cond) (a0_ : Addr) (d1 : UInt64) (d2 : UInt64) (u0 : Value) (h0 : Heap) (n0 : Nat) (Z0 : n0 ≤ h0.size) (E_a : Exa Z h0 a0_ "com/example/medianet/medianet/search/Score") (F_a : Fld Z h0 a0_ "com/example/medianet/medianet/search/Score" "excess" "D" u0) (g_a : n0 ≤ a0_) :
    MetFree l (⟨"com/example/medianet/medianet/search/Score", "<init>", "(DD)V"⟩ : MethodName) (head1 (Jvm.Cond.code (⟨"com/example/medianet/medianet/search/Score", "<init>", "(DD)V"⟩ : MethodName) prog_53_method_1_code 5 none :: ws) ({ frames := 2, cells := 0, slots := 0, locals := 24 } : Room)) (fun a U => a = #[(.ref a0_), (.double d1), (.double d2)] ∧ Z.Warmed39 U.vm ∧ U.heap = h0) (fun _ _ _ _ _ => True) (fun _ U o U' => ∃ v L, o = .returned v ∧ own_Q_own_init Z a0_ d1 d2 u0 h0 n0 v U'.heap L ∧ FrameEnd U o U' L ({ frames := 2, cells := 0, slots := 0, locals := 24 } : Room).cells ({ frames := 2, cells := 0, slots := 0, locals := 24 } : Room).slots) := by
  refine MetFree.of_bodySF (plainFor_of_name own_pn2) hisR ?_
  intro p e s m args below meth c s₁ Bd hml0 hP hK
  obtain ⟨rfl, hZ, hh⟩ := hP
  have hx := Bd.exec
  have hby := Bd.bytes
  have hml : c.maxLocals = 5 := hml0
  have hown : s.vm.findClass "com/example/medianet/medianet/search/Score" = some m.cls := findClass_of_methodNamed Bd.named
  have hnm := (name_of_methodNamed Bd.named Bd.method).1
  have X0 : Stand p l e ({ frames := 2, cells := 0, slots := 0, locals := 24 } : Room) s m #[(.ref a0_), (.double d1), (.double d2)] below meth c s₁ [] 0 0 := Stand.of_body Bd
  have e0 : s₁.heap = h0 := by rw [← hh, Bd.state]; rfl
  have N0 := Fr.nil n0
  refine own_open ?_
  intro R hR
  rw [own_ef_own_init m a0_ d1 d2]
  show own_W p e below R (s₁.setTop (mkF m 0 #[.val (.ref a0_), .val (.double d1), .second, .val (.double d2), .second] []))
  refine own_go (A' := (s₁.setTop (mkF m 1 #[.val (.ref a0_), .val (.double d1), .second, .val (.double d2), .second] [(.ref a0_)]))) (fun _ k => XS.aloadN X0.here hx rfl (hb hby own_d2_0) rfl rfl k) ?_
  obtain ⟨_, _, ⟨T1, L1, k1, n1⟩, -, X1, ⟨Lc1, hQ1, l1, y1, z1⟩, st1⟩ := X0.specialBack hx (y := (⟨"java/lang/Record", "<init>", "()V"⟩ : MethodName)) rfl hown (mvT hZ (hw _ (List.mem_of_getElem? (i := 11) rfl))) (mvT hZ (hw _ (List.mem_of_getElem? (i := 12) rfl))) (mvT hZ (hw _ (List.mem_of_getElem? (i := 15) rfl))) (by decide) (backOf (W := 0) (own_record l Z a0 hw [] a0_ h0 n0 Z0) hZ (hw _ (List.mem_of_getElem? (i := 15) rfl)) (hw _ (List.mem_of_getElem? (i := 14) rfl)) (by decide) (by decide)) (g := (mkF m 1 #[.val (.ref a0_), .val (.double d1), .second, .val (.double d2), .second] [(.ref a0_)])) rfl (by rw [hml]; rfl) (Steps.refl _) (a := a0_) (argsL := []) (rest := []) (lenOf own_pd0 rfl) rfl (by show 2 * 0 + _ ≤ _; exact Nat.le_of_eq rfl) (hb hby own_d2_1) (fun _ _ => ⟨rfl, e0, (by decide : 0 + 0 ≤ _), (by decide : 0 + 0 ≤ _)⟩)
  dsimp only [Pt.U, Pt.locs, Pt.cells, Pt.slots] at X1 l1 y1 z1 st1 hQ1
  subst l1 y1 z1
  obtain ⟨rfl, N1q, hh1⟩ := hQ1
  have N1 := Fr.app N0 N1q
  refine own_go (A' := (T1.setTop (mkF m 4 #[.val (.ref a0_), .val (.double d1), .second, .val (.double d2), .second] []))) (fun _ k => st1.trans k) ?_
  have K_a : Keep h0 h0 [a0_] := Keep.refl _ _
  refine own_go (A' := (T1.setTop (mkF m 5 #[.val (.ref a0_), .val (.double d1), .second, .val (.double d2), .second] [(.ref a0_)]))) (fun _ k => XS.aloadN X1.here hx rfl (hb hby own_d2_4) rfl rfl k) ?_
  refine own_go (A' := (T1.setTop (mkF m 6 #[.val (.ref a0_), .val (.double d1), .second, .val (.double d2), .second] [(.double d1), (.ref a0_)]))) (fun _ k => XS.dloadN X1.here hx rfl (hb hby own_d2_5) rfl k) ?_
  obtain ⟨_, Fo⟩ := own_any F_a E_a (hw _ (List.mem_of_getElem? (i := 6) rfl)) (Or.inr (hw _ (List.mem_of_getElem? (i := 20) rfl)))
  obtain ⟨T2, h2, X2, e2, W2, st2⟩ := putF X1 hx hZ hown (host := "") (Or.inl (hw _ (List.mem_of_getElem? (i := 19) rfl))) Via.refl hh1 Fo E_a (Or.inr ⟨(hw _ (List.mem_of_getElem? (i := 20) rfl)), rfl, hnm⟩) (hw _ (List.mem_of_getElem? (i := 6) rfl)) (ty := .double) (by decide) rfl rfl (g := (mkF m 6 #[.val (.ref a0_), .val (.double d1), .second, .val (.double d2), .second] [(.double d1), (.ref a0_)])) rfl rfl (hb hby own_d2_6)
  refine own_go (A' := (T2.setTop (mkF m 9 #[.val (.ref a0_), .val (.double d1), .second, .val (.double d2), .second] []))) (fun _ k => st2 _ k) ?_
  have N2 := Fr.snoc X2 N1 g_a
  have K_a := K_a.wr W2 (Or.inl (List.mem_of_getElem? (i := 0) rfl))
  have E_a := E_a.wr W2
  have F1 := Fo.same W2
  refine own_go (A' := (T2.setTop (mkF m 10 #[.val (.ref a0_), .val (.double d1), .second, .val (.double d2), .second] [(.ref a0_)]))) (fun _ k => XS.aloadN X2.here hx rfl (hb hby own_d2_9) rfl rfl k) ?_
  refine own_go (A' := (T2.setTop (mkF m 11 #[.val (.ref a0_), .val (.double d1), .second, .val (.double d2), .second] [(.double d2), (.ref a0_)]))) (fun _ k => XS.dloadN X2.here hx rfl (hb hby own_d2_10) rfl k) ?_
  obtain ⟨_, Fo⟩ := own_any F1 E_a (hw _ (List.mem_of_getElem? (i := 6) rfl)) (Or.inr (hw _ (List.mem_of_getElem? (i := 22) rfl)))
  obtain ⟨T3, h3, X3, e3, W3, st3⟩ := putF X2 hx hZ hown (host := "") (Or.inl (hw _ (List.mem_of_getElem? (i := 21) rfl))) Via.refl e2 Fo E_a (Or.inr ⟨(hw _ (List.mem_of_getElem? (i := 22) rfl)), rfl, hnm⟩) (hw _ (List.mem_of_getElem? (i := 6) rfl)) (ty := .double) (by decide) rfl rfl (g := (mkF m 11 #[.val (.ref a0_), .val (.double d1), .second, .val (.double d2), .second] [(.double d2), (.ref a0_)])) rfl rfl (hb hby own_d2_11)
  refine own_go (A' := (T3.setTop (mkF m 14 #[.val (.ref a0_), .val (.double d1), .second, .val (.double d2), .second] []))) (fun _ k => st3 _ k) ?_
  have N3 := Fr.snoc X3 N2 g_a
  have K_a := K_a.wr W3 (Or.inl (List.mem_of_getElem? (i := 0) rfl))
  have E_a := E_a.wr W3
  have F1 := F1.other W3 (Or.inr (slot_ne (Or.inr (hw _ (List.mem_of_getElem? (i := 20) rfl))) (Or.inr (hw _ (List.mem_of_getElem? (i := 22) rfl))) (by decide) (t := .double) (t' := .double) (by decide) (by decide)))
  have F2 := Fo.same W3
  obtain ⟨fs, hr, hrun, hended, hW, hsame⟩ := X3.leave (v := none) (fun _ => rfl)
  refine ⟨_, _, X3.returnOut hx Bd.returns (hb hby own_d2_14) hr, hR _ _ ⟨hrun, hended, _, _, rfl, ?_, ⟨_, rfl⟩, hW, hsame.mono (by decide) (by decide)⟩⟩
  show own_Q_own_init Z a0_ d1 d2 u0 h0 n0 _ T3.heap _
  rw [e3]
  exact ⟨rfl, N3, K_a, E_a, F1, F2⟩
theorem own_ef_own_below (m : MethodId) (a1 : Addr) (a2 : Addr) : entryFrame m #[(.ref a1), (.ref a2)] 2 = mkF m 0 #[.val (.ref a1), .val (.ref a2)] [] := by first | (simp [entryFrame, mkF, argsToLocals, Value.category]; done) | rfl
def own_Q_own_below (Z : State) (a1 : Addr) (a2 : Addr) (d1 d2 d3 d4 : UInt64) (z1 z2 z3 z4 : Int) (h0 : Heap) (n0 : Nat) (v : Option Value) (h : Heap) (L : List Loc) : Prop := v = some (.int (own_lexV z1 z2 z3 z4)) ∧ Fr n0 L ∧ h = h0
set_option maxRecDepth 65536 in
set_option maxHeartbeats 40000000 in
theorem own_below (l : Launch) (Z : State) (a0 : Array Value) (hw : ∀ d ∈ tables_1, d.before a0 Z = true) (ws : List Jvm.Cond) (a1 : Addr) (a2 : Addr) (d1 d2 d3 d4 : UInt64) (z1 z2 z3 z4 : Int) (h0 : Heap) (n0 : Nat) (Z0 : n0 ≤ h0.size) (H1 : own_At 1074 d1 z1) (H2 : own_At 1074 d2 z2) (H3 : own_At 1074 d3 z3) (H4 : own_At 1074 d4 z4) (F1 : Fld Z h0 a1 "com/example/medianet/medianet/search/Score" "excess" "D" (.double d1)) (F2 : Fld Z h0 a1 "com/example/medianet/medianet/search/Score" "objective" "D" (.double d2)) (F3 : Fld Z h0 a2 "com/example/medianet/medianet/search/Score" "excess" "D" (.double d3)) (F4 : Fld Z h0 a2 "com/example/medianet/medianet/search/Score" "objective" "D" (.double d4)) :
    MetFree l (⟨"com/example/medianet/medianet/search/Score", "below", "(Lcom/example/medianet/medianet/search/Score;)Z"⟩ : MethodName) (head1 (Jvm.Cond.code (⟨"com/example/medianet/medianet/search/Score", "below", "(Lcom/example/medianet/medianet/search/Score;)Z"⟩ : MethodName) prog_53_method_2_code 2 (some .boolean) :: ws) ({ frames := 0, cells := 0, slots := 0, locals := 0 } : Room)) (fun a U => a = #[(.ref a1), (.ref a2)] ∧ Z.Warmed39 U.vm ∧ U.heap = h0) (fun _ _ _ _ _ => True) (fun _ U o U' => ∃ v L, o = .returned v ∧ own_Q_own_below Z a1 a2 d1 d2 d3 d4 z1 z2 z3 z4 h0 n0 v U'.heap L ∧ FrameEnd U o U' L ({ frames := 0, cells := 0, slots := 0, locals := 0 } : Room).cells ({ frames := 0, cells := 0, slots := 0, locals := 0 } : Room).slots) := by
  refine MetFree.of_bodySF (plainFor_of_name own_pn5) hisR ?_
  intro p e s m args below meth c s₁ Bd hml0 hP hK
  obtain ⟨rfl, hZ, hh⟩ := hP
  have hx := Bd.exec
  have hby := Bd.bytes
  have hml : c.maxLocals = 2 := hml0
  have hown : s.vm.findClass "com/example/medianet/medianet/search/Score" = some m.cls := findClass_of_methodNamed Bd.named
  have hnm := (name_of_methodNamed Bd.named Bd.method).1
  have X0 : Stand p l e ({ frames := 0, cells := 0, slots := 0, locals := 0 } : Room) s m #[(.ref a1), (.ref a2)] below meth c s₁ [] 0 0 := Stand.of_body Bd
  have e0 : s₁.heap = h0 := by rw [← hh, Bd.state]; rfl
  have N0 := Fr.nil n0
  refine own_open ?_
  intro R hR
  rw [own_ef_own_below m a1 a2]
  show own_W p e below R (s₁.setTop (mkF m 0 #[.val (.ref a1), .val (.ref a2)] []))
  refine own_go (A' := (s₁.setTop (mkF m 1 #[.val (.ref a1), .val (.ref a2)] [(.ref a1)]))) (fun _ k => XS.aloadN X0.here hx rfl (hb hby own_d5_0) rfl rfl k) ?_
  obtain ⟨T1, X1, e1, st1⟩ := getF X0 hx hZ hown (host := "") (Or.inl (hw _ (List.mem_of_getElem? (i := 19) rfl))) Via.refl e0 F1 (g := (mkF m 1 #[.val (.ref a1), .val (.ref a2)] [(.ref a1)])) rfl rfl (hb hby own_d5_1)
  refine own_go (A' := (T1.setTop (mkF m 4 #[.val (.ref a1), .val (.ref a2)] [(.double d1)]))) (fun _ k => st1 _ k) ?_
  refine own_go (A' := (T1.setTop (mkF m 5 #[.val (.ref a1), .val (.ref a2)] [(.ref a2), (.double d1)]))) (fun _ k => XS.aloadN X1.here hx rfl (hb hby own_d5_4) rfl rfl k) ?_
  obtain ⟨T2, X2, e2, st2⟩ := getF X1 hx hZ hown (host := "") (Or.inl (hw _ (List.mem_of_getElem? (i := 19) rfl))) Via.refl e1 F3 (g := (mkF m 5 #[.val (.ref a1), .val (.ref a2)] [(.ref a2), (.double d1)])) rfl rfl (hb hby own_d5_5)
  refine own_go (A' := (T2.setTop (mkF m 8 #[.val (.ref a1), .val (.ref a2)] [(.double d3), (.double d1)]))) (fun _ k => st2 _ k) ?_
  refine own_go (A' := (T2.setTop (mkF m 9 #[.val (.ref a1), .val (.ref a2)] [(.int (cmpValue (FP.dcmp d1 d3) .g))]))) (fun _ k => XS.dcmpS X2.here hx rfl (hb hby own_d5_8) rfl rfl k) ?_
  have q1 := own_ca_lt H1 H3 .g
  by_cases hc1 : (cmpValue (FP.dcmp d1 d3) .g) < (0 : Int32)
  · refine own_go (A' := (T2.setTop (mkF m 36 #[.val (.ref a1), .val (.ref a2)] []))) (fun _ k => XS.ifYes X2.here hx rfl (pc0 := 9) (pc' := 36) rfl (hb hby own_d5_9) rfl ((if0 _ _).trans (tlt hc1).1) (by decide) (by decide) k) ?_
    refine own_go (A' := (T2.setTop (mkF m 37 #[.val (.ref a1), .val (.ref a2)] [(.int (1 : Int32))]))) (fun _ k => XS.iconst X2.here hx rfl (hb hby own_d5_36) k) ?_
    refine own_go (A' := (T2.setTop (mkF m 41 #[.val (.ref a1), .val (.ref a2)] [(.int (1 : Int32))]))) (fun _ k => XS.goto X2.here hx rfl (pc0 := 37) (pc' := 41) rfl (hb hby own_d5_37) (by decide) (by decide) k) ?_
    obtain ⟨fs, hr, hrun, hended, hW, hsame⟩ := X2.leave (v := some (.int (1 : Int32))) (fun h => by rw [Bd.returns] at h; cases h)
    refine ⟨_, _, retN X2 hx (t := .boolean) Bd.returns (by simp) (hb hby own_d5_41) hr, hR _ _ ⟨hrun, hended, _, _, rfl, ?_, ⟨_, rfl⟩, hW, hsame.mono (by decide) (by decide)⟩⟩
    show own_Q_own_below Z a1 a2 d1 d2 d3 d4 z1 z2 z3 z4 h0 n0 _ T2.heap _
    rw [e2]
    exact ⟨by rw [own_lexV_t (Or.inl (q1.mp hc1))], N0, rfl⟩
  · refine own_go (A' := (T2.setTop (mkF m 12 #[.val (.ref a1), .val (.ref a2)] []))) (fun _ k => XS.ifNo X2.here hx rfl (hb hby own_d5_9) rfl ((if0 _ _).trans (flt hc1).1) k) ?_
    refine own_go (A' := (T2.setTop (mkF m 13 #[.val (.ref a1), .val (.ref a2)] [(.ref a1)]))) (fun _ k => XS.aloadN X2.here hx rfl (hb hby own_d5_12) rfl rfl k) ?_
    obtain ⟨T3, X3, e3, st3⟩ := getF X2 hx hZ hown (host := "") (Or.inl (hw _ (List.mem_of_getElem? (i := 19) rfl))) Via.refl e2 F1 (g := (mkF m 13 #[.val (.ref a1), .val (.ref a2)] [(.ref a1)])) rfl rfl (hb hby own_d5_13)
    refine own_go (A' := (T3.setTop (mkF m 16 #[.val (.ref a1), .val (.ref a2)] [(.double d1)]))) (fun _ k => st3 _ k) ?_
    refine own_go (A' := (T3.setTop (mkF m 17 #[.val (.ref a1), .val (.ref a2)] [(.ref a2), (.double d1)]))) (fun _ k => XS.aloadN X3.here hx rfl (hb hby own_d5_16) rfl rfl k) ?_
    obtain ⟨T4, X4, e4, st4⟩ := getF X3 hx hZ hown (host := "") (Or.inl (hw _ (List.mem_of_getElem? (i := 19) rfl))) Via.refl e3 F3 (g := (mkF m 17 #[.val (.ref a1), .val (.ref a2)] [(.ref a2), (.double d1)])) rfl rfl (hb hby own_d5_17)
    refine own_go (A' := (T4.setTop (mkF m 20 #[.val (.ref a1), .val (.ref a2)] [(.double d3), (.double d1)]))) (fun _ k => st4 _ k) ?_
    refine own_go (A' := (T4.setTop (mkF m 21 #[.val (.ref a1), .val (.ref a2)] [(.int (cmpValue (FP.dcmp d1 d3) .l))]))) (fun _ k => XS.dcmpS X4.here hx rfl (hb hby own_d5_20) rfl rfl k) ?_
    have q2 := own_ca_eq H1 H3 .l
    by_cases hc2 : (cmpValue (FP.dcmp d1 d3) .l) = (0 : Int32)
    · refine own_go (A' := (T4.setTop (mkF m 24 #[.val (.ref a1), .val (.ref a2)] []))) (fun _ k => XS.ifNo X4.here hx rfl (hb hby own_d5_21) rfl ((if0 _ _).trans (teq hc2).2) k) ?_
      refine own_go (A' := (T4.setTop (mkF m 25 #[.val (.ref a1), .val (.ref a2)] [(.ref a1)]))) (fun _ k => XS.aloadN X4.here hx rfl (hb hby own_d5_24) rfl rfl k) ?_
      obtain ⟨T5, X5, e5, st5⟩ := getF X4 hx hZ hown (host := "") (Or.inl (hw _ (List.mem_of_getElem? (i := 21) rfl))) Via.refl e4 F2 (g := (mkF m 25 #[.val (.ref a1), .val (.ref a2)] [(.ref a1)])) rfl rfl (hb hby own_d5_25)
      refine own_go (A' := (T5.setTop (mkF m 28 #[.val (.ref a1), .val (.ref a2)] [(.double d2)]))) (fun _ k => st5 _ k) ?_
      refine own_go (A' := (T5.setTop (mkF m 29 #[.val (.ref a1), .val (.ref a2)] [(.ref a2), (.double d2)]))) (fun _ k => XS.aloadN X5.here hx rfl (hb hby own_d5_28) rfl rfl k) ?_
      obtain ⟨T6, X6, e6, st6⟩ := getF X5 hx hZ hown (host := "") (Or.inl (hw _ (List.mem_of_getElem? (i := 21) rfl))) Via.refl e5 F4 (g := (mkF m 29 #[.val (.ref a1), .val (.ref a2)] [(.ref a2), (.double d2)])) rfl rfl (hb hby own_d5_29)
      refine own_go (A' := (T6.setTop (mkF m 32 #[.val (.ref a1), .val (.ref a2)] [(.double d4), (.double d2)]))) (fun _ k => st6 _ k) ?_
      refine own_go (A' := (T6.setTop (mkF m 33 #[.val (.ref a1), .val (.ref a2)] [(.int (cmpValue (FP.dcmp d2 d4) .g))]))) (fun _ k => XS.dcmpS X6.here hx rfl (hb hby own_d5_32) rfl rfl k) ?_
      have q3 := own_ca_lt H2 H4 .g
      by_cases hc3 : (cmpValue (FP.dcmp d2 d4) .g) < (0 : Int32)
      · refine own_go (A' := (T6.setTop (mkF m 36 #[.val (.ref a1), .val (.ref a2)] []))) (fun _ k => XS.ifNo X6.here hx rfl (hb hby own_d5_33) rfl ((if0 _ _).trans (tlt hc3).2.1) k) ?_
        refine own_go (A' := (T6.setTop (mkF m 37 #[.val (.ref a1), .val (.ref a2)] [(.int (1 : Int32))]))) (fun _ k => XS.iconst X6.here hx rfl (hb hby own_d5_36) k) ?_
        refine own_go (A' := (T6.setTop (mkF m 41 #[.val (.ref a1), .val (.ref a2)] [(.int (1 : Int32))]))) (fun _ k => XS.goto X6.here hx rfl (pc0 := 37) (pc' := 41) rfl (hb hby own_d5_37) (by decide) (by decide) k) ?_
        obtain ⟨fs, hr, hrun, hended, hW, hsame⟩ := X6.leave (v := some (.int (1 : Int32))) (fun h => by rw [Bd.returns] at h; cases h)
        refine ⟨_, _, retN X6 hx (t := .boolean) Bd.returns (by simp) (hb hby own_d5_41) hr, hR _ _ ⟨hrun, hended, _, _, rfl, ?_, ⟨_, rfl⟩, hW, hsame.mono (by decide) (by decide)⟩⟩
        show own_Q_own_below Z a1 a2 d1 d2 d3 d4 z1 z2 z3 z4 h0 n0 _ T6.heap _
        rw [e6]
        exact ⟨by rw [own_lexV_t (Or.inr ⟨q2.mp hc2, q3.mp hc3⟩)], N0, rfl⟩
      · refine own_go (A' := (T6.setTop (mkF m 40 #[.val (.ref a1), .val (.ref a2)] []))) (fun _ k => XS.ifYes X6.here hx rfl (pc0 := 33) (pc' := 40) rfl (hb hby own_d5_33) rfl ((if0 _ _).trans (flt hc3).2.1) (by decide) (by decide) k) ?_
        refine own_go (A' := (T6.setTop (mkF m 41 #[.val (.ref a1), .val (.ref a2)] [(.int (0 : Int32))]))) (fun _ k => XS.iconst X6.here hx rfl (hb hby own_d5_40) k) ?_
        obtain ⟨fs, hr, hrun, hended, hW, hsame⟩ := X6.leave (v := some (.int (0 : Int32))) (fun h => by rw [Bd.returns] at h; cases h)
        refine ⟨_, _, retN X6 hx (t := .boolean) Bd.returns (by simp) (hb hby own_d5_41) hr, hR _ _ ⟨hrun, hended, _, _, rfl, ?_, ⟨_, rfl⟩, hW, hsame.mono (by decide) (by decide)⟩⟩
        show own_Q_own_below Z a1 a2 d1 d2 d3 d4 z1 z2 z3 z4 h0 n0 _ T6.heap _
        rw [e6]
        exact ⟨by rw [own_lexV_f (fun q => q.elim (fun r => hc1 (q1.mpr r)) fun r => hc3 (q3.mpr r.2))], N0, rfl⟩
    · refine own_go (A' := (T4.setTop (mkF m 40 #[.val (.ref a1), .val (.ref a2)] []))) (fun _ k => XS.ifYes X4.here hx rfl (pc0 := 21) (pc' := 40) rfl (hb hby own_d5_21) rfl ((if0 _ _).trans (feq hc2).2) (by decide) (by decide) k) ?_
      refine own_go (A' := (T4.setTop (mkF m 41 #[.val (.ref a1), .val (.ref a2)] [(.int (0 : Int32))]))) (fun _ k => XS.iconst X4.here hx rfl (hb hby own_d5_40) k) ?_
      obtain ⟨fs, hr, hrun, hended, hW, hsame⟩ := X4.leave (v := some (.int (0 : Int32))) (fun h => by rw [Bd.returns] at h; cases h)
      refine ⟨_, _, retN X4 hx (t := .boolean) Bd.returns (by simp) (hb hby own_d5_41) hr, hR _ _ ⟨hrun, hended, _, _, rfl, ?_, ⟨_, rfl⟩, hW, hsame.mono (by decide) (by decide)⟩⟩
      show own_Q_own_below Z a1 a2 d1 d2 d3 d4 z1 z2 z3 z4 h0 n0 _ T4.heap _
      rw [e4]
      exact ⟨by rw [own_lexV_f (fun q => q.elim (fun r => hc1 (q1.mpr r)) fun r => hc2 (q2.mpr r.1))], N0, rfl⟩
theorem own_ef_own_rm0 (m : MethodId) (p1 : Int32) (p2 : Int32) (p3 : Int32) (p4 : Int32) (p5 : Int32) : entryFrame m #[(.int p1), (.int p2), (.int p3), (.int p4), (.int p5)] maxLocals = mkF m 0 #[.val (.int p1), .val (.int p2), .val (.int p3), .val (.int p4), .val (.int p5), .unset, .unset, .unset, .unset, .unset, .unset, .unset, .unset, .unset, .unset] [] := by first | (simp [entryFrame, mkF, argsToLocals, Value.category, maxLocals]; done) | rfl
def own_Q_own_rm0 (Z : State) (p1 : Int32) (p2 : Int32) (p3 : Int32) (p4 : Int32) (p5 : Int32) (h0 : Heap) (n0 : Nat) (v : Option Value) (h : Heap) (L : List Loc) : Prop := v = some (.int 1) ∧ Fr n0 L
set_option maxRecDepth 65536 in
set_option maxHeartbeats 40000000 in
theorem own_rm0 (l : Launch) (Z : State) (a0 : Array Value) (hw : ∀ d ∈ tables_1, d.before a0 Z = true) (ws : List Jvm.Cond) (p1 : Int32) (p2 : Int32) (p3 : Int32) (p4 : Int32) (p5 : Int32) (h0 : Heap) (n0 : Nat) (Z0 : n0 ≤ h0.size)  :
    MetFree l x (head1 (Jvm.Cond.code x code maxLocals ret :: ws) room_1) (fun a U => a = #[(.int p1), (.int p2), (.int p3), (.int p4), (.int p5)] ∧ Z.Warmed39 U.vm ∧ U.heap = h0) (fun _ _ _ _ _ => True) (fun _ U o U' => ∃ v L, o = .returned v ∧ own_Q_own_rm0 Z p1 p2 p3 p4 p5 h0 n0 v U'.heap L ∧ FrameEnd U o U' L room_1.cells room_1.slots) := by
  refine MetFree.of_bodySF (plainFor_of_name own_pn0) hisR ?_
  intro p e s m args below meth c s₁ Bd hml0 hP hK
  obtain ⟨rfl, hZ, hh⟩ := hP
  have hx := Bd.exec
  have hby := Bd.bytes
  have hml : c.maxLocals = 15 := hml0
  have hown : s.vm.findClass "com/example/medianet/medianet/search/ScoreBelowPinLaw" = some m.cls := findClass_of_methodNamed Bd.named
  have hnm := (name_of_methodNamed Bd.named Bd.method).1
  have X0 : Stand p l e room_1 s m #[(.int p1), (.int p2), (.int p3), (.int p4), (.int p5)] below meth c s₁ [] 0 0 := Stand.of_body Bd
  have e0 : s₁.heap = h0 := by rw [← hh, Bd.state]; rfl
  have N0 := Fr.nil n0
  refine own_open ?_
  intro R hR
  rw [own_ef_own_rm0 m p1 p2 p3 p4 p5]
  show own_W p e below R (s₁.setTop (mkF m 0 #[.val (.int p1), .val (.int p2), .val (.int p3), .val (.int p4), .val (.int p5), .unset, .unset, .unset, .unset, .unset, .unset, .unset, .unset, .unset, .unset] []))
  refine own_go (A' := (s₁.setTop (mkF m 1 #[.val (.int p1), .val (.int p2), .val (.int p3), .val (.int p4), .val (.int p5), .unset, .unset, .unset, .unset, .unset, .unset, .unset, .unset, .unset, .unset] [(.int p3)]))) (fun _ k => XS.iloadN X0.here hx rfl (hb hby at_0) rfl k) ?_
  refine own_go (A' := (s₁.setTop (mkF m 3 #[.val (.int p1), .val (.int p2), .val (.int p3), .val (.int p4), .val (.int p5), .val (.int p3), .unset, .unset, .unset, .unset, .unset, .unset, .unset, .unset, .unset] []))) (fun _ k => XS.istore X0.here hx rfl (hb hby at_1) rfl (l' := #[.val (.int p1), .val (.int p2), .val (.int p3), .val (.int p4), .val (.int p5), .val (.int p3), .unset, .unset, .unset, .unset, .unset, .unset, .unset, .unset, .unset]) rfl k) ?_
  refine own_go (A' := (s₁.setTop (mkF m 4 #[.val (.int p1), .val (.int p2), .val (.int p3), .val (.int p4), .val (.int p5), .val (.int p3), .unset, .unset, .unset, .unset, .unset, .unset, .unset, .unset, .unset] [(.int p4)]))) (fun _ k => XS.iloadN X0.here hx rfl (hb hby at_3) rfl k) ?_
  refine own_go (A' := (s₁.setTop (mkF m 6 #[.val (.int p1), .val (.int p2), .val (.int p3), .val (.int p4), .val (.int p5), .val (.int p3), .val (.int p4), .unset, .unset, .unset, .unset, .unset, .unset, .unset, .unset] []))) (fun _ k => XS.istore X0.here hx rfl (hb hby at_4) rfl (l' := #[.val (.int p1), .val (.int p2), .val (.int p3), .val (.int p4), .val (.int p5), .val (.int p3), .val (.int p4), .unset, .unset, .unset, .unset, .unset, .unset, .unset, .unset]) rfl k) ?_
  refine own_go (A' := (s₁.setTop (mkF m 8 #[.val (.int p1), .val (.int p2), .val (.int p3), .val (.int p4), .val (.int p5), .val (.int p3), .val (.int p4), .unset, .unset, .unset, .unset, .unset, .unset, .unset, .unset] [(.int p5)]))) (fun _ k => XS.iload X0.here hx rfl (hb hby at_6) rfl k) ?_
  refine own_go (A' := (s₁.setTop (mkF m 9 #[.val (.int p1), .val (.int p2), .val (.int p3), .val (.int p4), .val (.int p5), .val (.int p3), .val (.int p4), .unset, .unset, .unset, .unset, .unset, .unset, .unset, .unset] [(.int (1 : Int32)), (.int p5)]))) (fun _ k => XS.iconst X0.here hx rfl (hb hby at_8) k) ?_
  refine own_go (A' := (s₁.setTop (mkF m 10 #[.val (.int p1), .val (.int p2), .val (.int p3), .val (.int p4), .val (.int p5), .val (.int p3), .val (.int p4), .unset, .unset, .unset, .unset, .unset, .unset, .unset, .unset] [(.int (p5 &&& (1 : Int32)))]))) (fun _ k => XS.iand X0.here hx rfl (hb hby at_9) rfl k) ?_
  have J26 : ∀ f g : Int32, own_W p e below R (s₁.setTop (mkF m 26 #[.val (.int p1), .val (.int p2), .val (.int p3), .val (.int p4), .val (.int p5), .val (.int f), .val (.int g), .unset, .unset, .unset, .unset, .unset, .unset, .unset, .unset] [])) := by
    intro f g
    refine own_go (A' := (s₁.setTop (mkF m 27 #[.val (.int p1), .val (.int p2), .val (.int p3), .val (.int p4), .val (.int p5), .val (.int f), .val (.int g), .unset, .unset, .unset, .unset, .unset, .unset, .unset, .unset] [(.int p1)]))) (fun _ k => XS.iloadN X0.here hx rfl (hb hby at_26) rfl k) ?_
    refine own_go (A' := (s₁.setTop (mkF m 28 #[.val (.int p1), .val (.int p2), .val (.int p3), .val (.int p4), .val (.int p5), .val (.int f), .val (.int g), .unset, .unset, .unset, .unset, .unset, .unset, .unset, .unset] [(.int p2), (.int p1)]))) (fun _ k => XS.iloadN X0.here hx rfl (hb hby at_27) rfl k) ?_
    obtain ⟨_, _, ⟨T1, L1, k1, n1⟩, -, X1, ⟨Lc1, hQ1, l1, y1, z1⟩, st1⟩ := Jvm.LawKit.callS X0 hx (y := (⟨"com/example/medianet/medianet/search/ScoreBelowPinLaw", "key", "(II)J"⟩ : MethodName)) hown (mvT hZ (hw _ (List.mem_of_getElem? (i := 0) rfl))) (mvT hZ (hw _ (List.mem_of_getElem? (i := 1) rfl))) (mvT hZ (hw _ (List.mem_of_getElem? (i := 2) rfl))) (mvT hZ (hw _ (List.mem_of_getElem? (i := 3) rfl))) (by decide) (backOf (W := 0) (own_keyM l Z a0 hw [] p1 p2 h0 n0 Z0) hZ (hw _ (List.mem_of_getElem? (i := 3) rfl)) (hw _ (List.mem_of_getElem? (i := 2) rfl)) (by decide) (by decide)) (g := (mkF m 28 #[.val (.int p1), .val (.int p2), .val (.int p3), .val (.int p4), .val (.int p5), .val (.int f), .val (.int g), .unset, .unset, .unset, .unset, .unset, .unset, .unset, .unset] [(.int p2), (.int p1)])) rfl (by rw [hml]; rfl) (argsL := [(.int p1), (.int p2)]) (rest := []) (lenOf own_pd1 rfl) rfl (by show 2 * 0 + _ ≤ _; exact Nat.le_of_eq rfl) (hb hby at_28) (fun _ _ => ⟨rfl, e0, (by decide : 0 + 0 ≤ _), (by decide : 0 + 0 ≤ _)⟩)
    dsimp only [Pt.U, Pt.locs, Pt.cells, Pt.slots] at X1 l1 y1 z1 st1 hQ1
    subst l1 y1 z1
    obtain ⟨rfl, N1q, hh1⟩ := hQ1
    have N1 := Fr.app N0 N1q
    refine own_go (A' := (T1.setTop (mkF m 31 #[.val (.int p1), .val (.int p2), .val (.int p3), .val (.int p4), .val (.int p5), .val (.int f), .val (.int g), .unset, .unset, .unset, .unset, .unset, .unset, .unset, .unset] [(.long (own_key p1 p2))]))) (fun _ k => st1 _ k) ?_
    refine own_go (A' := (T1.setTop (mkF m 33 #[.val (.int p1), .val (.int p2), .val (.int p3), .val (.int p4), .val (.int p5), .val (.int f), .val (.int g), .val (.long (own_key p1 p2)), .second, .unset, .unset, .unset, .unset, .unset, .unset] []))) (fun _ k => XS.lstore X1.here hx rfl (hb hby at_31) rfl (l' := #[.val (.int p1), .val (.int p2), .val (.int p3), .val (.int p4), .val (.int p5), .val (.int f), .val (.int g), .val (.long (own_key p1 p2)), .second, .unset, .unset, .unset, .unset, .unset, .unset]) rfl k) ?_
    refine own_go (A' := (T1.setTop (mkF m 35 #[.val (.int p1), .val (.int p2), .val (.int p3), .val (.int p4), .val (.int p5), .val (.int f), .val (.int g), .val (.long (own_key p1 p2)), .second, .unset, .unset, .unset, .unset, .unset, .unset] [(.int f)]))) (fun _ k => XS.iload X1.here hx rfl (hb hby at_33) rfl k) ?_
    refine own_go (A' := (T1.setTop (mkF m 37 #[.val (.int p1), .val (.int p2), .val (.int p3), .val (.int p4), .val (.int p5), .val (.int f), .val (.int g), .val (.long (own_key p1 p2)), .second, .unset, .unset, .unset, .unset, .unset, .unset] [(.int g), (.int f)]))) (fun _ k => XS.iload X1.here hx rfl (hb hby at_35) rfl k) ?_
    obtain ⟨_, _, ⟨T2, L2, k2, n2⟩, -, X2, ⟨Lc2, hQ2, l2, y2, z2⟩, st2⟩ := Jvm.LawKit.callS X1 hx (y := (⟨"com/example/medianet/medianet/search/ScoreBelowPinLaw", "key", "(II)J"⟩ : MethodName)) hown (mvT hZ (hw _ (List.mem_of_getElem? (i := 0) rfl))) (mvT hZ (hw _ (List.mem_of_getElem? (i := 1) rfl))) (mvT hZ (hw _ (List.mem_of_getElem? (i := 2) rfl))) (mvT hZ (hw _ (List.mem_of_getElem? (i := 3) rfl))) (by decide) (backOf (W := 0) (own_keyM l Z a0 hw [] f g h0 n0 Z0) hZ (hw _ (List.mem_of_getElem? (i := 3) rfl)) (hw _ (List.mem_of_getElem? (i := 2) rfl)) (by decide) (by decide)) (g := (mkF m 37 #[.val (.int p1), .val (.int p2), .val (.int p3), .val (.int p4), .val (.int p5), .val (.int f), .val (.int g), .val (.long (own_key p1 p2)), .second, .unset, .unset, .unset, .unset, .unset, .unset] [(.int g), (.int f)])) rfl (by rw [hml]; rfl) (argsL := [(.int f), (.int g)]) (rest := []) (lenOf own_pd1 rfl) rfl (by show 2 * 0 + _ ≤ _; exact Nat.le_of_eq rfl) (hb hby at_37) (fun _ _ => ⟨rfl, hh1, (by decide : 0 + 0 ≤ _), (by decide : 0 + 0 ≤ _)⟩)
    dsimp only [Pt.U, Pt.locs, Pt.cells, Pt.slots] at X2 l2 y2 z2 st2 hQ2
    subst l2 y2 z2
    obtain ⟨rfl, N2q, hh2⟩ := hQ2
    have N2 := Fr.app N1 N2q
    refine own_go (A' := (T2.setTop (mkF m 40 #[.val (.int p1), .val (.int p2), .val (.int p3), .val (.int p4), .val (.int p5), .val (.int f), .val (.int g), .val (.long (own_key p1 p2)), .second, .unset, .unset, .unset, .unset, .unset, .unset] [(.long (own_key f g))]))) (fun _ k => st2 _ k) ?_
    refine own_go (A' := (T2.setTop (mkF m 42 #[.val (.int p1), .val (.int p2), .val (.int p3), .val (.int p4), .val (.int p5), .val (.int f), .val (.int g), .val (.long (own_key p1 p2)), .second, .val (.long (own_key f g)), .second, .unset, .unset, .unset, .unset] []))) (fun _ k => XS.lstore X2.here hx rfl (hb hby at_40) rfl (l' := #[.val (.int p1), .val (.int p2), .val (.int p3), .val (.int p4), .val (.int p5), .val (.int f), .val (.int g), .val (.long (own_key p1 p2)), .second, .val (.long (own_key f g)), .second, .unset, .unset, .unset, .unset]) rfl k) ?_
    obtain ⟨T3, h3, X3, e3, E3, A3, D3, -, st3⟩ := newO X2 hx hZ hown (hw _ (List.mem_of_getElem? (i := 5) rfl)) (hw _ (List.mem_of_getElem? (i := 6) rfl)) (hw _ (List.mem_of_getElem? (i := 7) rfl)) hh2 (g := (mkF m 42 #[.val (.int p1), .val (.int p2), .val (.int p3), .val (.int p4), .val (.int p5), .val (.int f), .val (.int g), .val (.long (own_key p1 p2)), .second, .val (.long (own_key f g)), .second, .unset, .unset, .unset, .unset] [])) rfl (hb hby at_42) (by decide) (by decide)
    obtain ⟨b3, g3⟩ : ∃ z, z = h0.size := ⟨_, rfl⟩
    rw [← g3] at A3 D3 st3
    refine own_go (A' := (T3.setTop (mkF m 45 #[.val (.int p1), .val (.int p2), .val (.int p3), .val (.int p4), .val (.int p5), .val (.int f), .val (.int g), .val (.long (own_key p1 p2)), .second, .val (.long (own_key f g)), .second, .unset, .unset, .unset, .unset] [(.ref b3)]))) (fun _ k => st3 _ k) ?_
    have F3_excess : Fld Z h3 b3 "com/example/medianet/medianet/search/Score" "excess" "D" (.double (0 : UInt64)) := D3 (Or.inr (hw _ (List.mem_of_getElem? (i := 20) rfl))) (ty := .double) (by decide)
    have g_b1 : n0 ≤ b3 := by rw [g3]; exact Z0
    have Zn1 : n0 ≤ h3.size := Nat.le_trans Z0 E3.1
    refine own_go (A' := (T3.setTop (mkF m 46 #[.val (.int p1), .val (.int p2), .val (.int p3), .val (.int p4), .val (.int p5), .val (.int f), .val (.int g), .val (.long (own_key p1 p2)), .second, .val (.long (own_key f g)), .second, .unset, .unset, .unset, .unset] [(.ref b3), (.ref b3)]))) (fun _ k => XS.dup X3.here hx rfl (hb hby at_45) rfl rfl k) ?_
    refine own_go (A' := (T3.setTop (mkF m 47 #[.val (.int p1), .val (.int p2), .val (.int p3), .val (.int p4), .val (.int p5), .val (.int f), .val (.int g), .val (.long (own_key p1 p2)), .second, .val (.long (own_key f g)), .second, .unset, .unset, .unset, .unset] [(.int p1), (.ref b3), (.ref b3)]))) (fun _ k => XS.iloadN X3.here hx rfl (hb hby at_46) rfl k) ?_
    refine own_go (A' := (T3.setTop (mkF m 48 #[.val (.int p1), .val (.int p2), .val (.int p3), .val (.int p4), .val (.int p5), .val (.int f), .val (.int g), .val (.long (own_key p1 p2)), .second, .val (.long (own_key f g)), .second, .unset, .unset, .unset, .unset] [(.double (FP.i2d p1)), (.ref b3), (.ref b3)]))) (fun _ k => XS.i2dS X3.here hx rfl (hb hby at_47) rfl rfl k) ?_
    refine own_go (A' := (T3.setTop (mkF m 49 #[.val (.int p1), .val (.int p2), .val (.int p3), .val (.int p4), .val (.int p5), .val (.int f), .val (.int g), .val (.long (own_key p1 p2)), .second, .val (.long (own_key f g)), .second, .unset, .unset, .unset, .unset] [(.int p2), (.double (FP.i2d p1)), (.ref b3), (.ref b3)]))) (fun _ k => XS.iloadN X3.here hx rfl (hb hby at_48) rfl k) ?_
    refine own_go (A' := (T3.setTop (mkF m 50 #[.val (.int p1), .val (.int p2), .val (.int p3), .val (.int p4), .val (.int p5), .val (.int f), .val (.int g), .val (.long (own_key p1 p2)), .second, .val (.long (own_key f g)), .second, .unset, .unset, .unset, .unset] [(.double (FP.i2d p2)), (.double (FP.i2d p1)), (.ref b3), (.ref b3)]))) (fun _ k => XS.i2dS X3.here hx rfl (hb hby at_49) rfl rfl k) ?_
    obtain ⟨_, _, ⟨T4, L4, k4, n4⟩, -, X4, ⟨Lc4, hQ4, l4, y4, z4⟩, st4⟩ := X3.specialBack hx (y := (⟨"com/example/medianet/medianet/search/Score", "<init>", "(DD)V"⟩ : MethodName)) rfl hown (mvT hZ (hw _ (List.mem_of_getElem? (i := 8) rfl))) (mvT hZ (hw _ (List.mem_of_getElem? (i := 9) rfl))) (mvT hZ (hw _ (List.mem_of_getElem? (i := 10) rfl))) (by decide) (backOf (W := 1) (own_init l Z a0 hw [] b3 (FP.i2d p1) (FP.i2d p2) _ h3 n0 Zn1 A3 F3_excess g_b1) hZ (hw _ (List.mem_of_getElem? (i := 10) rfl)) (hw _ (List.mem_of_getElem? (i := 7) rfl)) (by decide) (by decide)) (g := (mkF m 50 #[.val (.int p1), .val (.int p2), .val (.int p3), .val (.int p4), .val (.int p5), .val (.int f), .val (.int g), .val (.long (own_key p1 p2)), .second, .val (.long (own_key f g)), .second, .unset, .unset, .unset, .unset] [(.double (FP.i2d p2)), (.double (FP.i2d p1)), (.ref b3), (.ref b3)])) rfl (by rw [hml]; rfl) (Steps.refl _) (a := b3) (argsL := [(.double (FP.i2d p1)), (.double (FP.i2d p2))]) (rest := [(.ref b3)]) (lenOf own_pd2 rfl) rfl (by show 2 * 0 + _ ≤ _; exact Nat.le_of_eq rfl) (hb hby at_50) (fun _ _ => ⟨rfl, e3, (by decide : 1 + 0 ≤ _), (by decide : 2 + 0 ≤ _)⟩)
    dsimp only [Pt.U, Pt.locs, Pt.cells, Pt.slots] at X4 l4 y4 z4 st4 hQ4
    subst l4 y4 z4
    obtain ⟨rfl, N4q, K4, Ea, Fa1, Fa2⟩ := hQ4
    have N4 := Fr.app N2 N4q
    refine own_go (A' := (T4.setTop (mkF m 53 #[.val (.int p1), .val (.int p2), .val (.int p3), .val (.int p4), .val (.int p5), .val (.int f), .val (.int g), .val (.long (own_key p1 p2)), .second, .val (.long (own_key f g)), .second, .unset, .unset, .unset, .unset] [(.ref b3)]))) (fun _ k => st4.trans k) ?_
    have Zn2 : n0 ≤ T4.heap.size := Nat.le_trans Zn1 K4.1
    refine own_go (A' := (T4.setTop (mkF m 55 #[.val (.int p1), .val (.int p2), .val (.int p3), .val (.int p4), .val (.int p5), .val (.int f), .val (.int g), .val (.long (own_key p1 p2)), .second, .val (.long (own_key f g)), .second, .val (.ref b3), .unset, .unset, .unset] []))) (fun _ k => XS.astore X4.here hx rfl (hb hby at_53) rfl rfl (l' := #[.val (.int p1), .val (.int p2), .val (.int p3), .val (.int p4), .val (.int p5), .val (.int f), .val (.int g), .val (.long (own_key p1 p2)), .second, .val (.long (own_key f g)), .second, .val (.ref b3), .unset, .unset, .unset]) rfl k) ?_
    obtain ⟨T5, h5, X5, e5, E5, A5, D5, -, st5⟩ := newO X4 hx hZ hown (hw _ (List.mem_of_getElem? (i := 5) rfl)) (hw _ (List.mem_of_getElem? (i := 6) rfl)) (hw _ (List.mem_of_getElem? (i := 7) rfl)) rfl (g := (mkF m 55 #[.val (.int p1), .val (.int p2), .val (.int p3), .val (.int p4), .val (.int p5), .val (.int f), .val (.int g), .val (.long (own_key p1 p2)), .second, .val (.long (own_key f g)), .second, .val (.ref b3), .unset, .unset, .unset] [])) rfl (hb hby at_55) (by decide) (by decide)
    obtain ⟨b5, g5⟩ : ∃ z, z = T4.heap.size := ⟨_, rfl⟩
    rw [← g5] at A5 D5 st5
    refine own_go (A' := (T5.setTop (mkF m 58 #[.val (.int p1), .val (.int p2), .val (.int p3), .val (.int p4), .val (.int p5), .val (.int f), .val (.int g), .val (.long (own_key p1 p2)), .second, .val (.long (own_key f g)), .second, .val (.ref b3), .unset, .unset, .unset] [(.ref b5)]))) (fun _ k => st5 _ k) ?_
    have F5_excess : Fld Z h5 b5 "com/example/medianet/medianet/search/Score" "excess" "D" (.double (0 : UInt64)) := D5 (Or.inr (hw _ (List.mem_of_getElem? (i := 20) rfl))) (ty := .double) (by decide)
    have g_b2 : n0 ≤ b5 := by rw [g5]; exact Zn2
    have Zn3 : n0 ≤ h5.size := Nat.le_trans Zn2 E5.1
    have ne12 : b3 ≠ b5 := Nat.ne_of_lt (Nat.lt_of_lt_of_le Ea.lt (Nat.le_of_eq g5.symm))
    have Ea := Ea.ext E5
    have Fa1 := Fa1.ext E5
    have Fa2 := Fa2.ext E5
    refine own_go (A' := (T5.setTop (mkF m 59 #[.val (.int p1), .val (.int p2), .val (.int p3), .val (.int p4), .val (.int p5), .val (.int f), .val (.int g), .val (.long (own_key p1 p2)), .second, .val (.long (own_key f g)), .second, .val (.ref b3), .unset, .unset, .unset] [(.ref b5), (.ref b5)]))) (fun _ k => XS.dup X5.here hx rfl (hb hby at_58) rfl rfl k) ?_
    refine own_go (A' := (T5.setTop (mkF m 61 #[.val (.int p1), .val (.int p2), .val (.int p3), .val (.int p4), .val (.int p5), .val (.int f), .val (.int g), .val (.long (own_key p1 p2)), .second, .val (.long (own_key f g)), .second, .val (.ref b3), .unset, .unset, .unset] [(.int f), (.ref b5), (.ref b5)]))) (fun _ k => XS.iload X5.here hx rfl (hb hby at_59) rfl k) ?_
    refine own_go (A' := (T5.setTop (mkF m 62 #[.val (.int p1), .val (.int p2), .val (.int p3), .val (.int p4), .val (.int p5), .val (.int f), .val (.int g), .val (.long (own_key p1 p2)), .second, .val (.long (own_key f g)), .second, .val (.ref b3), .unset, .unset, .unset] [(.double (FP.i2d f)), (.ref b5), (.ref b5)]))) (fun _ k => XS.i2dS X5.here hx rfl (hb hby at_61) rfl rfl k) ?_
    refine own_go (A' := (T5.setTop (mkF m 64 #[.val (.int p1), .val (.int p2), .val (.int p3), .val (.int p4), .val (.int p5), .val (.int f), .val (.int g), .val (.long (own_key p1 p2)), .second, .val (.long (own_key f g)), .second, .val (.ref b3), .unset, .unset, .unset] [(.int g), (.double (FP.i2d f)), (.ref b5), (.ref b5)]))) (fun _ k => XS.iload X5.here hx rfl (hb hby at_62) rfl k) ?_
    refine own_go (A' := (T5.setTop (mkF m 65 #[.val (.int p1), .val (.int p2), .val (.int p3), .val (.int p4), .val (.int p5), .val (.int f), .val (.int g), .val (.long (own_key p1 p2)), .second, .val (.long (own_key f g)), .second, .val (.ref b3), .unset, .unset, .unset] [(.double (FP.i2d g)), (.double (FP.i2d f)), (.ref b5), (.ref b5)]))) (fun _ k => XS.i2dS X5.here hx rfl (hb hby at_64) rfl rfl k) ?_
    obtain ⟨_, _, ⟨T6, L6, k6, n6⟩, -, X6, ⟨Lc6, hQ6, l6, y6, z6⟩, st6⟩ := X5.specialBack hx (y := (⟨"com/example/medianet/medianet/search/Score", "<init>", "(DD)V"⟩ : MethodName)) rfl hown (mvT hZ (hw _ (List.mem_of_getElem? (i := 8) rfl))) (mvT hZ (hw _ (List.mem_of_getElem? (i := 9) rfl))) (mvT hZ (hw _ (List.mem_of_getElem? (i := 10) rfl))) (by decide) (backOf (W := 1) (own_init l Z a0 hw [] b5 (FP.i2d f) (FP.i2d g) _ h5 n0 Zn3 A5 F5_excess g_b2) hZ (hw _ (List.mem_of_getElem? (i := 10) rfl)) (hw _ (List.mem_of_getElem? (i := 7) rfl)) (by decide) (by decide)) (g := (mkF m 65 #[.val (.int p1), .val (.int p2), .val (.int p3), .val (.int p4), .val (.int p5), .val (.int f), .val (.int g), .val (.long (own_key p1 p2)), .second, .val (.long (own_key f g)), .second, .val (.ref b3), .unset, .unset, .unset] [(.double (FP.i2d g)), (.double (FP.i2d f)), (.ref b5), (.ref b5)])) rfl (by rw [hml]; rfl) (Steps.refl _) (a := b5) (argsL := [(.double (FP.i2d f)), (.double (FP.i2d g))]) (rest := [(.ref b5)]) (lenOf own_pd2 rfl) rfl (by show 2 * 0 + _ ≤ _; exact Nat.le_of_eq rfl) (hb hby at_65) (fun _ _ => ⟨rfl, e5, (by decide : 2 + 0 ≤ _), (by decide : 4 + 0 ≤ _)⟩)
    dsimp only [Pt.U, Pt.locs, Pt.cells, Pt.slots] at X6 l6 y6 z6 st6 hQ6
    subst l6 y6 z6
    obtain ⟨rfl, N6q, K6, Eb, Fb1, Fb2⟩ := hQ6
    have N6 := Fr.app N4 N6q
    refine own_go (A' := (T6.setTop (mkF m 68 #[.val (.int p1), .val (.int p2), .val (.int p3), .val (.int p4), .val (.int p5), .val (.int f), .val (.int g), .val (.long (own_key p1 p2)), .second, .val (.long (own_key f g)), .second, .val (.ref b3), .unset, .unset, .unset] [(.ref b5)]))) (fun _ k => st6.trans k) ?_
    have Ea := Ea.keep K6
    have Fa1 := Fa1.keep K6 (ninS ne12 nin0)
    have Fa2 := Fa2.keep K6 (ninS ne12 nin0)
    have Zn4 : n0 ≤ T6.heap.size := Nat.le_trans Zn3 K6.1
    refine own_go (A' := (T6.setTop (mkF m 70 #[.val (.int p1), .val (.int p2), .val (.int p3), .val (.int p4), .val (.int p5), .val (.int f), .val (.int g), .val (.long (own_key p1 p2)), .second, .val (.long (own_key f g)), .second, .val (.ref b3), .val (.ref b5), .unset, .unset] []))) (fun _ k => XS.astore X6.here hx rfl (hb hby at_68) rfl rfl (l' := #[.val (.int p1), .val (.int p2), .val (.int p3), .val (.int p4), .val (.int p5), .val (.int f), .val (.int g), .val (.long (own_key p1 p2)), .second, .val (.long (own_key f g)), .second, .val (.ref b3), .val (.ref b5), .unset, .unset]) rfl k) ?_
    refine own_go (A' := (T6.setTop (mkF m 72 #[.val (.int p1), .val (.int p2), .val (.int p3), .val (.int p4), .val (.int p5), .val (.int f), .val (.int g), .val (.long (own_key p1 p2)), .second, .val (.long (own_key f g)), .second, .val (.ref b3), .val (.ref b5), .unset, .unset] [(.ref b3)]))) (fun _ k => XS.aload X6.here hx rfl (hb hby at_70) rfl rfl k) ?_
    refine own_go (A' := (T6.setTop (mkF m 74 #[.val (.int p1), .val (.int p2), .val (.int p3), .val (.int p4), .val (.int p5), .val (.int f), .val (.int g), .val (.long (own_key p1 p2)), .second, .val (.long (own_key f g)), .second, .val (.ref b3), .val (.ref b5), .unset, .unset] [(.ref b5), (.ref b3)]))) (fun _ k => XS.aload X6.here hx rfl (hb hby at_72) rfl rfl k) ?_
    obtain ⟨cq7, kq7, q7a, q7b, q7c⟩ := isOf hZ rfl Ea
    obtain ⟨_, _, ⟨T7, L7, k7, n7⟩, -, X7, ⟨Lc7, hQ7, l7, y7, z7⟩, st7⟩ := X6.virtualBack hx (y := (⟨"com/example/medianet/medianet/search/Score", "below", "(Lcom/example/medianet/medianet/search/Score;)Z"⟩ : MethodName)) (z := (⟨"com/example/medianet/medianet/search/Score", "below", "(Lcom/example/medianet/medianet/search/Score;)Z"⟩ : MethodName)) hown (mvT hZ (hw _ (List.mem_of_getElem? (i := 23) rfl))) (mvT hZ (hw _ (List.mem_of_getElem? (i := 24) rfl))) (notFace_of_selects (args := #[]) (mvT hZ (hw _ (List.mem_of_getElem? (i := 26) rfl)))) (mvT hZ (hw _ (List.mem_of_getElem? (i := 26) rfl))) (mvT hZ (hw _ (List.mem_of_getElem? (i := 25) rfl))) (by decide) (backOf (W := 0) (own_below l Z a0 hw [] b3 b5 _ _ _ _ _ _ _ _ T6.heap n0 Zn4 (own_i2d p1) (own_i2d p2) (own_i2d f) (own_i2d g) Fa1 Fa2 Fb1 Fb2) hZ (hw _ (List.mem_of_getElem? (i := 27) rfl)) (hw _ (List.mem_of_getElem? (i := 7) rfl)) (by decide) (by decide)) q7a q7c (g := (mkF m 74 #[.val (.int p1), .val (.int p2), .val (.int p3), .val (.int p4), .val (.int p5), .val (.int f), .val (.int g), .val (.long (own_key p1 p2)), .second, .val (.long (own_key f g)), .second, .val (.ref b3), .val (.ref b5), .unset, .unset] [(.ref b5), (.ref b3)])) rfl (by rw [hml]; rfl) (Steps.refl _) (argsL := [(.ref b5)]) (rest := []) (lenOf own_pd3 rfl) rfl (by show 2 * 0 + _ ≤ _; exact Nat.le_of_eq rfl) (hb hby at_74) (fun _ _ => ⟨rfl, rfl, (by decide : 2 + 0 ≤ _), (by decide : 4 + 0 ≤ _)⟩)
    dsimp only [Pt.U, Pt.locs, Pt.cells, Pt.slots] at X7 l7 y7 z7 st7 hQ7
    subst l7 y7 z7
    obtain ⟨rfl, N7q, hh7⟩ := hQ7
    have N7 := Fr.app N6 N7q
    refine own_go (A' := (T7.setTop (mkF m 77 #[.val (.int p1), .val (.int p2), .val (.int p3), .val (.int p4), .val (.int p5), .val (.int f), .val (.int g), .val (.long (own_key p1 p2)), .second, .val (.long (own_key f g)), .second, .val (.ref b3), .val (.ref b5), .unset, .unset] [(.int (own_lexV p1.toInt p2.toInt f.toInt g.toInt))]))) (fun _ k => st7.trans k) ?_
    refine own_go (A' := (T7.setTop (mkF m 79 #[.val (.int p1), .val (.int p2), .val (.int p3), .val (.int p4), .val (.int p5), .val (.int f), .val (.int g), .val (.long (own_key p1 p2)), .second, .val (.long (own_key f g)), .second, .val (.ref b3), .val (.ref b5), .val (.int (own_lexV p1.toInt p2.toInt f.toInt g.toInt)), .unset] []))) (fun _ k => XS.istore X7.here hx rfl (hb hby at_77) rfl (l' := #[.val (.int p1), .val (.int p2), .val (.int p3), .val (.int p4), .val (.int p5), .val (.int f), .val (.int g), .val (.long (own_key p1 p2)), .second, .val (.long (own_key f g)), .second, .val (.ref b3), .val (.ref b5), .val (.int (own_lexV p1.toInt p2.toInt f.toInt g.toInt)), .unset]) rfl k) ?_
    refine own_go (A' := (T7.setTop (mkF m 81 #[.val (.int p1), .val (.int p2), .val (.int p3), .val (.int p4), .val (.int p5), .val (.int f), .val (.int g), .val (.long (own_key p1 p2)), .second, .val (.long (own_key f g)), .second, .val (.ref b3), .val (.ref b5), .val (.int (own_lexV p1.toInt p2.toInt f.toInt g.toInt)), .unset] [(.ref b5)]))) (fun _ k => XS.aload X7.here hx rfl (hb hby at_79) rfl rfl k) ?_
    refine own_go (A' := (T7.setTop (mkF m 83 #[.val (.int p1), .val (.int p2), .val (.int p3), .val (.int p4), .val (.int p5), .val (.int f), .val (.int g), .val (.long (own_key p1 p2)), .second, .val (.long (own_key f g)), .second, .val (.ref b3), .val (.ref b5), .val (.int (own_lexV p1.toInt p2.toInt f.toInt g.toInt)), .unset] [(.ref b3), (.ref b5)]))) (fun _ k => XS.aload X7.here hx rfl (hb hby at_81) rfl rfl k) ?_
    obtain ⟨cq8, kq8, q8a, q8b, q8c⟩ := isOf hZ hh7 Eb
    obtain ⟨_, _, ⟨T8, L8, k8, n8⟩, -, X8, ⟨Lc8, hQ8, l8, y8, z8⟩, st8⟩ := X7.virtualBack hx (y := (⟨"com/example/medianet/medianet/search/Score", "below", "(Lcom/example/medianet/medianet/search/Score;)Z"⟩ : MethodName)) (z := (⟨"com/example/medianet/medianet/search/Score", "below", "(Lcom/example/medianet/medianet/search/Score;)Z"⟩ : MethodName)) hown (mvT hZ (hw _ (List.mem_of_getElem? (i := 23) rfl))) (mvT hZ (hw _ (List.mem_of_getElem? (i := 24) rfl))) (notFace_of_selects (args := #[]) (mvT hZ (hw _ (List.mem_of_getElem? (i := 26) rfl)))) (mvT hZ (hw _ (List.mem_of_getElem? (i := 26) rfl))) (mvT hZ (hw _ (List.mem_of_getElem? (i := 25) rfl))) (by decide) (backOf (W := 0) (own_below l Z a0 hw [] b5 b3 _ _ _ _ _ _ _ _ T6.heap n0 Zn4 (own_i2d f) (own_i2d g) (own_i2d p1) (own_i2d p2) Fb1 Fb2 Fa1 Fa2) hZ (hw _ (List.mem_of_getElem? (i := 27) rfl)) (hw _ (List.mem_of_getElem? (i := 7) rfl)) (by decide) (by decide)) q8a q8c (g := (mkF m 83 #[.val (.int p1), .val (.int p2), .val (.int p3), .val (.int p4), .val (.int p5), .val (.int f), .val (.int g), .val (.long (own_key p1 p2)), .second, .val (.long (own_key f g)), .second, .val (.ref b3), .val (.ref b5), .val (.int (own_lexV p1.toInt p2.toInt f.toInt g.toInt)), .unset] [(.ref b3), (.ref b5)])) rfl (by rw [hml]; rfl) (Steps.refl _) (argsL := [(.ref b3)]) (rest := []) (lenOf own_pd3 rfl) rfl (by show 2 * 0 + _ ≤ _; exact Nat.le_of_eq rfl) (hb hby at_83) (fun _ _ => ⟨rfl, hh7, (by decide : 2 + 0 ≤ _), (by decide : 4 + 0 ≤ _)⟩)
    dsimp only [Pt.U, Pt.locs, Pt.cells, Pt.slots] at X8 l8 y8 z8 st8 hQ8
    subst l8 y8 z8
    obtain ⟨rfl, N8q, hh8⟩ := hQ8
    have N8 := Fr.app N7 N8q
    refine own_go (A' := (T8.setTop (mkF m 86 #[.val (.int p1), .val (.int p2), .val (.int p3), .val (.int p4), .val (.int p5), .val (.int f), .val (.int g), .val (.long (own_key p1 p2)), .second, .val (.long (own_key f g)), .second, .val (.ref b3), .val (.ref b5), .val (.int (own_lexV p1.toInt p2.toInt f.toInt g.toInt)), .unset] [(.int (own_lexV f.toInt g.toInt p1.toInt p2.toInt))]))) (fun _ k => st8.trans k) ?_
    refine own_go (A' := (T8.setTop (mkF m 88 #[.val (.int p1), .val (.int p2), .val (.int p3), .val (.int p4), .val (.int p5), .val (.int f), .val (.int g), .val (.long (own_key p1 p2)), .second, .val (.long (own_key f g)), .second, .val (.ref b3), .val (.ref b5), .val (.int (own_lexV p1.toInt p2.toInt f.toInt g.toInt)), .val (.int (own_lexV f.toInt g.toInt p1.toInt p2.toInt))] []))) (fun _ k => XS.istore X8.here hx rfl (hb hby at_86) rfl (l' := #[.val (.int p1), .val (.int p2), .val (.int p3), .val (.int p4), .val (.int p5), .val (.int f), .val (.int g), .val (.long (own_key p1 p2)), .second, .val (.long (own_key f g)), .second, .val (.ref b3), .val (.ref b5), .val (.int (own_lexV p1.toInt p2.toInt f.toInt g.toInt)), .val (.int (own_lexV f.toInt g.toInt p1.toInt p2.toInt))]) rfl k) ?_
    refine own_go (A' := (T8.setTop (mkF m 90 #[.val (.int p1), .val (.int p2), .val (.int p3), .val (.int p4), .val (.int p5), .val (.int f), .val (.int g), .val (.long (own_key p1 p2)), .second, .val (.long (own_key f g)), .second, .val (.ref b3), .val (.ref b5), .val (.int (own_lexV p1.toInt p2.toInt f.toInt g.toInt)), .val (.int (own_lexV f.toInt g.toInt p1.toInt p2.toInt))] [(.int (own_lexV p1.toInt p2.toInt f.toInt g.toInt))]))) (fun _ k => XS.iload X8.here hx rfl (hb hby at_88) rfl k) ?_
    refine own_go (A' := (T8.setTop (mkF m 92 #[.val (.int p1), .val (.int p2), .val (.int p3), .val (.int p4), .val (.int p5), .val (.int f), .val (.int g), .val (.long (own_key p1 p2)), .second, .val (.long (own_key f g)), .second, .val (.ref b3), .val (.ref b5), .val (.int (own_lexV p1.toInt p2.toInt f.toInt g.toInt)), .val (.int (own_lexV f.toInt g.toInt p1.toInt p2.toInt))] [(.long (own_key p1 p2)), (.int (own_lexV p1.toInt p2.toInt f.toInt g.toInt))]))) (fun _ k => XS.lload X8.here hx rfl (hb hby at_90) rfl k) ?_
    refine own_go (A' := (T8.setTop (mkF m 94 #[.val (.int p1), .val (.int p2), .val (.int p3), .val (.int p4), .val (.int p5), .val (.int f), .val (.int g), .val (.long (own_key p1 p2)), .second, .val (.long (own_key f g)), .second, .val (.ref b3), .val (.ref b5), .val (.int (own_lexV p1.toInt p2.toInt f.toInt g.toInt)), .val (.int (own_lexV f.toInt g.toInt p1.toInt p2.toInt))] [(.long (own_key f g)), (.long (own_key p1 p2)), (.int (own_lexV p1.toInt p2.toInt f.toInt g.toInt))]))) (fun _ k => XS.lload X8.here hx rfl (hb hby at_92) rfl k) ?_
    refine own_go (A' := (T8.setTop (mkF m 95 #[.val (.int p1), .val (.int p2), .val (.int p3), .val (.int p4), .val (.int p5), .val (.int f), .val (.int g), .val (.long (own_key p1 p2)), .second, .val (.long (own_key f g)), .second, .val (.ref b3), .val (.ref b5), .val (.int (own_lexV p1.toInt p2.toInt f.toInt g.toInt)), .val (.int (own_lexV f.toInt g.toInt p1.toInt p2.toInt))] [(.int (lcmpW (own_key p1 p2) (own_key f g))), (.int (own_lexV p1.toInt p2.toInt f.toInt g.toInt))]))) (fun _ k => XS.lcmp X8.here hx rfl (hb hby at_94) rfl k) ?_
    have J103 : ∀ x : Int32, x = (own_lexV p1.toInt p2.toInt f.toInt g.toInt) → own_W p e below R (T8.setTop (mkF m 103 #[.val (.int p1), .val (.int p2), .val (.int p3), .val (.int p4), .val (.int p5), .val (.int f), .val (.int g), .val (.long (own_key p1 p2)), .second, .val (.long (own_key f g)), .second, .val (.ref b3), .val (.ref b5), .val (.int (own_lexV p1.toInt p2.toInt f.toInt g.toInt)), .val (.int (own_lexV f.toInt g.toInt p1.toInt p2.toInt))] [(.int x), (.int (own_lexV p1.toInt p2.toInt f.toInt g.toInt))])) := by
      intro x hx1
      refine own_go (A' := (T8.setTop (mkF m 106 #[.val (.int p1), .val (.int p2), .val (.int p3), .val (.int p4), .val (.int p5), .val (.int f), .val (.int g), .val (.long (own_key p1 p2)), .second, .val (.long (own_key f g)), .second, .val (.ref b3), .val (.ref b5), .val (.int (own_lexV p1.toInt p2.toInt f.toInt g.toInt)), .val (.int (own_lexV f.toInt g.toInt p1.toInt p2.toInt))] []))) (fun _ k => XS.icmpNo X8.here hx rfl (hb hby at_103) rfl (teq hx1.symm).2 k) ?_
      refine own_go (A' := (T8.setTop (mkF m 108 #[.val (.int p1), .val (.int p2), .val (.int p3), .val (.int p4), .val (.int p5), .val (.int f), .val (.int g), .val (.long (own_key p1 p2)), .second, .val (.long (own_key f g)), .second, .val (.ref b3), .val (.ref b5), .val (.int (own_lexV p1.toInt p2.toInt f.toInt g.toInt)), .val (.int (own_lexV f.toInt g.toInt p1.toInt p2.toInt))] [(.int (own_lexV f.toInt g.toInt p1.toInt p2.toInt))]))) (fun _ k => XS.iload X8.here hx rfl (hb hby at_106) rfl k) ?_
      refine own_go (A' := (T8.setTop (mkF m 110 #[.val (.int p1), .val (.int p2), .val (.int p3), .val (.int p4), .val (.int p5), .val (.int f), .val (.int g), .val (.long (own_key p1 p2)), .second, .val (.long (own_key f g)), .second, .val (.ref b3), .val (.ref b5), .val (.int (own_lexV p1.toInt p2.toInt f.toInt g.toInt)), .val (.int (own_lexV f.toInt g.toInt p1.toInt p2.toInt))] [(.long (own_key f g)), (.int (own_lexV f.toInt g.toInt p1.toInt p2.toInt))]))) (fun _ k => XS.lload X8.here hx rfl (hb hby at_108) rfl k) ?_
      refine own_go (A' := (T8.setTop (mkF m 112 #[.val (.int p1), .val (.int p2), .val (.int p3), .val (.int p4), .val (.int p5), .val (.int f), .val (.int g), .val (.long (own_key p1 p2)), .second, .val (.long (own_key f g)), .second, .val (.ref b3), .val (.ref b5), .val (.int (own_lexV p1.toInt p2.toInt f.toInt g.toInt)), .val (.int (own_lexV f.toInt g.toInt p1.toInt p2.toInt))] [(.long (own_key p1 p2)), (.long (own_key f g)), (.int (own_lexV f.toInt g.toInt p1.toInt p2.toInt))]))) (fun _ k => XS.lload X8.here hx rfl (hb hby at_110) rfl k) ?_
      refine own_go (A' := (T8.setTop (mkF m 113 #[.val (.int p1), .val (.int p2), .val (.int p3), .val (.int p4), .val (.int p5), .val (.int f), .val (.int g), .val (.long (own_key p1 p2)), .second, .val (.long (own_key f g)), .second, .val (.ref b3), .val (.ref b5), .val (.int (own_lexV p1.toInt p2.toInt f.toInt g.toInt)), .val (.int (own_lexV f.toInt g.toInt p1.toInt p2.toInt))] [(.int (lcmpW (own_key f g) (own_key p1 p2))), (.int (own_lexV f.toInt g.toInt p1.toInt p2.toInt))]))) (fun _ k => XS.lcmp X8.here hx rfl (hb hby at_112) rfl k) ?_
      have J121 : ∀ y : Int32, y = (own_lexV f.toInt g.toInt p1.toInt p2.toInt) → own_W p e below R (T8.setTop (mkF m 121 #[.val (.int p1), .val (.int p2), .val (.int p3), .val (.int p4), .val (.int p5), .val (.int f), .val (.int g), .val (.long (own_key p1 p2)), .second, .val (.long (own_key f g)), .second, .val (.ref b3), .val (.ref b5), .val (.int (own_lexV p1.toInt p2.toInt f.toInt g.toInt)), .val (.int (own_lexV f.toInt g.toInt p1.toInt p2.toInt))] [(.int y), (.int (own_lexV f.toInt g.toInt p1.toInt p2.toInt))])) := by
        intro y hy1
        refine own_go (A' := (T8.setTop (mkF m 124 #[.val (.int p1), .val (.int p2), .val (.int p3), .val (.int p4), .val (.int p5), .val (.int f), .val (.int g), .val (.long (own_key p1 p2)), .second, .val (.long (own_key f g)), .second, .val (.ref b3), .val (.ref b5), .val (.int (own_lexV p1.toInt p2.toInt f.toInt g.toInt)), .val (.int (own_lexV f.toInt g.toInt p1.toInt p2.toInt))] []))) (fun _ k => XS.icmpNo X8.here hx rfl (hb hby at_121) rfl (teq hy1.symm).2 k) ?_
        refine own_go (A' := (T8.setTop (mkF m 125 #[.val (.int p1), .val (.int p2), .val (.int p3), .val (.int p4), .val (.int p5), .val (.int f), .val (.int g), .val (.long (own_key p1 p2)), .second, .val (.long (own_key f g)), .second, .val (.ref b3), .val (.ref b5), .val (.int (own_lexV p1.toInt p2.toInt f.toInt g.toInt)), .val (.int (own_lexV f.toInt g.toInt p1.toInt p2.toInt))] [(.int (1 : Int32))]))) (fun _ k => XS.iconst X8.here hx rfl (hb hby at_124) k) ?_
        refine own_go (A' := (T8.setTop (mkF m 129 #[.val (.int p1), .val (.int p2), .val (.int p3), .val (.int p4), .val (.int p5), .val (.int f), .val (.int g), .val (.long (own_key p1 p2)), .second, .val (.long (own_key f g)), .second, .val (.ref b3), .val (.ref b5), .val (.int (own_lexV p1.toInt p2.toInt f.toInt g.toInt)), .val (.int (own_lexV f.toInt g.toInt p1.toInt p2.toInt))] [(.int (1 : Int32))]))) (fun _ k => XS.goto X8.here hx rfl (pc0 := 125) (pc' := 129) rfl (hb hby at_125) (by decide) (by decide) k) ?_
        obtain ⟨fs, hr, hrun, hended, hW, hsame⟩ := X8.leave (v := some (.int (1 : Int32))) (fun h => by rw [Bd.returns] at h; cases h)
        refine ⟨_, _, retN X8 hx (t := .boolean) Bd.returns (by simp) (hb hby at_129) hr, hR _ _ ⟨hrun, hended, _, _, rfl, ?_, ⟨_, rfl⟩, hW, hsame.mono (by decide) (by decide)⟩⟩
        show own_Q_own_rm0 Z p1 p2 p3 p4 p5 h0 n0 _ T8.heap _
        rw [hh8]
        exact ⟨rfl, N8⟩
      have q1 := own_l_lt (own_key f g) (own_key p1 p2)
      have q2 := own_key_lt f g p1 p2
      by_cases hd : (lcmpW (own_key f g) (own_key p1 p2)) < (0 : Int32)
      · refine own_go (A' := (T8.setTop (mkF m 116 #[.val (.int p1), .val (.int p2), .val (.int p3), .val (.int p4), .val (.int p5), .val (.int f), .val (.int g), .val (.long (own_key p1 p2)), .second, .val (.long (own_key f g)), .second, .val (.ref b3), .val (.ref b5), .val (.int (own_lexV p1.toInt p2.toInt f.toInt g.toInt)), .val (.int (own_lexV f.toInt g.toInt p1.toInt p2.toInt))] [(.int (own_lexV f.toInt g.toInt p1.toInt p2.toInt))]))) (fun _ k => XS.ifNo X8.here hx rfl (hb hby at_113) rfl ((if0 _ _).trans (tlt hd).2.1) k) ?_
        refine own_go (A' := (T8.setTop (mkF m 117 #[.val (.int p1), .val (.int p2), .val (.int p3), .val (.int p4), .val (.int p5), .val (.int f), .val (.int g), .val (.long (own_key p1 p2)), .second, .val (.long (own_key f g)), .second, .val (.ref b3), .val (.ref b5), .val (.int (own_lexV p1.toInt p2.toInt f.toInt g.toInt)), .val (.int (own_lexV f.toInt g.toInt p1.toInt p2.toInt))] [(.int (1 : Int32)), (.int (own_lexV f.toInt g.toInt p1.toInt p2.toInt))]))) (fun _ k => XS.iconst X8.here hx rfl (hb hby at_116) k) ?_
        refine own_go (A' := (T8.setTop (mkF m 121 #[.val (.int p1), .val (.int p2), .val (.int p3), .val (.int p4), .val (.int p5), .val (.int f), .val (.int g), .val (.long (own_key p1 p2)), .second, .val (.long (own_key f g)), .second, .val (.ref b3), .val (.ref b5), .val (.int (own_lexV p1.toInt p2.toInt f.toInt g.toInt)), .val (.int (own_lexV f.toInt g.toInt p1.toInt p2.toInt))] [(.int (1 : Int32)), (.int (own_lexV f.toInt g.toInt p1.toInt p2.toInt))]))) (fun _ k => XS.goto X8.here hx rfl (pc0 := 117) (pc' := 121) rfl (hb hby at_117) (by decide) (by decide) k) ?_
        exact J121 _ (own_lexV_t (q2.mp (q1.mp hd))).symm
      · refine own_go (A' := (T8.setTop (mkF m 120 #[.val (.int p1), .val (.int p2), .val (.int p3), .val (.int p4), .val (.int p5), .val (.int f), .val (.int g), .val (.long (own_key p1 p2)), .second, .val (.long (own_key f g)), .second, .val (.ref b3), .val (.ref b5), .val (.int (own_lexV p1.toInt p2.toInt f.toInt g.toInt)), .val (.int (own_lexV f.toInt g.toInt p1.toInt p2.toInt))] [(.int (own_lexV f.toInt g.toInt p1.toInt p2.toInt))]))) (fun _ k => XS.ifYes X8.here hx rfl (pc0 := 113) (pc' := 120) rfl (hb hby at_113) rfl ((if0 _ _).trans (flt hd).2.1) (by decide) (by decide) k) ?_
        refine own_go (A' := (T8.setTop (mkF m 121 #[.val (.int p1), .val (.int p2), .val (.int p3), .val (.int p4), .val (.int p5), .val (.int f), .val (.int g), .val (.long (own_key p1 p2)), .second, .val (.long (own_key f g)), .second, .val (.ref b3), .val (.ref b5), .val (.int (own_lexV p1.toInt p2.toInt f.toInt g.toInt)), .val (.int (own_lexV f.toInt g.toInt p1.toInt p2.toInt))] [(.int (0 : Int32)), (.int (own_lexV f.toInt g.toInt p1.toInt p2.toInt))]))) (fun _ k => XS.iconst X8.here hx rfl (hb hby at_120) k) ?_
        exact J121 _ (own_lexV_f fun q => hd (q1.mpr (q2.mpr q))).symm
    have q1 := own_l_lt (own_key p1 p2) (own_key f g)
    have q2 := own_key_lt p1 p2 f g
    by_cases hc : (lcmpW (own_key p1 p2) (own_key f g)) < (0 : Int32)
    · refine own_go (A' := (T8.setTop (mkF m 98 #[.val (.int p1), .val (.int p2), .val (.int p3), .val (.int p4), .val (.int p5), .val (.int f), .val (.int g), .val (.long (own_key p1 p2)), .second, .val (.long (own_key f g)), .second, .val (.ref b3), .val (.ref b5), .val (.int (own_lexV p1.toInt p2.toInt f.toInt g.toInt)), .val (.int (own_lexV f.toInt g.toInt p1.toInt p2.toInt))] [(.int (own_lexV p1.toInt p2.toInt f.toInt g.toInt))]))) (fun _ k => XS.ifNo X8.here hx rfl (hb hby at_95) rfl ((if0 _ _).trans (tlt hc).2.1) k) ?_
      refine own_go (A' := (T8.setTop (mkF m 99 #[.val (.int p1), .val (.int p2), .val (.int p3), .val (.int p4), .val (.int p5), .val (.int f), .val (.int g), .val (.long (own_key p1 p2)), .second, .val (.long (own_key f g)), .second, .val (.ref b3), .val (.ref b5), .val (.int (own_lexV p1.toInt p2.toInt f.toInt g.toInt)), .val (.int (own_lexV f.toInt g.toInt p1.toInt p2.toInt))] [(.int (1 : Int32)), (.int (own_lexV p1.toInt p2.toInt f.toInt g.toInt))]))) (fun _ k => XS.iconst X8.here hx rfl (hb hby at_98) k) ?_
      refine own_go (A' := (T8.setTop (mkF m 103 #[.val (.int p1), .val (.int p2), .val (.int p3), .val (.int p4), .val (.int p5), .val (.int f), .val (.int g), .val (.long (own_key p1 p2)), .second, .val (.long (own_key f g)), .second, .val (.ref b3), .val (.ref b5), .val (.int (own_lexV p1.toInt p2.toInt f.toInt g.toInt)), .val (.int (own_lexV f.toInt g.toInt p1.toInt p2.toInt))] [(.int (1 : Int32)), (.int (own_lexV p1.toInt p2.toInt f.toInt g.toInt))]))) (fun _ k => XS.goto X8.here hx rfl (pc0 := 99) (pc' := 103) rfl (hb hby at_99) (by decide) (by decide) k) ?_
      exact J103 _ (own_lexV_t (q2.mp (q1.mp hc))).symm
    · refine own_go (A' := (T8.setTop (mkF m 102 #[.val (.int p1), .val (.int p2), .val (.int p3), .val (.int p4), .val (.int p5), .val (.int f), .val (.int g), .val (.long (own_key p1 p2)), .second, .val (.long (own_key f g)), .second, .val (.ref b3), .val (.ref b5), .val (.int (own_lexV p1.toInt p2.toInt f.toInt g.toInt)), .val (.int (own_lexV f.toInt g.toInt p1.toInt p2.toInt))] [(.int (own_lexV p1.toInt p2.toInt f.toInt g.toInt))]))) (fun _ k => XS.ifYes X8.here hx rfl (pc0 := 95) (pc' := 102) rfl (hb hby at_95) rfl ((if0 _ _).trans (flt hc).2.1) (by decide) (by decide) k) ?_
      refine own_go (A' := (T8.setTop (mkF m 103 #[.val (.int p1), .val (.int p2), .val (.int p3), .val (.int p4), .val (.int p5), .val (.int f), .val (.int g), .val (.long (own_key p1 p2)), .second, .val (.long (own_key f g)), .second, .val (.ref b3), .val (.ref b5), .val (.int (own_lexV p1.toInt p2.toInt f.toInt g.toInt)), .val (.int (own_lexV f.toInt g.toInt p1.toInt p2.toInt))] [(.int (0 : Int32)), (.int (own_lexV p1.toInt p2.toInt f.toInt g.toInt))]))) (fun _ k => XS.iconst X8.here hx rfl (hb hby at_102) k) ?_
      exact J103 _ (own_lexV_f fun q => hc (q1.mpr (q2.mpr q))).symm
  by_cases hm1 : (p5 &&& (1 : Int32)) = (0 : Int32)
  · refine own_go (A' := (s₁.setTop (mkF m 16 #[.val (.int p1), .val (.int p2), .val (.int p3), .val (.int p4), .val (.int p5), .val (.int p3), .val (.int p4), .unset, .unset, .unset, .unset, .unset, .unset, .unset, .unset] []))) (fun _ k => XS.ifYes X0.here hx rfl (pc0 := 10) (pc' := 16) rfl (hb hby at_10) rfl ((if0 _ _).trans (teq hm1).1) (by decide) (by decide) k) ?_
    refine own_go (A' := (s₁.setTop (mkF m 18 #[.val (.int p1), .val (.int p2), .val (.int p3), .val (.int p4), .val (.int p5), .val (.int p3), .val (.int p4), .unset, .unset, .unset, .unset, .unset, .unset, .unset, .unset] [(.int p5)]))) (fun _ k => XS.iload X0.here hx rfl (hb hby at_16) rfl k) ?_
    refine own_go (A' := (s₁.setTop (mkF m 19 #[.val (.int p1), .val (.int p2), .val (.int p3), .val (.int p4), .val (.int p5), .val (.int p3), .val (.int p4), .unset, .unset, .unset, .unset, .unset, .unset, .unset, .unset] [(.int (2 : Int32)), (.int p5)]))) (fun _ k => XS.iconst X0.here hx rfl (hb hby at_18) k) ?_
    refine own_go (A' := (s₁.setTop (mkF m 20 #[.val (.int p1), .val (.int p2), .val (.int p3), .val (.int p4), .val (.int p5), .val (.int p3), .val (.int p4), .unset, .unset, .unset, .unset, .unset, .unset, .unset, .unset] [(.int (p5 &&& (2 : Int32)))]))) (fun _ k => XS.iand X0.here hx rfl (hb hby at_19) rfl k) ?_
    by_cases hm2 : (p5 &&& (2 : Int32)) = (0 : Int32)
    · refine own_go (A' := (s₁.setTop (mkF m 26 #[.val (.int p1), .val (.int p2), .val (.int p3), .val (.int p4), .val (.int p5), .val (.int p3), .val (.int p4), .unset, .unset, .unset, .unset, .unset, .unset, .unset, .unset] []))) (fun _ k => XS.ifYes X0.here hx rfl (pc0 := 20) (pc' := 26) rfl (hb hby at_20) rfl ((if0 _ _).trans (teq hm2).1) (by decide) (by decide) k) ?_
      exact J26 _ _
    · refine own_go (A' := (s₁.setTop (mkF m 23 #[.val (.int p1), .val (.int p2), .val (.int p3), .val (.int p4), .val (.int p5), .val (.int p3), .val (.int p4), .unset, .unset, .unset, .unset, .unset, .unset, .unset, .unset] []))) (fun _ k => XS.ifNo X0.here hx rfl (hb hby at_20) rfl ((if0 _ _).trans (feq hm2).1) k) ?_
      refine own_go (A' := (s₁.setTop (mkF m 24 #[.val (.int p1), .val (.int p2), .val (.int p3), .val (.int p4), .val (.int p5), .val (.int p3), .val (.int p4), .unset, .unset, .unset, .unset, .unset, .unset, .unset, .unset] [(.int p2)]))) (fun _ k => XS.iloadN X0.here hx rfl (hb hby at_23) rfl k) ?_
      refine own_go (A' := (s₁.setTop (mkF m 26 #[.val (.int p1), .val (.int p2), .val (.int p3), .val (.int p4), .val (.int p5), .val (.int p3), .val (.int p2), .unset, .unset, .unset, .unset, .unset, .unset, .unset, .unset] []))) (fun _ k => XS.istore X0.here hx rfl (hb hby at_24) rfl (l' := #[.val (.int p1), .val (.int p2), .val (.int p3), .val (.int p4), .val (.int p5), .val (.int p3), .val (.int p2), .unset, .unset, .unset, .unset, .unset, .unset, .unset, .unset]) rfl k) ?_
      exact J26 _ _
  · refine own_go (A' := (s₁.setTop (mkF m 13 #[.val (.int p1), .val (.int p2), .val (.int p3), .val (.int p4), .val (.int p5), .val (.int p3), .val (.int p4), .unset, .unset, .unset, .unset, .unset, .unset, .unset, .unset] []))) (fun _ k => XS.ifNo X0.here hx rfl (hb hby at_10) rfl ((if0 _ _).trans (feq hm1).1) k) ?_
    refine own_go (A' := (s₁.setTop (mkF m 14 #[.val (.int p1), .val (.int p2), .val (.int p3), .val (.int p4), .val (.int p5), .val (.int p3), .val (.int p4), .unset, .unset, .unset, .unset, .unset, .unset, .unset, .unset] [(.int p1)]))) (fun _ k => XS.iloadN X0.here hx rfl (hb hby at_13) rfl k) ?_
    refine own_go (A' := (s₁.setTop (mkF m 16 #[.val (.int p1), .val (.int p2), .val (.int p3), .val (.int p4), .val (.int p5), .val (.int p1), .val (.int p4), .unset, .unset, .unset, .unset, .unset, .unset, .unset, .unset] []))) (fun _ k => XS.istore X0.here hx rfl (hb hby at_14) rfl (l' := #[.val (.int p1), .val (.int p2), .val (.int p3), .val (.int p4), .val (.int p5), .val (.int p1), .val (.int p4), .unset, .unset, .unset, .unset, .unset, .unset, .unset, .unset]) rfl k) ?_
    refine own_go (A' := (s₁.setTop (mkF m 18 #[.val (.int p1), .val (.int p2), .val (.int p3), .val (.int p4), .val (.int p5), .val (.int p1), .val (.int p4), .unset, .unset, .unset, .unset, .unset, .unset, .unset, .unset] [(.int p5)]))) (fun _ k => XS.iload X0.here hx rfl (hb hby at_16) rfl k) ?_
    refine own_go (A' := (s₁.setTop (mkF m 19 #[.val (.int p1), .val (.int p2), .val (.int p3), .val (.int p4), .val (.int p5), .val (.int p1), .val (.int p4), .unset, .unset, .unset, .unset, .unset, .unset, .unset, .unset] [(.int (2 : Int32)), (.int p5)]))) (fun _ k => XS.iconst X0.here hx rfl (hb hby at_18) k) ?_
    refine own_go (A' := (s₁.setTop (mkF m 20 #[.val (.int p1), .val (.int p2), .val (.int p3), .val (.int p4), .val (.int p5), .val (.int p1), .val (.int p4), .unset, .unset, .unset, .unset, .unset, .unset, .unset, .unset] [(.int (p5 &&& (2 : Int32)))]))) (fun _ k => XS.iand X0.here hx rfl (hb hby at_19) rfl k) ?_
    by_cases hm2 : (p5 &&& (2 : Int32)) = (0 : Int32)
    · refine own_go (A' := (s₁.setTop (mkF m 26 #[.val (.int p1), .val (.int p2), .val (.int p3), .val (.int p4), .val (.int p5), .val (.int p1), .val (.int p4), .unset, .unset, .unset, .unset, .unset, .unset, .unset, .unset] []))) (fun _ k => XS.ifYes X0.here hx rfl (pc0 := 20) (pc' := 26) rfl (hb hby at_20) rfl ((if0 _ _).trans (teq hm2).1) (by decide) (by decide) k) ?_
      exact J26 _ _
    · refine own_go (A' := (s₁.setTop (mkF m 23 #[.val (.int p1), .val (.int p2), .val (.int p3), .val (.int p4), .val (.int p5), .val (.int p1), .val (.int p4), .unset, .unset, .unset, .unset, .unset, .unset, .unset, .unset] []))) (fun _ k => XS.ifNo X0.here hx rfl (hb hby at_20) rfl ((if0 _ _).trans (feq hm2).1) k) ?_
      refine own_go (A' := (s₁.setTop (mkF m 24 #[.val (.int p1), .val (.int p2), .val (.int p3), .val (.int p4), .val (.int p5), .val (.int p1), .val (.int p4), .unset, .unset, .unset, .unset, .unset, .unset, .unset, .unset] [(.int p2)]))) (fun _ k => XS.iloadN X0.here hx rfl (hb hby at_23) rfl k) ?_
      refine own_go (A' := (s₁.setTop (mkF m 26 #[.val (.int p1), .val (.int p2), .val (.int p3), .val (.int p4), .val (.int p5), .val (.int p1), .val (.int p2), .unset, .unset, .unset, .unset, .unset, .unset, .unset, .unset] []))) (fun _ k => XS.istore X0.here hx rfl (hb hby at_24) rfl (l' := #[.val (.int p1), .val (.int p2), .val (.int p3), .val (.int p4), .val (.int p5), .val (.int p1), .val (.int p2), .unset, .unset, .unset, .unset, .unset, .unset, .unset, .unset]) rfl k) ?_
      exact J26 _ _
set_option maxRecDepth 65536 in
set_option maxHeartbeats 40000000 in
theorem own_comes {Post : Tables → Env → Array Value → State → Outcome → State → Prop} (hpost : ∀ tb e args s v u, (limb_1_1.after args s (.returned v) u = true ∧ limb_1_2.after args s (.returned v) u = true ∧ True) → FrameEnd s (.returned v) u (Jvm.fieldLocs frame_1_writes args s ++ Jvm.arrayLocs frame_1_arrays args s ++ Jvm.staticLocs frame_1_statics s) 16 128 → Post tb e args s (.returned v) u) :
    ArmFor flags0 classFile x code maxLocals ret World_1 tables_1 room_1 Calls_1 rest_1 Pre_1 Post := by
  intro l hfl _ _ p e ha hc hk s m args below hf hA hF happ hP
  obtain ⟨hcalls, hrest, hpre⟩ := hP
  obtain ⟨-, -, -, hnamed, -, -, -, hat⟩ := (Spec.applies_iff hf).mp happ
  obtain ⟨hg, hn⟩ := and_e (Cond.before_iff.mp (show (Jvm.Cond.and given_1 narrow_1).before args s = true from hpre))
  obtain ⟨g1, g2⟩ := and_e hg
  obtain ⟨g3, g4⟩ := and_e g2
  obtain ⟨g5, g6⟩ := and_e g4
  obtain ⟨g7, g8⟩ := and_e g6
  obtain ⟨g9, g10⟩ := and_e g8
  obtain ⟨w0, w1, w2, w3, w4, rfl⟩ : ∃ w0 w1 w2 w3 w4 : Value, args = #[w0, w1, w2, w3, w4] := by
    have hs : args.size = 5 := by simpa [Cond.value, given_1] using g1
    obtain ⟨L⟩ := args
    match L, hs with
    | [w0, w1, w2, w3, w4], _ => exact ⟨w0, w1, w2, w3, w4, rfl⟩
  have hw := fun d (hd : d ∈ tables_1) => atoms_spec (ws := Jvm.Cond.code x code maxLocals ret :: tables_1) hat d (List.mem_cons_of_mem _ hd)
  have hfit : Fit s := fun {y c} hc i hi => by
    obtain ⟨ha, rfl⟩ := Array.getElem?_eq_some_iff.mp hc
    have q := List.all_eq_true.mp ((Array.all_eq_true_iff_forall_mem.mp hF) _ (Array.getElem_mem ha)) i (List.mem_range.mpr hi)
    simpa [Array.getElem?_eq_getElem hi] using q
  obtain ⟨i0, ei0⟩ := is_v g3
  obtain rfl : w0 = (.int i0) := Option.some.inj ei0
  obtain ⟨i1, ei1⟩ := is_v g5
  obtain rfl : w1 = (.int i1) := Option.some.inj ei1
  obtain ⟨i2, ei2⟩ := is_v g7
  obtain rfl : w2 = (.int i2) := Option.some.inj ei2
  obtain ⟨i3, ei3⟩ := is_v g9
  obtain rfl : w3 = (.int i3) := Option.some.inj ei3
  obtain ⟨i4, ei4⟩ := is_v g10
  obtain rfl : w4 = (.int i4) := Option.some.inj ei4
  obtain ⟨n, o, h1, h2, h3, _, L, rfl, ⟨rfl, N⟩, hq⟩ := own_rm0 l s _ hw tables_1 i0 i1 i2 i3 i4  s.heap s.heap.size (Nat.le_refl _)  p e ha hc hk s m _ below hf ((Spec.applies_iff_loose hf).mp happ).1 ⟨rfl, State.Warmed39.refl s, rfl⟩ trivial
  refine ⟨n, _, h1, h2, h3, hpost _ _ _ _ _ _ ⟨Cond.after_iff.mpr rfl, Cond.after_iff.mpr (eq_i res_at (Term.int_eval (1)) rfl), trivial⟩ ⟨hq.1, hq.2.1, (hq.2.2.sift fun y hy => Or.inr (N y hy)).mono (by decide) (by decide)⟩⟩
theorem main_1_1 : Claimed_1_1 := own_comes fun _ _ _ _ _ _ h hF => ⟨h.1, hF⟩
theorem main_1_2 : Claimed_1_2 := own_comes fun _ _ _ _ _ _ h hF => ⟨h.2.1, hF⟩
end Jvm.Pilot.@@N@@
namespace Jvm.Pilot.@@N@@
open Jvm Jvm.ClassFile Sem Op Lib Jvm.Free Jvm.Stand Jvm.Pilot.@@N@@.Jvm.D
/-! MADE BY PROGRAM (witnessworld.py) out of the Statement's table words and the real class files: 10 classes; the members and pool entries that the words name. The judged class is class 1, her method 2. -/
namespace start1
open Jvm.ClassFile
def u (s : String) : CpInfo := .utf8 (stringToUtf16 s)
/-- a pool by its gaps: so many unusable entries, then the entry; so many at the end -/
def gap : Nat → List CpInfo → List CpInfo
  | 0, r => r
  | n + 1, r => .unusable :: gap n r
def poolList (es : List (Nat × CpInfo)) (last : Nat) : List CpInfo := es.foldr (fun e r => gap e.1 (e.2 :: r)) (gap last [])
def pool (es : List (Nat × CpInfo)) (last : Nat) : Array CpInfo := ⟨poolList es last⟩
def fileOf (pool : Array CpInfo) (this : Nat) (attrs : Array Attribute := #[]) (ms : Array MethodInfo := #[]) (fl : Nat := 33) (sup : Nat := 0) (ifs : Array Nat := #[]) (fds : Array FieldInfo := #[]) : ClassFile where
  minorVersion := 0
  majorVersion := 65
  constantPool := pool
  accessFlags := fl
  thisClass := this
  superClass := sup
  interfaces := ifs
  fields := fds
  methods := ms
  attributes := attrs
def plain (name : String) (sup : Option ClassId) : Class where
  name := name
  kind := .ordinary
  loader := none
  accessFlags := 33
  super := sup
  interfaces := #[]
  cf := none
  fields := #[]
  methods := #[]
  instanceTypes := #[]
  staticTypes := #[]
  resolved := #[]
  callSites := []
  init := .initialized
  statics := none
  mirror := none

def pool0 : Array CpInfo := pool [(5, u "<init>"), (0, u "()V"), (1, .class_ 10), (1, u "java/lang/Object")] 113

def k0c0 : Code := { maxStack := 0, maxLocals := 1, code := object_method_1_code, exceptionTable := #[], attributes := #[] }
def k0m0 : Method := { name := "<init>", desc := "()V", sig := { parameters := [], returnType := none }, accessFlags := 1, code := some k0c0 }
/-- java/lang/Object -/
def k0 : Class := { plain "java/lang/Object" none with
  accessFlags := 33
  interfaces := #[]
  cf := some (fileOf pool0 8 #[] #[{ accessFlags := 1, nameIndex := 5, descriptorIndex := 6, attributes := #[] }] 33 0 #[] #[])
  fields := #[]
  methods := #[k0m0]
  instanceTypes := #[]
  staticTypes := #[]
  resolved := Array.replicate 124 none
  statics := none }

def pool1 : Array CpInfo := pool [(2, .class_ 4), (1, u "java/lang/Object"), (0, u "<init>"), (0, u "()V"), (0, .long 2147483648), (1, .methodref 10 11), (0, .class_ 12), (0, .nameAndType 13 14), (0, u "com/example/medianet/medianet/search/ScoreBelowPinLaw"), (0, u "key"), (0, u "(II)J"), (0, .class_ 16), (0, u "com/example/medianet/medianet/search/Score"), (0, .methodref 15 18), (0, .nameAndType 5 19), (0, u "(DD)V"), (0, .methodref 15 21), (0, .nameAndType 22 23), (0, u "below"), (0, u "(Lcom/example/medianet/medianet/search/Score;)Z"), (2, u "law"), (0, u "(IIIII)Z")] 3

def k1m0 : Method := { name := "<init>", desc := "()V", sig := { parameters := [], returnType := none }, accessFlags := 2, code := none }
def k1c1 : Code := { maxStack := 6, maxLocals := 2, code := method_2_code, exceptionTable := #[], attributes := #[] }
def k1m1 : Method := { name := "key", desc := "(II)J", sig := { parameters := [.int, .int], returnType := some .long }, accessFlags := 10, code := some k1c1 }
def k1c2 : Code := { maxStack := 6, maxLocals := 15, code := code, exceptionTable := #[], attributes := #[] }
def k1m2 : Method := { name := "law", desc := "(IIIII)Z", sig := { parameters := [.int, .int, .int, .int, .int], returnType := some .boolean }, accessFlags := 9, code := some k1c2 }
/-- com/example/medianet/medianet/search/ScoreBelowPinLaw -/
def k1 : Class := { plain "com/example/medianet/medianet/search/ScoreBelowPinLaw" (some 0) with
  accessFlags := 49
  interfaces := #[]
  cf := some (fileOf pool1 10 #[] #[{ accessFlags := 2, nameIndex := 5, descriptorIndex := 6, attributes := #[] }, { accessFlags := 10, nameIndex := 13, descriptorIndex := 14, attributes := #[] }, { accessFlags := 9, nameIndex := 26, descriptorIndex := 27, attributes := #[] }] 49 2 #[] #[])
  fields := #[]
  methods := #[k1m0, k1m1, k1m2]
  instanceTypes := #[]
  staticTypes := #[]
  resolved := Array.replicate 31 none
  statics := none }

def pool2 : Array CpInfo := pool [(1, .methodref 2 3), (0, .class_ 4), (0, .nameAndType 5 6), (0, u "java/lang/Object"), (0, u "<init>"), (0, u "()V"), (0, .class_ 8), (0, u "java/lang/Record")] 13

def k2c0 : Code := { maxStack := 1, maxLocals := 1, code := jdk_30_method_1_code, exceptionTable := #[], attributes := #[] }
def k2m0 : Method := { name := "<init>", desc := "()V", sig := { parameters := [], returnType := none }, accessFlags := 4, code := some k2c0 }
/-- java/lang/Record -/
def k2 : Class := { plain "java/lang/Record" (some 0) with
  accessFlags := 1057
  interfaces := #[]
  cf := some (fileOf pool2 7 #[] #[{ accessFlags := 4, nameIndex := 5, descriptorIndex := 6, attributes := #[] }] 1057 2 #[] #[])
  fields := #[]
  methods := #[k2m0]
  instanceTypes := #[]
  staticTypes := #[]
  resolved := Array.replicate 22 none
  statics := none }

def pool3 : Array CpInfo := pool [(1, .methodref 2 3), (0, .class_ 4), (0, .nameAndType 5 6), (0, u "java/lang/Record"), (0, u "<init>"), (0, u "()V"), (0, .fieldref 8 9), (0, .class_ 10), (0, .nameAndType 11 12), (0, u "com/example/medianet/medianet/search/Score"), (0, u "excess"), (0, u "D"), (0, .fieldref 8 14), (0, .nameAndType 15 12), (0, u "objective"), (4, u "below"), (16, u "(DD)V"), (3, u "(Lcom/example/medianet/medianet/search/Score;)Z")] 27

def k3c0 : Code := { maxStack := 3, maxLocals := 5, code := prog_53_method_1_code, exceptionTable := #[], attributes := #[] }
def k3m0 : Method := { name := "<init>", desc := "(DD)V", sig := { parameters := [.double, .double], returnType := none }, accessFlags := 0, code := some k3c0 }
def k3c1 : Code := { maxStack := 4, maxLocals := 2, code := prog_53_method_2_code, exceptionTable := #[], attributes := #[] }
def k3m1 : Method := { name := "below", desc := "(Lcom/example/medianet/medianet/search/Score;)Z", sig := { parameters := [(.object "com/example/medianet/medianet/search/Score")], returnType := some .boolean }, accessFlags := 0, code := some k3c1 }
/-- com/example/medianet/medianet/search/Score -/
def k3 : Class := { plain "com/example/medianet/medianet/search/Score" (some 2) with
  accessFlags := 48
  interfaces := #[]
  cf := some (fileOf pool3 8 #[] #[{ accessFlags := 0, nameIndex := 5, descriptorIndex := 37, attributes := #[] }, { accessFlags := 0, nameIndex := 20, descriptorIndex := 41, attributes := #[] }] 48 2 #[] #[{ accessFlags := 18, nameIndex := 11, descriptorIndex := 12, attributes := #[] }, { accessFlags := 18, nameIndex := 15, descriptorIndex := 12, attributes := #[] }])
  fields := #[{ name := "excess", type := .double, accessFlags := 18, slot := 0, constantValue := 0 }, { name := "objective", type := .double, accessFlags := 18, slot := 1, constantValue := 0 }]
  methods := #[k3m0, k3m1]
  instanceTypes := #[.double, .double]
  staticTypes := #[]
  resolved := Array.replicate 69 none
  statics := none }

def pool4 : Array CpInfo := pool [(1, u "java/lang/Cloneable"), (0, .class_ 1), (0, u "java/lang/Object"), (0, .class_ 3)] 3

/-- java/lang/Cloneable -/
def k4 : Class := { plain "java/lang/Cloneable" (some 0) with
  accessFlags := 1537
  interfaces := #[]
  cf := some (fileOf pool4 2 #[] #[] 1537 4 #[] #[])
  fields := #[]
  methods := #[]
  instanceTypes := #[]
  staticTypes := #[]
  resolved := Array.replicate 8 none
  statics := none }

def pool5 : Array CpInfo := pool [(1, u "java/io/Serializable"), (0, .class_ 1), (0, u "java/lang/Object"), (0, .class_ 3)] 3

/-- java/io/Serializable -/
def k5 : Class := { plain "java/io/Serializable" (some 0) with
  accessFlags := 1537
  interfaces := #[]
  cf := some (fileOf pool5 2 #[] #[] 1537 4 #[] #[])
  fields := #[]
  methods := #[]
  instanceTypes := #[]
  staticTypes := #[]
  resolved := Array.replicate 8 none
  statics := none }

/-- the primitive byte -/
def k6 : Class := { plain "byte" none with kind := .primitive 'B', accessFlags := 0x411 }
/-- [B -/
def k7 : Class := { plain "[B" (some 0) with kind := .array 6 .byte, interfaces := #[4, 5], accessFlags := 1041 }

/-- the primitive int -/
def k8 : Class := { plain "int" none with kind := .primitive 'I', accessFlags := 0x411 }
/-- [I -/
def k9 : Class := { plain "[I" (some 0) with kind := .array 8 .int, interfaces := #[4, 5], accessFlags := 1041 }

def heap : Heap := #[]
def classes : Array Class := #[k0, k1, k2, k3, k4, k5, k6, k7, k8, k9]
def interned : List (Array UInt16 × Addr) := []
def slotsUsed : Nat := 0
def theMethod : MethodId := ⟨1, 2⟩
def args0 : Array Value := #[.int 5, .int 6, .int 7, .int 8, .int 9]
def aboutOver (below : List Frame) : State where
  vm := { classes := classes, interned := interned.toArray }
  heap := heap
  slotsUsed := slotsUsed
  threads := #[{ frames := .invoking theMethod args0 :: below }]
def below0 : List Frame := [.native { method := ⟨0, 0⟩, args := #[] }]
def about1 : State := aboutOver below0
def p0 : Program := .bare "" "" ""
def e0 : Env := launch0.env 0 0 0
theorem w_frames : about1.frames = Frame.invoking theMethod args0 :: below0 := rfl
set_option maxRecDepth 65536 in
theorem w_args : argsFit about1.vm theMethod args0 = true := by decide +kernel
set_option maxRecDepth 65536 in
theorem w_heap : heapFits about1 = true := by decide +kernel
set_option maxRecDepth 65536 in
theorem w_runnable : about1.curStatus? = some .runnable := by decide +kernel
set_option maxRecDepth 65536 in
theorem w_alone : about1.alone = true := by decide +kernel
set_option maxRecDepth 65536 in
theorem w_named : about1.methodNamed? x = some theMethod := by decide +kernel
set_option maxRecDepth 65536 in
theorem w_hears : about1.hears theMethod below0 = true := by decide +kernel
set_option maxRecDepth 65536 in
theorem w_ripe : about1.ripe theMethod args0 below0 = true := by decide +kernel
theorem w_running : about1.status = .running := rfl
set_option maxRecDepth 65536 in
theorem w_room : about1.hasRoom e0.platform room_1 = true :=
  launch0.hasRoom_least _ room_1 (by decide +kernel) (by decide +kernel) (by decide +kernel) (by decide +kernel) (by decide +kernel) (by decide +kernel)
theorem allAtoms_all (ts : List Jvm.Cond) (a : Array Jvm.Value) (st : Jvm.State) : (allAtoms ts).before a st = ts.all (fun c => c.before a st) := by
  induction ts with
  | nil => rfl
  | cons c t ih =>
    show (Jvm.Cond.and c (allAtoms t)).before a st = _
    rw [Jvm.Cond.before_and, ih, List.all_cons]
def words1 : List Jvm.Cond := Jvm.Cond.code x code maxLocals ret :: tables_1
/-- a 'code' word, met by the world's own term for the bytes: nothing is compared byte by byte -/
theorem code_word {y : MethodName} {bytes : ByteArray} {mx : Nat} {rt : Option FieldType} {a : Array Value} {s : State} {m : MethodId} {meth : Method} {c : Code} (h1 : s.methodNamed? y = some m) (h2 : s.vm.method? m = some meth) (h3 : meth.code = some c) (h4 : c.code = bytes)
    (h5 : (c.maxLocals == mx && c.exceptionTable.isEmpty && decide (c.maxStack ≤ mostOperands) && decide (meth.sig.returnType = rt) && !meth.locks && decide (parseMethodDescriptor y.desc = some meth.sig)) = true) : (Jvm.Cond.code y bytes mx rt).before a s = true := by
  simp only [Bool.and_eq_true, beq_iff_eq, Bool.not_eq_true', decide_eq_true_eq] at h5
  obtain ⟨⟨⟨⟨⟨g1, g2⟩, g3⟩, g4⟩, g5⟩, g6⟩ := h5
  simp [Cond.before, Cond.holds, Cond.value, h1, h2, h3, h4, g1, g2, g3, g4, g5, g6]
def isCode : Jvm.Cond → Bool
  | .code _ _ _ _ => true
  | _ => false
theorem all_split {L : List Jvm.Cond} {P : Jvm.Cond → Bool} (h1 : L.all (fun c => isCode c || P c) = true) (h2 : ∀ c ∈ L.filter isCode, P c = true) : L.all P = true := by
  refine List.all_eq_true.mpr fun c hc => ?_
  have h := List.all_eq_true.mp h1 c hc
  rcases Bool.eq_false_or_eq_true (isCode c) with hi | hi
  · exact h2 c (List.mem_filter.mpr ⟨hc, hi⟩)
  · simpa [hi] using h
set_option maxRecDepth 65536 in
theorem w_c0 : (Jvm.Cond.code x code maxLocals ret).before args0 about1 = true := code_word (m := ⟨1, 2⟩) (meth := k1m2) (c := k1c2) (by decide +kernel) rfl rfl rfl (by decide +kernel)
set_option maxRecDepth 65536 in
theorem w_c1 : (Jvm.Cond.code ({ cls := "com/example/medianet/medianet/search/ScoreBelowPinLaw", name := "key", desc := "(II)J" } : Jvm.MethodName) method_2_code (2 : Nat) (Option.some Jvm.ClassFile.FieldType.long)).before args0 about1 = true := code_word (m := ⟨1, 1⟩) (meth := k1m1) (c := k1c1) (by decide +kernel) rfl rfl rfl (by decide +kernel)
set_option maxRecDepth 65536 in
theorem w_c2 : (Jvm.Cond.code ({ cls := "com/example/medianet/medianet/search/Score", name := "<init>", desc := "(DD)V" } : Jvm.MethodName) prog_53_method_1_code (5 : Nat) (Option.none : Option Jvm.ClassFile.FieldType)).before args0 about1 = true := code_word (m := ⟨3, 0⟩) (meth := k3m0) (c := k3c0) (by decide +kernel) rfl rfl rfl (by decide +kernel)
set_option maxRecDepth 65536 in
theorem w_c3 : (Jvm.Cond.code ({ cls := "java/lang/Record", name := "<init>", desc := "()V" } : Jvm.MethodName) jdk_30_method_1_code (1 : Nat) (Option.none : Option Jvm.ClassFile.FieldType)).before args0 about1 = true := code_word (m := ⟨2, 0⟩) (meth := k2m0) (c := k2c0) (by decide +kernel) rfl rfl rfl (by decide +kernel)
set_option maxRecDepth 65536 in
theorem w_c4 : (Jvm.Cond.code ({ cls := "java/lang/Object", name := "<init>", desc := "()V" } : Jvm.MethodName) object_method_1_code (1 : Nat) (Option.none : Option Jvm.ClassFile.FieldType)).before args0 about1 = true := code_word (m := ⟨0, 0⟩) (meth := k0m0) (c := k0c0) (by decide +kernel) rfl rfl rfl (by decide +kernel)
set_option maxRecDepth 65536 in
theorem w_c5 : (Jvm.Cond.code ({ cls := "com/example/medianet/medianet/search/Score", name := "below", desc := "(Lcom/example/medianet/medianet/search/Score;)Z" } : Jvm.MethodName) prog_53_method_2_code (2 : Nat) (Option.some Jvm.ClassFile.FieldType.boolean)).before args0 about1 = true := code_word (m := ⟨3, 1⟩) (meth := k3m1) (c := k3c1) (by decide +kernel) rfl rfl rfl (by decide +kernel)
def codes1 : List Jvm.Cond := [Jvm.Cond.code x code maxLocals ret, Jvm.Cond.code ({ cls := "com/example/medianet/medianet/search/ScoreBelowPinLaw", name := "key", desc := "(II)J" } : Jvm.MethodName) method_2_code (2 : Nat) (Option.some Jvm.ClassFile.FieldType.long), Jvm.Cond.code ({ cls := "com/example/medianet/medianet/search/Score", name := "<init>", desc := "(DD)V" } : Jvm.MethodName) prog_53_method_1_code (5 : Nat) (Option.none : Option Jvm.ClassFile.FieldType), Jvm.Cond.code ({ cls := "java/lang/Record", name := "<init>", desc := "()V" } : Jvm.MethodName) jdk_30_method_1_code (1 : Nat) (Option.none : Option Jvm.ClassFile.FieldType), Jvm.Cond.code ({ cls := "java/lang/Object", name := "<init>", desc := "()V" } : Jvm.MethodName) object_method_1_code (1 : Nat) (Option.none : Option Jvm.ClassFile.FieldType), Jvm.Cond.code ({ cls := "com/example/medianet/medianet/search/Score", name := "below", desc := "(Lcom/example/medianet/medianet/search/Score;)Z" } : Jvm.MethodName) prog_53_method_2_code (2 : Nat) (Option.some Jvm.ClassFile.FieldType.boolean)]
set_option maxRecDepth 65536 in
theorem codes_eq : words1.filter isCode = codes1 := rfl
theorem w_codes : ∀ c ∈ words1.filter isCode, c.before args0 about1 = true := by
  rw [codes_eq]
  intro c hc
  simp only [codes1, List.mem_cons, List.not_mem_nil, or_false] at hc
  rcases hc with rfl | rfl | rfl | rfl | rfl | rfl
  · exact w_c0
  · exact w_c1
  · exact w_c2
  · exact w_c3
  · exact w_c4
  · exact w_c5
set_option maxRecDepth 65536 in
theorem w_t1 : (words1.take 24).all (fun c => isCode c || c.before args0 about1) = true := by decide +kernel
set_option maxRecDepth 65536 in
theorem w_t2 : (words1.drop 24).all (fun c => isCode c || c.before args0 about1) = true := by decide +kernel
theorem w_tables : (allAtoms (Jvm.Cond.code x code maxLocals ret :: tables_1)).before args0 about1 = true := by
  rw [allAtoms_all]
  show words1.all (fun c => c.before args0 about1) = true
  refine all_split ?_ w_codes
  rw [← List.take_append_drop 24 words1, List.all_append, w_t1, w_t2]
  rfl
set_option maxRecDepth 65536 in
theorem w_case : (Jvm.Cond.and given_1 narrow_1).before args0 about1 = true := by decide +kernel
theorem w_applies : (headSpec (Jvm.Cond.code x code maxLocals ret :: tables_1) room_1).applies x e0.platform about1 = true :=
  (Spec.applies_iff w_frames).mpr ⟨w_running, w_runnable, w_alone, w_named, w_hears, w_ripe, w_room, w_tables⟩
theorem atStart : AtStart classFile x code maxLocals ret World_1 tables_1 room_1 Calls_1 rest_1 Pre_1 launch0 p0 e0 about1 theMethod args0 below0 :=
  ⟨lists_1, trivial, launch0.admits_env _ _ _, launch0.least_env, fairChoices_fair.cas, fairChoices_fair.clock, w_frames, w_args, w_heap, w_applies, trivial, trivial, w_case⟩
end start1
theorem witness_1 : WitnessClaimed_1 := ⟨start1.p0, start1.e0, start1.about1, start1.theMethod, start1.args0, start1.below0, start1.atStart⟩
end Jvm.Pilot.@@N@@
