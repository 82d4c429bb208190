import PyProof.Rows.All
import Wide.All
import OpenK.AllK
import Wide.FinOn
import Lean
import PySem.Challenge.RW_sc0043_01
set_option Elab.async false
section
open PySem PySem.W PyProof.Rows
set_option Elab.async false
set_option maxRecDepth 100000
set_option maxHeartbeats 8000000
namespace Mine
open_top hd for PySem.Challenge.rw_sc0043_01
end Mine
end

section
open PySem PySem.W PyProof.Rows
set_option Elab.async false
set_option maxRecDepth 100000
set_option maxHeartbeats 8000000
namespace Mine

noncomputable abbrev CVal := Value
noncomputable abbrev CStr := Str
noncomputable abbrev Led := List (Addr × Obj)
noncomputable abbrev tupO (vs : List Value) : Obj := { cls := .type "tuple", data := .seq vs.toArray }

noncomputable def Con (w : World) (p : Program) (loose : List Str) (mean : ExcName → Option Value) (mg mb : Str → Option Value) (f : Addr) (vs : List Value) (news : Led) (dd uu : Nat) (P : Value → Led → Prop) : Prop :=
  ∀ (dp un : Nat) (gd : Option (List Code)) (cn : Str) (cs : Scope) (a : Addr) (ccd : Value) (cl : List (Str × Addr)) (outer : List Env) (A₀ : Around) (base h₀ : Heap) (L : Addr) (m : Str → Option Value) (s : Shared) (Q E : Value → Shared → Prop),
    Below A₀ base outer h₀ → Fr h₀ L s.heap m → (hd.heap_39 w.params).In h₀ → News h₀ L s.heap news → Top p loose mean mg mb h₀ → cs.kind = .function →
    dp + dd < recursionLimit → un + uu < cLine →
    (∀ r news' h' tk', Fr h₀ L h' m → News h₀ L h' news' → P r news' → Q r { s with heap := h', toks := tk' }) →
    wpAny (model PySem.Challenge.rw_sc0043_01.row.prog w) (ktrTop dp un gd cn cs L a ccd cl outer) (call (.ref f) vs) Q E s
end Mine
namespace Mine
open PySem PySem.W PyProof.Rows
theorem Con.use {w : World} {p : Program} {loose : List Str} {mean : ExcName → Option Value} {mg mb : Str → Option Value} {f : Addr} {vs : List Value} {news : Led} {dd uu : Nat} {P : Value → Led → Prop}
    {dp un : Nat} {gd : Option (List Code)} {cn : Str} {cs : Scope} {a : Addr} {ccd : Value} {cl : List (Str × Addr)} {outer : List Env} {A₀ : Around} {base h₀ : Heap} {L : Addr} {m : Str → Option Value} {s : Shared} {Q E : Value → Shared → Prop}
    (C : Con w p loose mean mg mb f vs news dd uu P) (B : Below A₀ base outer h₀) (F : Fr h₀ L s.heap m) (X : (hd.heap_39 w.params).In h₀) (N : News h₀ L s.heap news) (T : Top p loose mean mg mb h₀) (hk : cs.kind = .function)
    (hd : dp + dd < recursionLimit) (hu : un + uu < cLine)
    (ret : ∀ r news' h' tk', Fr h₀ L h' m → News h₀ L h' news' → P r news' → Q r { s with heap := h', toks := tk' }) :
    wpAny (model PySem.Challenge.rw_sc0043_01.row.prog w) (ktrTop dp un gd cn cs L a ccd cl outer) (call (.ref f) vs) Q E s :=
  C dp un gd cn cs a ccd cl outer A₀ base h₀ L m s Q E B F X N T hk hd hu ret
theorem Con.useN {w : World} {p : Program} {loose : List Str} {mean : ExcName → Option Value} {mg mb : Str → Option Value} {f : Addr} {vs : List Value} {news : Led} {dd uu : Nat} {P : Value → Led → Prop}
    {dp un : Nat} {gd : Option (List Code)} {cn : Str} {cs : Scope} {a : Addr} {ccd : Value} {cl : List (Str × Addr)} {outer : List Env} {A₀ : Around} {base h₀ : Heap} {L : Addr} {m : Str → Option Value} {s : Shared} {Q E : Value → Shared → Prop}
    (N : News h₀ L s.heap news) (F : Fr h₀ L s.heap m) (B : Below A₀ base outer h₀) (X : (hd.heap_39 w.params).In h₀) (T : Top p loose mean mg mb h₀) (C : Con w p loose mean mg mb f vs news dd uu P) (hk : cs.kind = .function)
    (hd : dp + dd < recursionLimit) (hu : un + uu < cLine)
    (ret : ∀ r news' h' tk', Fr h₀ L h' m → News h₀ L h' news' → P r news' → Q r { s with heap := h', toks := tk' }) :
    wpAny (model PySem.Challenge.rw_sc0043_01.row.prog w) (ktrTop dp un gd cn cs L a ccd cl outer) (call (.ref f) vs) Q E s :=
  C dp un gd cn cs a ccd cl outer A₀ base h₀ L m s Q E B F X N T hk hd hu ret
noncomputable def Stop (P : Prop) : Prop := P
theorem unstop {P : Prop} (h : Stop P) : P := h
theorem anyTok {α : Type} {M : Model} {A : Around} {t : Sem α} {Q : α → Shared → Prop} {E : Value → Shared → Prop} {s : Shared} (H : ∀ tk, wpAny M A t Q E { s with toks := tk }) : wpAny M A t Q E s := H s.toks
theorem lt5c {k : Nat} (h : k < 5) : k = 0 ∨ k = 1 ∨ k = 2 ∨ k = 3 ∨ k = 4 := (show ∀ k : Fin 5, k.val = 0 ∨ k.val = 1 ∨ k.val = 2 ∨ k.val = 3 ∨ k.val = 4 by decide) ⟨k, h⟩
theorem lt4c {k : Nat} (h : k < 4) : k = 0 ∨ k = 1 ∨ k = 2 ∨ k = 3 := (show ∀ k : Fin 4, k.val = 0 ∨ k.val = 1 ∨ k.val = 2 ∨ k.val = 3 by decide) ⟨k, h⟩
end Mine
end

section
open PySem PySem.W PyProof.Rows
set_option Elab.async false
set_option maxRecDepth 100000
namespace Mine
open PySem.Float64
noncomputable def IsF (x : UInt64) (k : Int) : Prop := (∃ a m e, decode x = .fin a m e) ∧ val x = k * ((2 ^ 1058 : Nat) : Int)
noncomputable def P58 : Nat := 2 ^ 1058
theorem P58_pos : 0 < P58 := Nat.two_pow_pos _
theorem P58_is : (2 : Nat) ^ 1058 = P58 := rfl
theorem P74_is : (2 : Nat) ^ 1074 = P58 * 65536 := by unfold P58; rw [show (65536 : Nat) = 2 ^ 16 from rfl, ← Nat.pow_add]
theorem isF_def {x : UInt64} {k : Int} : IsF x k ↔ (∃ a m e, decode x = .fin a m e) ∧ val x = k * (P58 : Int) := Iff.rfl

theorem V_repr (l : Nat) (hl : l < 2 ^ 40) : ∃ t, V t = l * 2 ^ 1058 := by
  by_cases h0 : l = 0
  · exact ⟨0, by subst h0; rw [V_zero, Nat.zero_mul]⟩
  · have hlog : l.log2 < 40 := (Nat.log2_lt h0).mpr hl
    have h1 : 2 ^ l.log2 ≤ l := Nat.log2_self_le h0
    have h2 : l < 2 ^ (l.log2 + 1) := Nat.lt_log2_self
    refine ⟨(1006 + l.log2) * 2 ^ 52 + l * 2 ^ (52 - l.log2), ?_⟩
    have e1 : (2 : Nat) ^ 52 = 2 ^ l.log2 * 2 ^ (52 - l.log2) := by rw [← Nat.pow_add]; congr 1; lia
    have e2 : (2 : Nat) ^ 53 = 2 ^ (l.log2 + 1) * 2 ^ (52 - l.log2) := by rw [← Nat.pow_add]; congr 1; lia
    rw [V_at (by rw [e2]; exact Nat.mul_le_mul_right _ (Nat.le_of_lt h2)) (.inl (by rw [e1]; exact Nat.mul_le_mul_right _ h1)), Nat.mul_assoc, ← Nat.pow_add]
    congr 2; lia
theorem dist_zero {a b : Nat} (h : dist a b ≤ 0) : a = b := by unfold dist at h; lia
theorem dist_self (a : Nat) : dist a a = 0 := by unfold dist; lia
theorem big_pow : (2 : Nat) ^ 40 * 2 ^ 1059 < (2 ^ 54 - 1) * 2 ^ 2045 := by decide +kernel

theorem exactR {r : UInt64} {neg : Bool} {W D l : Nat} (h : Right r neg W D) (hD : 0 < D) (hl : l < 2 ^ 40) (hW : W = D * (l * 2 ^ 1058)) :
    (∃ a m e, decode r = .fin a m e) ∧ val r = sgn neg (l * 2 ^ 1058) := by
  obtain ⟨t, hr, ht, hinf, hnear⟩ := h
  have hlt : t < infMag := by
    rcases Nat.lt_or_eq_of_le ht with q | q
    · exact q
    · exfalso
      have := hinf.mp q
      rw [hW] at this
      have h3 : D * (2 * (l * 2 ^ 1058)) < D * ((2 ^ 54 - 1) * 2 ^ 2045) := by
        refine Nat.mul_lt_mul_of_pos_left (Nat.lt_of_le_of_lt ?_ big_pow) hD
        have e : 2 * (l * 2 ^ 1058) = l * 2 ^ 1059 := by rw [Nat.pow_succ]; lia
        rw [e]
        exact Nat.mul_le_mul_right _ (Nat.le_of_lt hl)
      have e4 : 2 * (D * (l * 2 ^ 1058)) = D * (2 * (l * 2 ^ 1058)) := by ac_rfl
      lia
  obtain ⟨t', ht'⟩ := V_repr l hl
  have hd := (hnear hlt t').1
  rw [ht', hW, dist_self] at hd
  have hv := Nat.eq_of_mul_eq_mul_left hD (dist_zero hd)
  subst hr
  obtain ⟨m, e, hde, _⟩ := decode_pack neg hlt
  exact ⟨⟨neg, m, e, hde⟩, by rw [val_pack neg hlt, ← hv]⟩

theorem sgn_of (k : Int) (P : Nat) : sgn (decide (k < 0)) (k.natAbs * P) = k * (P : Int) := by
  unfold sgn
  by_cases h : k < 0
  · rw [decide_eq_true h, if_pos rfl, Int.natCast_mul, ← Int.neg_mul]; congr 1; lia
  · rw [decide_eq_false h, if_neg Bool.false_ne_true, Int.natCast_mul]; congr 1; lia

theorem mul_neg_iff {k : Int} {P : Nat} (hP : 0 < P) : (k * (P : Int) < 0) ↔ k < 0 := by
  have : (0 : Int) < P := Int.ofNat_lt.mpr hP
  constructor
  · intro h
    by_cases q : k < 0
    · exact q
    · have := Int.mul_nonneg (show 0 ≤ k by lia) (Int.le_of_lt this); lia
  · intro h; exact Int.mul_neg_of_neg_of_pos h this

theorem zero_isF (b : Bool) : IsF (Float64.zero b) 0 := by
  refine ⟨?_, ?_⟩
  · obtain ⟨m, e, h, _⟩ := decode_pack b (t := 0) (by decide); exact ⟨_, _, _, h⟩
  · have := val_pack b (t := 0) (by decide)
    unfold Float64.zero
    rw [this, V_zero]; cases b <;> rfl

theorem add_isF {x y : UInt64} {j k : Int} (hx : IsF x j) (hy : IsF y k) (h1 : -(2 ^ 40) < j + k := by lia) (h2 : j + k < 2 ^ 40 := by lia) : IsF (Float64.add x y) (j + k) := by
  obtain ⟨⟨a, m, e, dx⟩, vx⟩ := hx
  obtain ⟨⟨b, n, f, dy⟩, vy⟩ := hy
  have R := add_right dx dy
  rw [vx, vy, ← Int.add_mul] at R
  by_cases h0 : j + k = 0
  · rw [h0] at R ⊢
    rw [R.1 (Int.zero_mul _)]
    exact zero_isF _
  · have hP : (0 : Int) < ((2 ^ 1058 : Nat) : Int) := Int.ofNat_lt.mpr (Nat.two_pow_pos _)
    have hne : (j + k) * ((2 ^ 1058 : Nat) : Int) ≠ 0 := Int.mul_ne_zero h0 (by lia)
    have R2 := R.2 hne
    have hd : decide ((j + k) * ((2 ^ 1058 : Nat) : Int) < 0) = decide (j + k < 0) := decide_eq_decide.mpr (mul_neg_iff (Nat.two_pow_pos _))
    rw [hd, Int.natAbs_mul, Int.natAbs_natCast] at R2
    have := exactR R2 (by decide) (l := (j + k).natAbs) (by lia) (by rw [Nat.one_mul])
    exact ⟨this.1, this.2.trans (sgn_of _ _)⟩
theorem neg_isF {y : UInt64} {k : Int} (hy : IsF y k) : IsF (Float64.neg y) (-k) := by
  obtain ⟨⟨b, n, f, dy⟩, vy⟩ := hy
  exact ⟨⟨_, _, _, neg_decode dy⟩, by rw [neg_val dy, vy, Int.neg_mul]⟩
theorem sub_isF {x y : UInt64} {j k : Int} (hx : IsF x j) (hy : IsF y k) (h1 : -(2 ^ 40) < j - k := by lia) (h2 : j - k < 2 ^ 40 := by lia) : IsF (Float64.sub x y) (j - k) := by
  have := add_isF hx (neg_isF hy) (by lia) (by lia)
  rw [← Int.sub_eq_add_neg] at this
  unfold Float64.sub
  exact this

theorem sgn_xor (a b : Bool) (m n : Nat) : sgn (a != b) (m * n) = sgn a m * sgn b n := by
  unfold sgn; cases a <;> cases b <;> simp [Int.natCast_mul, Int.neg_mul, Int.mul_neg]
theorem sgn_nat (a : Bool) {m : Nat} {v : Int} (h : v = sgn a m) : v.natAbs = m := by rw [h, sgn_natAbs]

theorem mul_isF {x y : UInt64} {j k l : Int} (hx : IsF x j) (hy : IsF y k) (hl : j * k = l * 65536) (h1 : -(2 ^ 40) < l := by lia) (h2 : l < 2 ^ 40 := by lia) : IsF (Float64.mul x y) l := by
  obtain ⟨⟨a, m, e, dx⟩, vx⟩ := hx
  obtain ⟨⟨b, n, f, dy⟩, vy⟩ := hy
  have R := mul_right dx dy
  have wx := val_eq dx
  have wy := val_eq dy
  have hnat : (val x).natAbs * (val y).natAbs = 2 ^ 1074 * (l.natAbs * 2 ^ 1058) := by
    rw [vx, vy, Int.natAbs_mul, Int.natAbs_mul, Int.natAbs_natCast, P74_is, P58_is]
    have : j.natAbs * k.natAbs = l.natAbs * 65536 := by rw [← Int.natAbs_mul, hl, Int.natAbs_mul]; rfl
    calc j.natAbs * P58 * (k.natAbs * P58) = (j.natAbs * k.natAbs) * (P58 * P58) := by ac_rfl
      _ = l.natAbs * 65536 * (P58 * P58) := by rw [this]
      _ = P58 * 65536 * (l.natAbs * P58) := by ac_rfl
  rw [hnat] at R
  have X := exactR R (Nat.two_pow_pos _) (l := l.natAbs) (by lia) rfl
  refine ⟨X.1, X.2.trans ?_⟩
  have hprod : val x * val y = l * ((2 ^ 1058 : Nat) : Int) * ((2 ^ 1074 : Nat) : Int) := by
    rw [vx, vy, P74_is, P58_is, Int.natCast_mul]
    calc j * (P58 : Int) * (k * (P58 : Int)) = (j * k) * ((P58 : Int) * P58) := by ac_rfl
      _ = l * 65536 * ((P58 : Int) * P58) := by rw [hl]
      _ = l * (P58 : Int) * ((P58 : Int) * ((65536 : Nat) : Int)) := by rw [show ((65536 : Nat) : Int) = 65536 from rfl]; ac_rfl
  have hs : sgn (a != b) ((val x).natAbs * (val y).natAbs) = val x * val y := by
    rw [sgn_xor]; congr 1
    · rw [wx, sgn_natAbs]
    · rw [wy, sgn_natAbs]
  rw [hnat, hprod] at hs
  have hK : (0 : Int) < ((2 ^ 1074 : Nat) : Int) := Int.ofNat_lt.mpr (Nat.two_pow_pos _)
  refine Int.eq_of_mul_eq_mul_right (Int.ne_of_gt hK) (Eq.trans ?_ hs)
  generalize (2 : Nat) ^ 1074 = G
  generalize l.natAbs * 2 ^ 1058 = H
  unfold sgn
  cases (a != b)
  · simp [Int.natCast_mul, Int.mul_comm]
  · simp only [if_true, Int.natCast_mul, Int.neg_mul, Int.mul_neg, Int.mul_comm]

theorem div_isF {x y : UInt64} {j k l : Int} (hx : IsF x j) (hy : IsF y k) (hk : k ≠ 0) (hl : l * k = j * 65536) (h1 : -(2 ^ 40) < l := by lia) (h2 : l < 2 ^ 40 := by lia) : IsF (Float64.div x y) l := by
  obtain ⟨⟨a, m, e, dx⟩, vx⟩ := hx
  obtain ⟨⟨b, n, f, dy⟩, vy⟩ := hy
  have wx := val_eq dx
  have wy := val_eq dy
  have hP : (0 : Int) < ((2 ^ 1058 : Nat) : Int) := Int.ofNat_lt.mpr (Nat.two_pow_pos _)
  have hyne : val y ≠ 0 := by rw [vy]; exact Int.mul_ne_zero hk (by lia)
  have hn : n ≠ 0 := by
    intro q; subst q
    apply hyne; rw [wy, Nat.zero_mul]; unfold sgn; cases b <;> rfl
  have R := div_right dx dy hn
  have hypos : 0 < (val y).natAbs := by lia
  have hnat : (val x).natAbs * 2 ^ 1074 = (val y).natAbs * (l.natAbs * 2 ^ 1058) := by
    rw [vx, vy, Int.natAbs_mul, Int.natAbs_mul, Int.natAbs_natCast, P74_is, P58_is]
    have : l.natAbs * k.natAbs = j.natAbs * 65536 := by rw [← Int.natAbs_mul, hl, Int.natAbs_mul]; rfl
    calc j.natAbs * P58 * (P58 * 65536) = (j.natAbs * 65536) * (P58 * P58) := by ac_rfl
      _ = l.natAbs * k.natAbs * (P58 * P58) := by rw [this]
      _ = k.natAbs * P58 * (l.natAbs * P58) := by ac_rfl
  rw [hnat] at R
  have X := exactR R hypos (l := l.natAbs) (by lia) rfl
  refine ⟨X.1, X.2.trans ?_⟩
  -- the sign
  have hprod : l * ((2 ^ 1058 : Nat) : Int) * val y = val x * ((2 ^ 1074 : Nat) : Int) := by
    rw [vx, vy, P74_is, P58_is, Int.natCast_mul]
    calc l * (P58 : Int) * (k * (P58 : Int)) = (l * k) * ((P58 : Int) * P58) := by ac_rfl
      _ = j * 65536 * ((P58 : Int) * P58) := by rw [hl]
      _ = j * (P58 : Int) * ((P58 : Int) * ((65536 : Nat) : Int)) := by rw [show ((65536 : Nat) : Int) = 65536 from rfl]; ac_rfl
  refine Int.eq_of_mul_eq_mul_right hyne (Eq.trans ?_ hprod.symm)
  have hs1 : val y = sgn b (val y).natAbs := by rw [wy, sgn_natAbs]
  have hs2 : val x = sgn a (val x).natAbs := by rw [wx, sgn_natAbs]
  have hcast : ((val x).natAbs : Int) * ((2 ^ 1074 : Nat) : Int) = ((val y).natAbs : Int) * ((l.natAbs * 2 ^ 1058 : Nat) : Int) := by exact_mod_cast hnat
  rw [hs1, hs2]
  clear hs1 hs2 hprod X R hnat hypos hyne wx wy vx vy
  generalize (val y).natAbs = Y at *
  generalize (val x).natAbs = Z at *
  generalize (2 : Nat) ^ 1074 = G at *
  generalize l.natAbs * 2 ^ 1058 = H at *
  unfold sgn
  cases a <;> cases b <;> simp only [bne_self_eq_false, Bool.false_eq_true, if_false, if_true, Bool.true_bne, Bool.false_bne, Bool.not_false, Bool.not_true, Int.neg_mul, Int.mul_neg, Int.neg_neg, hcast, Int.mul_comm]

theorem ofInt_isF (i : Int) (h1 : -(2 ^ 24) < i := by lia) (h2 : i < 2 ^ 24 := by lia) : IsF (Float64.ofInt i) (i * 65536) := by
  have R := ofInt_right i
  have hW : i.natAbs * 2 ^ 1074 = 1 * ((i * 65536).natAbs * 2 ^ 1058) := by
    rw [P74_is, P58_is, Int.natAbs_mul, Nat.one_mul]
    show i.natAbs * (P58 * 65536) = i.natAbs * 65536 * P58
    ac_rfl
  have X := exactR R (by decide) (l := (i * 65536).natAbs) (by lia) hW
  refine ⟨X.1, X.2.trans ?_⟩
  have : decide (i < 0) = decide (i * 65536 < 0) := decide_eq_decide.mpr (by lia)
  rw [this]
  exact sgn_of _ _

theorem compare_mul (j k P : Int) (hP : 0 < P) : compare (j * P) (k * P) = compare j k := by
  rcases Int.lt_trichotomy j k with h | h | h
  · rw [Int.compare_eq_lt.mpr h, Int.compare_eq_lt.mpr (Int.mul_lt_mul_of_pos_right h hP)]
  · subst h; simp
  · rw [Int.compare_eq_gt.mpr h, Int.compare_eq_gt.mpr (Int.mul_lt_mul_of_pos_right h hP)]
theorem cmp_isF {x y : UInt64} {j k : Int} (hx : IsF x j) (hy : IsF y k) : Float64.cmp x y = some (compare j k) := by
  obtain ⟨⟨a, m, e, dx⟩, vx⟩ := hx
  obtain ⟨⟨b, n, f, dy⟩, vy⟩ := hy
  rw [cmp_right dx dy, vx, vy, compare_mul _ _ _ (Int.ofNat_lt.mpr (Nat.two_pow_pos _))]
end Mine
end

section
open PySem PySem.W PyProof.Rows
set_option Elab.async false
set_option maxRecDepth 100000
namespace Mine
open PySem.Float64
theorem fin_of {x : UInt64} (h : Float64.isFinite x = true) : ∃ a m e, decode x = .fin a m e := by
  unfold Float64.isFinite at h
  split at h
  · rename_i a m e q; exact ⟨a, m, e, q⟩
  · cases h
theorem f0 : IsF 0 0 := ⟨fin_of (by decide +kernel), by decide +kernel⟩
theorem f1 : IsF 4607182418800017408 65536 := ⟨fin_of (by decide +kernel), by decide +kernel⟩
theorem f2 : IsF 4611686018427387904 131072 := ⟨fin_of (by decide +kernel), by decide +kernel⟩
theorem f4 : IsF 4616189618054758400 262144 := ⟨fin_of (by decide +kernel), by decide +kernel⟩
theorem f6 : IsF 4618441417868443648 393216 := ⟨fin_of (by decide +kernel), by decide +kernel⟩

theorem isZero_isF {x : UInt64} {k : Int} (h : IsF x k) : Float64.isZero x = decide (k = 0) := by
  obtain ⟨⟨a, m, e, dx⟩, vx⟩ := h
  have wx := val_eq dx
  have hP : (0 : Int) < ((2 ^ 1058 : Nat) : Int) := Int.ofNat_lt.mpr (Nat.two_pow_pos _)
  unfold Float64.isZero
  rw [dx]
  by_cases hm : m = 0
  · subst hm
    have : k = 0 := by
      rw [Nat.zero_mul] at wx
      have z : val x = 0 := by rw [wx]; unfold sgn; cases a <;> rfl
      rw [z] at vx
      rcases Int.mul_eq_zero.mp vx.symm with q | q
      · exact q
      · lia
    rw [decide_eq_true this]; rfl
  · have : k ≠ 0 := by
      intro q
      rw [q, Int.zero_mul] at vx
      have := sgn_natAbs a (m * 2 ^ (e + 1074).toNat)
      rw [← wx, vx] at this
      have hp := Nat.two_pow_pos (e + 1074).toNat
      have : 0 < m * 2 ^ (e + 1074).toNat := Nat.mul_pos (by lia) hp
      simp at *
      lia
    rw [decide_eq_false this]
    split
    · rename_i h; cases h; exact absurd rfl hm
    · rfl
theorem fin_isF {x : UInt64} {k : Int} (h : IsF x k) : Float64.isInf x = false ∧ Float64.isNaN x = false := by
  obtain ⟨⟨a, m, e, dx⟩, vx⟩ := h
  unfold Float64.isInf Float64.isNaN
  rw [dx]; exact ⟨rfl, rfl⟩
theorem lt_isF {x y : UInt64} {j k : Int} (hx : IsF x j) (hy : IsF y k) : Float64.lt x y = decide (j < k) := by
  unfold Float64.lt
  rw [cmp_isF hx hy]
  rcases Int.lt_trichotomy j k with h | h | h
  · rw [Int.compare_eq_lt.mpr h, decide_eq_true h]; rfl
  · subst h; simp
  · rw [Int.compare_eq_gt.mpr h, decide_eq_false (by lia)]; rfl
theorem eqb_isF {x y : UInt64} {j k : Int} (hx : IsF x j) (hy : IsF y k) : (Float64.cmp x y == some Ordering.eq) = decide (j = k) := by
  rw [cmp_isF hx hy]
  rcases Int.lt_trichotomy j k with h | h | h
  · rw [Int.compare_eq_lt.mpr h, decide_eq_false (by lia)]; rfl
  · subst h; simp
  · rw [Int.compare_eq_gt.mpr h, decide_eq_false (by lia)]; rfl
theorem gtb_isF {x y : UInt64} {j k : Int} (hx : IsF x j) (hy : IsF y k) : (Float64.cmp x y == some Ordering.gt) = decide (k < j) := by
  rw [cmp_isF hx hy]
  rcases Int.lt_trichotomy j k with h | h | h
  · rw [Int.compare_eq_lt.mpr h, decide_eq_false (by lia)]; rfl
  · subst h; simp
  · rw [Int.compare_eq_gt.mpr h, decide_eq_true h]; rfl
theorem ltb_isF {x y : UInt64} {j k : Int} (hx : IsF x j) (hy : IsF y k) : (Float64.cmp x y == some Ordering.lt) = decide (j < k) := by
  have := lt_isF hx hy; exact this

theorem trunc_isF {x : UInt64} {k : Int} {a : Bool} {m : Nat} {e : Int} (h : IsF x k) (hd : decode x = .fin a m e) (h0 : 0 ≤ k) : truncOf a m e = k / 65536 := by
  have vx := h.2
  have wx := val_eq hd
  have he := decode_ge hd
  have hP : (0 : Int) < ((2 ^ 1058 : Nat) : Int) := Int.ofNat_lt.mpr (Nat.two_pow_pos _)
  obtain ⟨kn, rfl⟩ : ∃ kn : Nat, k = kn := ⟨k.toNat, by lia⟩
  have hm : m * 2 ^ (e + 1074).toNat = kn * 2 ^ 1058 := by
    have := val_natAbs hd
    rw [vx, Int.natAbs_mul, Int.natAbs_natCast, Int.natAbs_natCast] at this
    exact this.symm
  have hfl : floorOf false m e = (kn : Int) / 65536 := by
    unfold floorOf
    simp only [sgn, Bool.false_eq_true, if_false]
    split
    · rename_i hge
      have e1 : (e + 1074).toNat = e.toNat + 1074 := by lia
      rw [e1, Nat.pow_add, P74_is, P58_is] at hm
      have h2 : m * 2 ^ e.toNat * 65536 = kn := by
        refine Nat.eq_of_mul_eq_mul_right P58_pos (Eq.trans ?_ hm)
        ac_rfl
      have : ((m : Int) * 2 ^ e.toNat) = ((m * 2 ^ e.toNat : Nat) : Int) := by rw [Int.natCast_mul, Int.natCast_pow]; rfl
      rw [this]
      clear this hm wx vx hP
      generalize m * 2 ^ e.toNat = G at h2 ⊢
      lia
    · rename_i hlt
      have e1 : 1074 = (e + 1074).toNat + (-e).toNat := by lia
      have h2 : kn * 2 ^ (-e).toNat = m * 65536 := by
        refine Nat.eq_of_mul_eq_mul_right P58_pos ?_
        calc kn * 2 ^ (-e).toNat * P58 = (kn * P58) * 2 ^ (-e).toNat := by ac_rfl
          _ = m * (2 ^ (e + 1074).toNat * 2 ^ (-e).toNat) := by rw [← P58_is, ← hm, Nat.mul_assoc]
          _ = m * 2 ^ 1074 := by rw [← Nat.pow_add, ← e1]
          _ = m * 65536 * P58 := by rw [P74_is]; ac_rfl
      rw [Int.fdiv_eq_ediv_of_nonneg _ (Int.le_of_lt (by rw [show (2 : Int) ^ (-e).toNat = ((2 ^ (-e).toNat : Nat) : Int) from by rw [Int.natCast_pow]; rfl]; exact Int.ofNat_lt.mpr (Nat.two_pow_pos _)))]
      rw [show (2 : Int) ^ (-e).toNat = ((2 ^ (-e).toNat : Nat) : Int) from by rw [Int.natCast_pow]; rfl]
      have hp := Nat.two_pow_pos (-e).toNat
      generalize 2 ^ (-e).toNat = G at *
      have : m / G = kn / 65536 := by
        have a1 := Nat.mul_div_mul_right m G (show 0 < 65536 by decide)
        have a2 := Nat.mul_div_mul_right kn 65536 hp
        rw [← a1, ← a2, h2, Nat.mul_comm G]
      rw [← Int.natCast_ediv, this]; rfl
  cases a with
  | false => exact hfl
  | true =>
    have hk : kn = 0 := by
      have : val x ≤ 0 := by rw [wx]; unfold sgn; simp only [if_true]; lia
      rw [vx] at this
      by_cases q : kn = 0
      · exact q
      · have := Int.mul_pos (show (0 : Int) < kn by lia) hP; lia
    subst hk
    have hm0 : m = 0 := by
      rw [Nat.zero_mul] at hm
      rcases Nat.mul_eq_zero.mp hm with q | q
      · exact q
      · have := Nat.two_pow_pos (e + 1074).toNat; lia
    subst hm0
    unfold truncOf ceilOf floorOf
    simp [sgn]

theorem ofFrac_isF {a b : Int} {l : Int} (hb : 0 < b) (hl : l * b = a * 65536) (h1 : -(2 ^ 40) < l := by lia) (h2 : l < 2 ^ 40 := by lia) : IsF (Float64.ofFrac (decide (a < 0) != decide (b < 0)) a.natAbs b.natAbs) l := by
  have R := ofFrac_right (neg := decide (a < 0) != decide (b < 0)) (n := a.natAbs) (d := b.natAbs) (W := a.natAbs * 2 ^ 1074) (D := b.natAbs) (by lia) rfl (by lia)
  have hW : a.natAbs * 2 ^ 1074 = b.natAbs * (l.natAbs * 2 ^ 1058) := by
    rw [P74_is, P58_is]
    have : l.natAbs * b.natAbs = a.natAbs * 65536 := by rw [← Int.natAbs_mul, hl, Int.natAbs_mul]; rfl
    calc a.natAbs * (P58 * 65536) = (a.natAbs * 65536) * P58 := by ac_rfl
      _ = b.natAbs * (l.natAbs * P58) := by rw [← this]; ac_rfl
  have X := exactR R (by lia) (l := l.natAbs) (by lia) hW
  refine ⟨X.1, X.2.trans ?_⟩
  have e1 : decide (b < 0) = false := decide_eq_false (by lia)
  have e2 : decide (a < 0) = decide (l < 0) := by
    apply decide_eq_decide.mpr
    constructor
    · intro h
      by_cases q : l < 0
      · exact q
      · have := Int.mul_nonneg (show 0 ≤ l by lia) (Int.le_of_lt hb); lia
    · intro h; have := Int.mul_neg_of_neg_of_pos h hb; lia
  rw [e1, e2, Bool.bne_false]
  exact sgn_of _ _

theorem toNat_split {e g : Int} (h : -1074 ≤ g) (h2 : g ≤ e) : (e - g).toNat + (g + 1074).toNat = (e + 1074).toNat := by lia
theorem nonpos_of {k P : Int} (hP : 0 < P) (h : k * P ≤ 0) : k ≤ 0 := Int.not_lt.mp fun q => Int.lt_irrefl 0 (Int.lt_of_lt_of_le (Int.mul_pos q hP) h)
theorem nonneg_of {k P : Int} (hP : 0 < P) (h : 0 ≤ k * P) : 0 ≤ k := Int.not_lt.mp fun q => Int.lt_irrefl 0 (Int.lt_of_le_of_lt h (Int.mul_neg_of_neg_of_pos q hP))
theorem sgn_zero (a : Bool) (k : Int) : sgn a (k.natAbs % 65536) = 0 ↔ k % 65536 = 0 := by unfold sgn; cases a <;> simp <;> lia
theorem sgn_lt {a : Bool} {n : Nat} (h : sgn a n < 0) : a = true := by
  cases a with
  | true => rfl
  | false => exact absurd h (Int.not_lt.mpr (Int.natCast_nonneg n))
theorem neg_mod {k : Int} (h : k ≤ 0) (h0 : -((k.natAbs % 65536 : Nat) : Int) ≠ 0) : -((k.natAbs % 65536 : Nat) : Int) + 65536 = k % 65536 := by lia
theorem pos_mod {k : Int} (h : 0 ≤ k) : ((k.natAbs % 65536 : Nat) : Int) = k % 65536 := by lia
theorem neg_small {n : Nat} (h : n % 65536 < 65536) : -2 ^ 40 < -((n % 65536 : Nat) : Int) ∧ -((n % 65536 : Nat) : Int) < 2 ^ 40 := by lia
theorem fmod_isF {x : UInt64} {k : Int} {a : Bool} {m : Nat} {e : Int} (hx : IsF x k) (hd : decode x = .fin a m e) : IsF (Float64.fmod x 4607182418800017408) (sgn a (k.natAbs % 65536)) := by
  obtain ⟨⟨b, n, f, dy⟩, vy⟩ := f1
  have he := decode_ge hd
  have hf := decode_ge dy
  have h1 := val_natAbs hd
  have h2 := val_natAbs dy
  rw [hx.2, Int.natAbs_mul, Int.natAbs_natCast] at h1
  rw [vy, Int.natAbs_mul, Int.natAbs_natCast] at h2
  have hn : n ≠ 0 := by
    intro q; subst q
    rw [Nat.zero_mul] at h2
    have : 0 < (65536 : Int).natAbs * 2 ^ 1058 := Nat.mul_pos (by decide) (Nat.two_pow_pos _)
    first | exact absurd h2 (Nat.ne_of_lt this) | exact absurd h2.symm (Nat.ne_of_lt this)
  have hfm : Float64.fmod x 4607182418800017408 = ofBin a (m * 2 ^ (e - min e f).toNat % (n * 2 ^ (f - min e f).toNat)) (min e f) := by
    unfold Float64.fmod
    rw [hd, dy]
    simp only [align, sgn, Bool.false_eq_true, if_false]
    rw [if_neg (by simpa using hn)]
    rw [Int.toNat_natCast, Int.toNat_natCast]
  rw [hfm]
  have R := ofBin_right (neg := a) (M := m * 2 ^ (e - min e f).toNat % (n * 2 ^ (f - min e f).toNat)) (g := min e f) (Int.le_min.mpr ⟨he, hf⟩)
  have hW : m * 2 ^ (e - min e f).toNat % (n * 2 ^ (f - min e f).toNat) * 2 ^ (min e f + 1074).toNat = 1 * (k.natAbs % 65536 * 2 ^ 1058) := by
    rw [← Nat.mul_mod_mul_right, Nat.mul_assoc, Nat.mul_assoc, ← Nat.pow_add, ← Nat.pow_add]
    have e1 : (e - min e f).toNat + (min e f + 1074).toNat = (e + 1074).toNat := toNat_split (Int.le_min.mpr ⟨he, hf⟩) (Int.min_le_left ..)
    have e2 : (f - min e f).toNat + (min e f + 1074).toNat = (f + 1074).toNat := toNat_split (Int.le_min.mpr ⟨he, hf⟩) (Int.min_le_right ..)
    rw [e1, e2, ← h1, ← h2, Nat.one_mul]
    exact Nat.mul_mod_mul_right ..
  have hlt : k.natAbs % 65536 < 65536 := Nat.mod_lt _ (by decide)
  have X := exactR R (by decide) (l := k.natAbs % 65536) (Nat.lt_trans hlt (by decide)) hW
  refine ⟨X.1, X.2.trans ?_⟩
  unfold sgn
  cases a
  · simp
  · simp [Int.neg_mul]

theorem copysign_isF (y : UInt64) : IsF (Float64.copysign (Float64.zero false) y) 0 := by
  have h : Float64.copysign (Float64.zero false) y = Float64.zero (Float64.signBit y) := by
    unfold Float64.copysign
    have h1 : isNaN (Float64.zero false) = false := by decide +kernel
    have h2 : (Float64.zero false).toNat % 2 ^ 63 = 0 := by decide +kernel
    rw [h1, h2]; rfl
  rw [h]; exact zero_isF _

theorem mod_isF {x : UInt64} {k : Int} (hx : IsF x k) : IsF (Float64.divmod x 4607182418800017408).2 (k % 65536) := by
  obtain ⟨a, m, e, hd⟩ := hx.1
  have hm := fmod_isF hx hd
  have hpos : ∀ q : Int, IsF (Float64.zero false) 0 := fun _ => zero_isF _
  have vx := hx.2
  have wx := val_eq hd
  have hP : (0 : Int) < ((2 ^ 1058 : Nat) : Int) := Int.ofNat_lt.mpr (Nat.two_pow_pos _)
  have hsg : (a = true → k ≤ 0) ∧ (a = false → 0 ≤ k) := by
    constructor
    · rintro rfl
      have : val x ≤ 0 := by rw [wx]; unfold sgn; simp only [if_true]; exact Int.neg_nonpos_of_nonneg (Int.natCast_nonneg _)
      rw [vx] at this
      exact nonpos_of hP this
    · rintro rfl
      have : 0 ≤ val x := by rw [wx]; unfold sgn; simp only [Bool.false_eq_true, if_false]; exact Int.natCast_nonneg _
      rw [vx] at this
      exact nonneg_of hP this
  have hz := isZero_isF hm
  have hl1 := lt_isF f1 (zero_isF false)
  have hl2 := lt_isF hm (zero_isF false)
  unfold Float64.divmod
  simp only
  have hsv := sgn_zero a k
  by_cases h0 : sgn a (k.natAbs % 65536) = 0
  · rw [hz, decide_eq_true h0]
    simp only [if_true]
    rw [hsv.mp h0]
    exact copysign_isF _
  · rw [hz, decide_eq_false h0]
    simp only [Bool.false_eq_true, if_false]
    rw [hl1, hl2]
    have hlt : k.natAbs % 65536 < 65536 := Nat.mod_lt _ (by decide)
    by_cases hk : sgn a (k.natAbs % 65536) < 0
    · rw [decide_eq_true hk]
      simp only [show decide ((65536 : Int) < 0) = false from rfl, Bool.false_bne, if_true]
      have ha : a = true := sgn_lt hk
      have hk2 := hsg.1 ha
      subst ha
      unfold sgn at hm hk h0
      simp only [if_true] at hm hk h0
      have X := add_isF hm f1 (by first | exact neg_small hlt | exact (neg_small hlt).1 | lia) (by first | exact neg_small hlt | lia)
      have : -((k.natAbs % 65536 : Nat) : Int) + 65536 = k % 65536 := neg_mod hk2 h0
      rw [this] at X
      exact X
    · rw [decide_eq_false hk]
      simp only [show decide ((65536 : Int) < 0) = false from rfl, Bool.false_bne, Bool.false_eq_true, if_false]
      have : sgn a (k.natAbs % 65536) = k % 65536 := by
        unfold sgn at *
        cases a
        · exact pos_mod (hsg.2 rfl)
        · exact absurd (Int.lt_iff_le_and_ne.mpr ⟨Int.neg_nonpos_of_nonneg (Int.natCast_nonneg _), h0⟩) hk
      rw [← this]; exact hm
end Mine
end

section
open PySem PySem.W PyProof.Rows PySem.Calls
set_option Elab.async false
set_option maxRecDepth 100000
namespace Mine
open PySem.Float64
section
variable {prog : Program} {w : World} {A : Around} {E : Value → Shared → Prop} {s : Shared} {x y z : UInt64} {j k l : Int} {t u v : Tok} {Q : Value → Shared → Prop}
  {h₀ : Heap} {L : Addr} {m : Str → Option Value} {news : List (Addr × Obj)}

theorem addF (hx : IsF x j) (hy : IsF y k) (hl : j + k = l) (hb : -(2 ^ 40) < l ∧ l < 2 ^ 40) (h : ∀ r tk, IsF r l → Q (.float r tk) { s with toks := s.toks + 1 }) : wpAny (model prog w) A (binaryOp .Add (.float x t) (.float y u)) Q E s := by
  subst hl; exact AutoFloatOps.add_0 (h _ _ (add_isF hx hy hb.1 hb.2))
theorem subF (hx : IsF x j) (hy : IsF y k) (hl : j - k = l) (hb : -(2 ^ 40) < l ∧ l < 2 ^ 40) (h : ∀ r tk, IsF r l → Q (.float r tk) { s with toks := s.toks + 1 }) : wpAny (model prog w) A (binaryOp .Sub (.float x t) (.float y u)) Q E s := by
  subst hl; exact AutoFloatOps.sub_0 (h _ _ (sub_isF hx hy hb.1 hb.2))
theorem mulF (hx : IsF x j) (hy : IsF y k) (hl : j * k = l * 65536) (hb : -(2 ^ 40) < l ∧ l < 2 ^ 40) (h : ∀ r tk, IsF r l → Q (.float r tk) { s with toks := s.toks + 1 }) : wpAny (model prog w) A (binaryOp .Mult (.float x t) (.float y u)) Q E s :=
  AutoFloatOps.mul_0 (h _ _ (mul_isF hx hy hl hb.1 hb.2))
theorem divF (hx : IsF x j) (hy : IsF y k) (hk : k ≠ 0) (hl : l * k = j * 65536) (hb : -(2 ^ 40) < l ∧ l < 2 ^ 40) (h : ∀ r tk, IsF r l → Q (.float r tk) { s with toks := s.toks + 1 }) : wpAny (model prog w) A (binaryOp .Div (.float x t) (.float y u)) Q E s :=
  AutoFloatOps.truediv_1 (by rw [isZero_isF hy, decide_eq_false hk]; exact Bool.false_ne_true) (h _ _ (div_isF hx hy hk hl hb.1 hb.2))
theorem modF (hx : IsF x j) (hl : j % 65536 = l) (h : ∀ r tk, IsF r l → Q (.float r tk) { s with toks := s.toks + 1 }) : wpAny (model prog w) A (binaryOp .Mod (.float x t) (.float 4607182418800017408 u)) Q E s := by
  subst hl
  exact AutoFloatOps.mod_1 (by rw [isZero_isF f1]; decide) (h _ _ (mod_isF hx))
theorem eqF_t (hx : IsF x j) (hy : IsF y k) (hl : j = k) (h : Q (.bool true) s) : wpAny (model prog w) A (compareOp .Eq (.float x t) (.float y u)) Q E s :=
  AutoFloatOps.eq_0 (by rw [eqb_isF hx hy, decide_eq_true hl]; exact h)
theorem eqF_f (hx : IsF x j) (hy : IsF y k) (hl : j ≠ k) (h : Q (.bool false) s) : wpAny (model prog w) A (compareOp .Eq (.float x t) (.float y u)) Q E s :=
  AutoFloatOps.eq_0 (by rw [eqb_isF hx hy, decide_eq_false hl]; exact h)
theorem ltF (hx : IsF x j) (hy : IsF y k) (h : Q (.bool (decide (j < k))) s) : wpAny (model prog w) A (compareOp .Lt (.float x t) (.float y u)) Q E s :=
  AutoFloatOps.lt_0 (by rw [ltb_isF hx hy]; exact h)
theorem intF (hx : IsF x j) (h0 : 0 ≤ j) (hl : j / 65536 = l) (h : ∀ tk, Q (.int l tk) { s with toks := s.toks + 1 }) : wpAny (model prog w) A (call (.type "int") [.float x t]) Q E s := by
  obtain ⟨a, m, e, hd⟩ := hx.1
  refine call_int_float hd ?_
  rw [trunc_isF hx hd h0, hl]; exact h _
theorem subFI (hx : IsF x j) {i : Int} (hl : j - i * 65536 = l) (hi : -(2 ^ 24) < i ∧ i < 2 ^ 24) (hb : -(2 ^ 40) < l ∧ l < 2 ^ 40) (h : ∀ r tk, IsF r l → Q (.float r tk) { s with toks := s.toks + 1 }) : wpAny (model prog w) A (binaryOp .Sub (.float x t) (.int i u)) Q E s := by
  subst hl
  have hy := ofInt_isF i hi.1 hi.2
  exact AutoFloatOps.sub_fi_1 (by rw [(fin_isF hy).1]; exact Bool.false_ne_true) (h _ _ (sub_isF hx hy hb.1 hb.2))
theorem addFI (hx : IsF x j) {i : Int} (hl : j + i * 65536 = l) (hi : -(2 ^ 24) < i ∧ i < 2 ^ 24) (hb : -(2 ^ 40) < l ∧ l < 2 ^ 40) (h : ∀ r tk, IsF r l → Q (.float r tk) { s with toks := s.toks + 1 }) : wpAny (model prog w) A (binaryOp .Add (.float x t) (.int i u)) Q E s := by
  subst hl
  have hy := ofInt_isF i hi.1 hi.2
  exact AutoFloatOps.add_fi_1 (by rw [(fin_isF hy).1]; exact Bool.false_ne_true) (h _ _ (add_isF hx hy hb.1 hb.2))
theorem mulFI (hx : IsF x j) {i : Int} (hl : j * i = l) (hi : -(2 ^ 24) < i ∧ i < 2 ^ 24) (hb : -(2 ^ 40) < l ∧ l < 2 ^ 40) (h : ∀ r tk, IsF r l → Q (.float r tk) { s with toks := s.toks + 1 }) : wpAny (model prog w) A (binaryOp .Mult (.float x t) (.int i u)) Q E s := by
  subst hl
  have hy := ofInt_isF i hi.1 hi.2
  exact AutoFloatOps.mul_fi_1 (by rw [(fin_isF hy).1]; exact Bool.false_ne_true) (h _ _ (mul_isF hx hy (by rw [Int.mul_assoc]) hb.1 hb.2))
theorem divII {a b : Int} (hb : 0 < b) (hl : l * b = a * 65536) (hbd : -(2 ^ 40) < l ∧ l < 2 ^ 40) (h : ∀ r tk, IsF r l → Q (.float r tk) { s with toks := s.toks + 1 }) : wpAny (model prog w) A (binaryOp .Div (.int a t) (.int b u)) Q E s := by
  have hr := ofFrac_isF hb hl hbd.1 hbd.2
  exact AutoIntOps.truediv_2 (by simp; omega) (by rw [(fin_isF hr).1]; exact Bool.false_ne_true) (h _ _ hr)

theorem richGtF (hx : IsF x j) (hy : IsF y k) {Q : Value → Shared → Prop} (h : Q (.bool (decide (k < j))) s) : wpAny (model prog w) A (richCompare .Gt (.float x t) (.float y u)) Q E s :=
  show wpAny (model prog w) A (compareOp .Gt (.float x t) (.float y u)) Q E s from AutoFloatOps.gt_0 (by rw [gtb_isF hx hy]; exact h)
theorem richLtF (hx : IsF x j) (hy : IsF y k) {Q : Value → Shared → Prop} (h : Q (.bool (decide (j < k))) s) : wpAny (model prog w) A (richCompare .Lt (.float x t) (.float y u)) Q E s :=
  show wpAny (model prog w) A (compareOp .Lt (.float x t) (.float y u)) Q E s from ltF hx hy h

theorem args_max3 (a b c : Value) : argsOk "max" ⟨[a, b, c], []⟩ := by unfold argsOk; kernel_rfl
theorem args_min3 (a b c : Value) : argsOk "min" ⟨[a, b, c], []⟩ := by unfold argsOk; kernel_rfl
theorem call_max_three {a b c : Value} {Q : Value → Shared → Prop}
    (h : wpAny (model prog w) A.in1 (pyIter (.ref s.heap.objs.size)) (fun it s₂ => ∃ I fp wr n P St bt, it = .ref I ∧ Walks prog w A.in1 I fp wr n P St ∧ St 0 s₂.heap ∧ (∀ b ∈ fp, b < s₂.heap.objs.size) ∧ 0 < n ∧ CmpOf prog w A.in1 .Gt P bt ∧
      ∀ v h' tk, P (argBest bt (n - 1)) v → (∀ b o, b ∉ wr → s₂.heap.get? b = some o → h'.get? b = some o) → Q v { s₂ with heap := h', toks := tk }) E
      { s with heap := s.heap.push { cls := .type "tuple", data := .seq #[a, b, c] } }) :
    wpAny (model prog w) A (call (.builtin "max") [a, b, c]) Q E s := by
  have hname : (toString "max" ++ toString ".loop" : String) = "max.loop" := by decide
  refine call_function_tree F.kind_max F.plain_max F.entry_max (args_max3 _ _ _) ?_
  show wpAny _ A.in1 (Builtin.Builtins.bindParams "max" ["key", "default"] 0 ⟨[], []⟩ >>= _) _ _ s
  refine wpAny_bind (wpAny_of_eq (show Builtin.Builtins.bindParams "max" ["key", "default"] 0 ⟨[], []⟩ = pure [none, none] from rfl) ?_)
  show wpAny _ A.in1 (newTuple [a, b, c] >>= _) _ _ s
  refine wpAny_bind (wpAny_newObj_type ?_)
  refine wpAny_bind (wpAny_mono h (fun it s₂ h₂ => ?_) fun _ _ e => e)
  obtain ⟨I, fp, wr, n, P, St, bt, rfl, W, hst, hfp, hn, hcmp, hQ⟩ := h₂
  refine wpAny_bind (wpAny_newObj_type ?_)
  have hSf : s₂.heap.objs.size ∉ fp := fun hm => Nat.lt_irrefl _ (hfp _ hm)
  rw [hname]
  refine wpAny_pure ⟨plainId_quiet F.plain_max_loop _, codeAny_max_loop_first W bt hcmp s₂.heap.objs.size hSf hn (W.frame _ _ _ hst fun b _ o e => Heap.get?_push_of_some _ e) (Heap.get?_push_size _ rfl) fun v h' tk hP hk => ?_⟩
  exact hQ v h' tk hP fun b o hbw e => hk b o hbw (Nat.ne_of_lt (Heap.lt_size e)) (Heap.get?_push_of_some _ e)
theorem call_min_three {a b c : Value} {Q : Value → Shared → Prop}
    (h : wpAny (model prog w) A.in1 (pyIter (.ref s.heap.objs.size)) (fun it s₂ => ∃ I fp wr n P St bt, it = .ref I ∧ Walks prog w A.in1 I fp wr n P St ∧ St 0 s₂.heap ∧ (∀ b ∈ fp, b < s₂.heap.objs.size) ∧ 0 < n ∧ CmpOf prog w A.in1 .Lt P bt ∧
      ∀ v h' tk, P (argBest bt (n - 1)) v → (∀ b o, b ∉ wr → s₂.heap.get? b = some o → h'.get? b = some o) → Q v { s₂ with heap := h', toks := tk }) E
      { s with heap := s.heap.push { cls := .type "tuple", data := .seq #[a, b, c] } }) :
    wpAny (model prog w) A (call (.builtin "min") [a, b, c]) Q E s := by
  have hname : (toString "min" ++ toString ".loop" : String) = "min.loop" := by decide
  refine call_function_tree F.kind_min F.plain_min F.entry_min (args_min3 _ _ _) ?_
  show wpAny _ A.in1 (Builtin.Builtins.bindParams "min" ["key", "default"] 0 ⟨[], []⟩ >>= _) _ _ s
  refine wpAny_bind (wpAny_of_eq (show Builtin.Builtins.bindParams "min" ["key", "default"] 0 ⟨[], []⟩ = pure [none, none] from rfl) ?_)
  show wpAny _ A.in1 (newTuple [a, b, c] >>= _) _ _ s
  refine wpAny_bind (wpAny_newObj_type ?_)
  refine wpAny_bind (wpAny_mono h (fun it s₂ h₂ => ?_) fun _ _ e => e)
  obtain ⟨I, fp, wr, n, P, St, bt, rfl, W, hst, hfp, hn, hcmp, hQ⟩ := h₂
  refine wpAny_bind (wpAny_newObj_type ?_)
  have hSf : s₂.heap.objs.size ∉ fp := fun hm => Nat.lt_irrefl _ (hfp _ hm)
  rw [hname]
  refine wpAny_pure ⟨plainId_quiet F.plain_min_loop _, codeAny_min_loop_first W bt hcmp s₂.heap.objs.size hSf hn (W.frame _ _ _ hst fun b _ o e => Heap.get?_push_of_some _ e) (Heap.get?_push_size _ rfl) fun v h' tk hP hk => ?_⟩
  exact hQ v h' tk hP fun b o hbw e => hk b o hbw (Nat.ne_of_lt (Heap.lt_size e)) (Heap.get?_push_of_some _ e)

noncomputable def at3 (j k l : Int) : Nat → Int
  | 0 => j
  | 1 => k
  | _ => l
theorem items3 {x y z : UInt64} {t u v : Tok} {j k l : Int} (hx : IsF x j) (hy : IsF y k) (hz : IsF z l) {i : Nat} {r : Value} (h : (#[.float x t, .float y u, .float z v] : Array Value)[i]? = some r) : ∃ b tk, r = .float b tk ∧ IsF b (at3 j k l i) := by
  match i, h with
  | 0, h => simp at h; subst h; exact ⟨_, _, rfl, hx⟩
  | 1, h => simp at h; subst h; exact ⟨_, _, rfl, hy⟩
  | 2, h => simp at h; subst h; exact ⟨_, _, rfl, hz⟩
  | n + 3, h => simp at h

theorem max3F (hh : A.handled = none) (hx : IsF x j) (hy : IsF y k) (hz : IsF z l) {mx : Int} (hm : max (max j k) l = mx) (F : Fr h₀ L s.heap m) (N : News h₀ L s.heap news)
    (h : ∀ r tr h' tk, IsF r mx → Fr h₀ L h' m → News h₀ L h' news → Q (.float r tr) { s with heap := h', toks := tk }) :
    wpAny (model prog w) A (call (.builtin "max") [.float x t, .float y u, .float z v]) Q E s := by
  have hT : (s.heap.push { cls := .type "tuple", data := .seq #[.float x t, .float y u, .float z v] }).IsTuple s.heap.objs.size #[.float x t, .float y u, .float z v] := ⟨_, Heap.get?_push_size _ rfl, rfl, 0, rfl⟩
  refine call_max_three (wpAny_pyIter_tuple hT ?_)
  have hsz : (s.heap.push { cls := .type "tuple", data := .seq #[.float x t, .float y u, .float z v] }).objs.size = s.heap.objs.size + 1 := Heap.size_push ..
  refine ⟨_, [_, s.heap.objs.size], [_], _, _, _, fun a b => decide (at3 j k l b < at3 j k l a), rfl, Walks.tuple (A := A.in1) hh _ s.heap.objs.size (by rw [hsz]; exact Nat.ne_of_lt (Nat.lt_succ_self _)) #[.float x t, .float y u, .float z v],
    ⟨⟨_, Heap.get?_push_size _ rfl, rfl, rfl⟩, hT.push _⟩, fun c hc => ?_, by simp, fun a b va vb s' Q' E' ha hb hQ => ?_, fun r h' tk hP hk => ?_⟩
  · show c < ((s.heap.push _).push _).objs.size
    rw [Heap.size_push, hsz]
    rcases List.mem_cons.mp hc with rfl | hc
    · rw [hsz]; exact Nat.lt_succ_self _
    · rcases List.mem_cons.mp hc with rfl | hc
      · exact Nat.lt_succ_of_lt (Nat.lt_succ_self _)
      · cases hc
  · obtain ⟨b1, tk1, rfl, i1⟩ := items3 hx hy hz ha
    obtain ⟨b2, tk2, rfl, i2⟩ := items3 hx hy hz hb
    exact richGtF i1 i2 hQ
  · have hold : ∀ c o, s.heap.get? c = some o → h'.get? c = some o := fun c o e => by
      refine hk c o (fun hm => ?_) (Heap.get?_push_of_some _ (Heap.get?_push_of_some _ e))
      rcases List.mem_cons.mp hm with e1 | hm
      · have := Heap.lt_size e; rw [e1, hsz] at this; exact Nat.lt_irrefl _ (Nat.lt_of_succ_lt this)
      · cases hm
    obtain ⟨b, tk', rfl, hb⟩ := items3 hx hy hz hP
    have e : at3 j k l (argBest (fun a b => decide (at3 j k l b < at3 j k l a)) (#[Value.float x t, Value.float y u, Value.float z v].size - 1)) = mx := by
      show at3 j k l (argBest (fun a b => decide (at3 j k l b < at3 j k l a)) 2) = mx
      rw [← hm]
      by_cases q1 : j < k
      · by_cases q2 : k < l
        · simp [argBest, at3, q1, q2]; omega
        · simp [argBest, at3, q1, q2]; omega
      · by_cases q2 : j < l
        · simp [argBest, at3, q1, q2]; omega
        · simp [argBest, at3, q1, q2]; omega
    rw [e] at hb
    exact h b tk' h' tk hb (F.grownK hold) (N.grown hold)
theorem min3F (hh : A.handled = none) (hx : IsF x j) (hy : IsF y k) (hz : IsF z l) {mx : Int} (hm : min (min j k) l = mx) (F : Fr h₀ L s.heap m) (N : News h₀ L s.heap news)
    (h : ∀ r tr h' tk, IsF r mx → Fr h₀ L h' m → News h₀ L h' news → Q (.float r tr) { s with heap := h', toks := tk }) :
    wpAny (model prog w) A (call (.builtin "min") [.float x t, .float y u, .float z v]) Q E s := by
  have hT : (s.heap.push { cls := .type "tuple", data := .seq #[.float x t, .float y u, .float z v] }).IsTuple s.heap.objs.size #[.float x t, .float y u, .float z v] := ⟨_, Heap.get?_push_size _ rfl, rfl, 0, rfl⟩
  refine call_min_three (wpAny_pyIter_tuple hT ?_)
  have hsz : (s.heap.push { cls := .type "tuple", data := .seq #[.float x t, .float y u, .float z v] }).objs.size = s.heap.objs.size + 1 := Heap.size_push ..
  refine ⟨_, [_, s.heap.objs.size], [_], _, _, _, fun a b => decide (at3 j k l a < at3 j k l b), rfl, Walks.tuple (A := A.in1) hh _ s.heap.objs.size (by rw [hsz]; exact Nat.ne_of_lt (Nat.lt_succ_self _)) #[.float x t, .float y u, .float z v],
    ⟨⟨_, Heap.get?_push_size _ rfl, rfl, rfl⟩, hT.push _⟩, fun c hc => ?_, by simp, fun a b va vb s' Q' E' ha hb hQ => ?_, fun r h' tk hP hk => ?_⟩
  · show c < ((s.heap.push _).push _).objs.size
    rw [Heap.size_push, hsz]
    rcases List.mem_cons.mp hc with rfl | hc
    · rw [hsz]; exact Nat.lt_succ_self _
    · rcases List.mem_cons.mp hc with rfl | hc
      · exact Nat.lt_succ_of_lt (Nat.lt_succ_self _)
      · cases hc
  · obtain ⟨b1, tk1, rfl, i1⟩ := items3 hx hy hz ha
    obtain ⟨b2, tk2, rfl, i2⟩ := items3 hx hy hz hb
    exact richLtF i1 i2 hQ
  · have hold : ∀ c o, s.heap.get? c = some o → h'.get? c = some o := fun c o e => by
      refine hk c o (fun hm => ?_) (Heap.get?_push_of_some _ (Heap.get?_push_of_some _ e))
      rcases List.mem_cons.mp hm with e1 | hm
      · have := Heap.lt_size e; rw [e1, hsz] at this; exact Nat.lt_irrefl _ (Nat.lt_of_succ_lt this)
      · cases hm
    obtain ⟨b, tk', rfl, hb⟩ := items3 hx hy hz hP
    have e : at3 j k l (argBest (fun a b => decide (at3 j k l a < at3 j k l b)) (#[Value.float x t, Value.float y u, Value.float z v].size - 1)) = mx := by
      show at3 j k l (argBest (fun a b => decide (at3 j k l a < at3 j k l b)) 2) = mx
      rw [← hm]
      by_cases q1 : k < j
      · by_cases q2 : l < k
        · simp [argBest, at3, q1, q2]; omega
        · simp [argBest, at3, q1, q2]; omega
      · by_cases q2 : l < j
        · simp [argBest, at3, q1, q2]; omega
        · simp [argBest, at3, q1, q2]; omega
    rw [e] at hb
    exact h b tk' h' tk hb (F.grownK hold) (N.grown hold)
end
end Mine
end

section
open PySem PySem.W PyProof.Rows
set_option Elab.async false
set_option maxRecDepth 100000
set_option maxHeartbeats 8000000
namespace Mine
variable {w : World} {p : Program} {loose : List Str} {mean : ExcName → Option Value} {mg mb : Str → Option Value}


theorem IsF.cast {x : UInt64} {k l : Int} (h : IsF x k) (e : k = l) : IsF x l := e ▸ h
theorem mulb {a b A B : Int} (h1 : 0 ≤ a) (h2 : a ≤ A) (h3 : 0 ≤ b) (h4 : b ≤ B) : 0 ≤ a * b ∧ a * b ≤ A * B :=
  ⟨Int.mul_nonneg h1 h3, Int.mul_le_mul h2 h4 h3 (Int.le_trans h1 h2)⟩

noncomputable def Sext (H g1 g2 g3 : Int) : Prop :=
  (3 * H / 32 % 6 = 0 ∧ g1 = 0 ∧ g2 = 32 - 3 * H % 32 ∧ g3 = 32) ∨
  (3 * H / 32 % 6 = 1 ∧ g1 = 3 * H % 32 ∧ g2 = 0 ∧ g3 = 32) ∨
  (3 * H / 32 % 6 = 2 ∧ g1 = 32 ∧ g2 = 0 ∧ g3 = 32 - 3 * H % 32) ∨
  (3 * H / 32 % 6 = 3 ∧ g1 = 32 ∧ g2 = 3 * H % 32 ∧ g3 = 0) ∨
  (3 * H / 32 % 6 = 4 ∧ g1 = 32 - 3 * H % 32 ∧ g2 = 32 ∧ g3 = 0) ∨
  (3 * H / 32 % 6 = 5 ∧ g1 = 0 ∧ g2 = 32 ∧ g3 = 3 * H % 32)

theorem fm6 (I : Int) : I.fmod 6 = I % 6 := Int.fmod_eq_emod_of_nonneg _ (by decide)
theorem sext0 {H I G : Int} (hI : 3 * H / 32 = I) (hG : 3 * H % 32 = G) (h : I.fmod 6 = 0) : Sext H 0 (32 - G) 32 := by
  rw [fm6] at h; subst hI hG; exact .inl ⟨h, rfl, rfl, rfl⟩
theorem sext1 {H I G : Int} (hI : 3 * H / 32 = I) (hG : 3 * H % 32 = G) (h : I.fmod 6 = 1) : Sext H G 0 32 := by
  rw [fm6] at h; subst hI hG; exact .inr (.inl ⟨h, rfl, rfl, rfl⟩)
theorem sext2 {H I G : Int} (hI : 3 * H / 32 = I) (hG : 3 * H % 32 = G) (h : I.fmod 6 = 2) : Sext H 32 0 (32 - G) := by
  rw [fm6] at h; subst hI hG; exact .inr (.inr (.inl ⟨h, rfl, rfl, rfl⟩))
theorem sext3 {H I G : Int} (hI : 3 * H / 32 = I) (hG : 3 * H % 32 = G) (h : I.fmod 6 = 3) : Sext H 32 G 0 := by
  rw [fm6] at h; subst hI hG; exact .inr (.inr (.inr (.inl ⟨h, rfl, rfl, rfl⟩)))
theorem sext4 {H I G : Int} (hI : 3 * H / 32 = I) (hG : 3 * H % 32 = G) (h : I.fmod 6 = 4) : Sext H (32 - G) 32 0 := by
  rw [fm6] at h; subst hI hG; exact .inr (.inr (.inr (.inr (.inl ⟨h, rfl, rfl, rfl⟩))))
theorem sext5 {H I G : Int} (hI : 3 * H / 32 = I) (hG : 3 * H % 32 = G) (h : I.fmod 6 = 5) : Sext H 0 32 G := by
  rw [fm6] at h; subst hI hG; exact .inr (.inr (.inr (.inr (.inr ⟨h, rfl, rfl, rfl⟩))))
theorem no6 {I : Int} (h0 : I.fmod 6 ≠ 0) (h1 : I.fmod 6 ≠ 1) (h2 : I.fmod 6 ≠ 2) (h3 : I.fmod 6 ≠ 3) (h4 : I.fmod 6 ≠ 4) (h5 : I.fmod 6 ≠ 5) : False := by
  rw [fm6] at *; lia

theorem hG31 {x G : Int} (h : x % 32 = G) : 0 ≤ G ∧ G ≤ 31 := by lia
theorem hI17 {H I : Int} (h : 3 * H / 32 = I) (hH : 0 ≤ H ∧ H < 192) : -2 ^ 24 < I ∧ I < 2 ^ 24 := by lia
theorem a1H (H : Int) : (1024 * H) * 393216 = (6144 * H) * 65536 := by lia
theorem a2H {H I : Int} (h : 3 * H / 32 = I) : 6144 * H / 65536 = I := by lia
theorem a3H {H I G : Int} (hI : 3 * H / 32 = I) (hG : 3 * H % 32 = G) : 6144 * H - I * 65536 = 2048 * G := by lia
theorem a4S (S : Int) : 65536 - 16384 * S = 16384 * (4 - S) := by lia
theorem a5S (V S : Int) : (1024 * V) * (16384 * (4 - S)) = (8 * (V * (128 - S * 32))) * 65536 := by grind
theorem a6S (S G : Int) : (16384 * S) * (2048 * G) = (512 * (S * G)) * 65536 := by grind
theorem a7S (t : Int) : 65536 - 512 * t = 512 * (128 - t) := by lia
theorem a8S (V t : Int) : (1024 * V) * (512 * t) = (8 * (V * t)) * 65536 := by grind
theorem a9S (G : Int) : 65536 - 2048 * G = 2048 * (32 - G) := by lia
theorem sb {t B : Int} (h0 : 0 ≤ t) (h1 : t ≤ B) : 0 ≤ B - t ∧ B - t ≤ B := by lia
theorem d1S {S : Int} (h : 1 ≤ S) : 16384 * S ≠ 0 := by lia
theorem b10S {S : Int} (h : 1 ≤ S ∧ S ≤ 4) : -2 ^ 40 < 16384 * (4 - S) ∧ 16384 * (4 - S) < 2 ^ 40 := by lia
theorem z1S (V S : Int) : 8 * (V * (128 - S * 0)) = 1024 * V := by grind
theorem bd {c t B : Int} (h0 : 0 ≤ t) (h1 : t ≤ B) (hc : 0 ≤ c) (hb : c * B < 2 ^ 40) : -2 ^ 40 < c * t ∧ c * t < 2 ^ 40 :=
  ⟨Int.lt_of_lt_of_le (by decide) (Int.mul_nonneg hc h0), Int.lt_of_le_of_lt (Int.mul_le_mul_of_nonneg_left h1 hc) hb⟩
inductive TupP (news : Led) (P : UInt64 → UInt64 → UInt64 → Prop) : Value → Led → Prop
  | mk (a : Addr) (x y z : UInt64) (u1 u2 u3 : Tok) (hlt : ∀ q ∈ news, q.1 < a) (h : P x y z) : TupP news P (.ref a) ((a, tupO [.float x u1, .float y u2, .float z u3]) :: news)
inductive TriQ (a b c : Int) (x y z : UInt64) : Prop
  | mk (h1 : IsF x a) (h2 : IsF y b) (h3 : IsF z c) : TriQ a b c x y z
inductive HsvQ (H S V : Int) (x y z : UInt64) : Prop
  | mk (g1 g2 g3 : Int) (h1 : IsF x (8 * (V * (128 - S * g1)))) (h2 : IsF y (8 * (V * (128 - S * g2)))) (h3 : IsF z (8 * (V * (128 - S * g3)))) (sx : Sext H g1 g2 g3) : HsvQ H S V x y z
theorem hsv_con (x y z : UInt64) (H S V : Int) (t1 t2 t3 : Tok) (news : Led) (hx : IsF x (1024 * H)) (hy : IsF y (16384 * S)) (hz : IsF z (1024 * V))
    (hH : 0 ≤ H ∧ H < 192) (hS : 1 ≤ S ∧ S ≤ 4) (hV : 1 ≤ V ∧ V ≤ 64) :
    Con w p loose mean mg mb 63 [.float x t1, .float y t2, .float z t3] news 2 8 (TupP news (HsvQ H S V)) := by
  unfold Con
  k_fill
  intro dp un gd cn cs a ccd cl outer A₀ base h₀ L m s Q E B F X N T hk hd hu hret
  obtain ⟨I, hI⟩ : ∃ I, 3 * H / 32 = I := ⟨_, rfl⟩
  obtain ⟨G, hG⟩ : ∃ G, 3 * H % 32 = G := ⟨_, rfl⟩
  have hG0 : 0 ≤ G ∧ G ≤ 31 := hG31 hG
  have hI0 := hI17 hI hH
  have a1 : (1024 * H) * 393216 = (6144 * H) * 65536 := a1H H
  have a2 : 6144 * H / 65536 = I := a2H hI
  have a3 : 6144 * H - I * 65536 = 2048 * G := a3H hI hG
  have a4 : 65536 - 16384 * S = 16384 * (4 - S) := a4S S
  have a5 : (1024 * V) * (16384 * (4 - S)) = (8 * (V * (128 - S * 32))) * 65536 := a5S V S
  have a6 : (16384 * S) * (2048 * G) = (512 * (S * G)) * 65536 := a6S S G
  have a7 : 65536 - 512 * (S * G) = 512 * (128 - S * G) := a7S _
  have a8 : (1024 * V) * (512 * (128 - S * G)) = (8 * (V * (128 - S * G))) * 65536 := a8S _ _
  have a9 : 65536 - 2048 * G = 2048 * (32 - G) := a9S _
  have b1 : (16384 * S) * (2048 * (32 - G)) = (512 * (S * (32 - G))) * 65536 := a6S _ _
  have b2 : 65536 - 512 * (S * (32 - G)) = 512 * (128 - S * (32 - G)) := a7S _
  have b3 : (1024 * V) * (512 * (128 - S * (32 - G))) = (8 * (V * (128 - S * (32 - G)))) * 65536 := a8S _ _
  have f0' := Int.le_trans (show (0 : Int) ≤ 1 by decide) hS.1
  have fV := Int.le_trans (show (0 : Int) ≤ 1 by decide) hV.1
  have cg := sb (B := 32) hG0.1 (Int.le_trans hG0.2 (by decide))
  have c1 := mulb f0' hS.2 hG0.1 hG0.2
  have c2 := mulb f0' hS.2 cg.1 cg.2
  have c6 := sb (B := 128) c1.1 (Int.le_trans c1.2 (by decide))
  have c7 := sb (B := 128) c2.1 c2.2
  have c8 := sb (B := 128) (mulb f0' hS.2 (show (0 : Int) ≤ 32 by decide) (Int.le_refl 32)).1 (mulb f0' hS.2 (show (0 : Int) ≤ 32 by decide) (Int.le_refl 32)).2
  have c3 := mulb fV hV.2 c6.1 c6.2
  have c4 := mulb fV hV.2 c7.1 c7.2
  have c5 := mulb fV hV.2 c8.1 c8.2
  have d1 : 16384 * S ≠ 0 := d1S hS.1
  have B1 := bd (c := 8) c3.1 c3.2 (by decide) (by decide)
  have B2 := bd (c := 8) c5.1 c5.2 (by decide) (by decide)
  have B3 := bd (c := 8) c4.1 c4.2 (by decide) (by decide)
  have B4 := bd (c := 512) c1.1 c1.2 (by decide) (by decide)
  have B5 := bd (c := 512) c2.1 c2.2 (by decide) (by decide)
  have B6 := bd (c := 512) c6.1 c6.2 (by decide) (by decide)
  have B7 := bd (c := 512) c7.1 c7.2 (by decide) (by decide)
  have B8 := bd (c := 2048) hG0.1 hG0.2 (by decide) (by decide)
  have B9 := bd (c := 2048) cg.1 cg.2 (by decide) (by decide)
  have B10 : -2 ^ 40 < 16384 * (4 - S) ∧ 16384 * (4 - S) < 2 ^ 40 := b10S hS
  have B11 := bd (c := 6144) hH.1 (Int.le_of_lt hH.2) (by decide) (by decide)
  have B12 := Int.mul_nonneg (show (0 : Int) ≤ 6144 by decide) hH.1
  have g1' : 8 * (V * (128 - S * 0)) = 1024 * V := z1S V S
  refine wpAny_call ?_
  k_dflt cell_enter
  w_on
  w_top off
  (try (rename Fr _ _ _ _ => F0z; revert F0z; show (let mKz := ?_; (Fr _ _ _ mKz → _)); intro mKz F0z))
  (try (show (let aKz := ?_; wpAny _ aKz _ _ _ _); intro aKz))
  w_strict (repeat' (first
    | (k_unfold; (try dsimp only))
    | ((with_reducible show wpAny _ _ (exec _ _) _ _ _); k_fold; (try (rename Fr _ _ _ _ => F0z; revert F0z; show (let mKz := ?_; (Fr _ _ _ mKz → _)); intro mKz F0z)); (try (refine anyTok fun _ => ?_)); (try dsimp only)) 
    | ((with_reducible show wpAny _ _ (call (Value.type _) _ _) _ _ _); (with_reducible ((refine intF (by (first | with_reducible assumption | exact f1 | exact f0 | exact f2 | exact f4 | exact f6)) (by first | with_reducible assumption | lia) (by with_reducible assumption) ?_; intro _; try dsimp only))))
    | ((with_reducible show wpAny _ _ (compareOp CmpOp.Eq (Value.float _ _) (Value.float _ _)) _ _ _); (with_reducible (first | (refine eqF_t (by (first | with_reducible assumption | exact f1 | exact f0 | exact f2 | exact f4 | exact f6)) (by (first | with_reducible assumption | exact f1 | exact f0 | exact f2 | exact f4 | exact f6)) (by with_reducible assumption) ?_) | (refine eqF_f (by (first | with_reducible assumption | exact f1 | exact f0 | exact f2 | exact f4 | exact f6)) (by (first | with_reducible assumption | exact f1 | exact f0 | exact f2 | exact f4 | exact f6)) (by with_reducible assumption) ?_))))
    | ((with_reducible show wpAny _ _ (binaryOp Operator.Sub (Value.float _ _) (Value.int _ _)) _ _ _); (with_reducible ((refine subFI (by (first | with_reducible assumption | exact f1 | exact f0 | exact f2 | exact f4 | exact f6)) (by with_reducible assumption) (by first | with_reducible assumption | lia) (by first | with_reducible assumption | lia) ?_; intro _ _ _; try dsimp only))))
    | ((with_reducible show wpAny _ _ (binaryOp Operator.Mult (Value.float _ _) (Value.float _ _)) _ _ _); (with_reducible ((refine mulF (by (first | with_reducible assumption | exact f1 | exact f0 | exact f2 | exact f4 | exact f6)) (by (first | with_reducible assumption | exact f1 | exact f0 | exact f2 | exact f4 | exact f6)) (by with_reducible assumption) (by first | with_reducible assumption | lia) ?_; intro _ _ _; try dsimp only))))
    | ((with_reducible show wpAny _ _ (binaryOp Operator.Sub (Value.float _ _) (Value.float _ _)) _ _ _); (with_reducible ((refine subF (by (first | with_reducible assumption | exact f1 | exact f0 | exact f2 | exact f4 | exact f6)) (by (first | with_reducible assumption | exact f1 | exact f0 | exact f2 | exact f4 | exact f6)) (by with_reducible assumption) (by first | with_reducible assumption | lia) ?_; intro _ _ _; try dsimp only))))
    | (k_end; wrow_close)
    | walk1
    | (leave1; (try dsimp only))
    | dsimp only))
  · exact hret _ _ _ _ (by k_asm) (by k_asm) (.mk _ _ _ _ _ _ _ (by assumption) (.mk (0) (32 - G) (32) (IsF.cast (by assumption) g1'.symm) (by assumption) (by assumption) (sext0 hI hG (by assumption))))
  · exact hret _ _ _ _ (by k_asm) (by k_asm) (.mk _ _ _ _ _ _ _ (by assumption) (.mk (G) (0) (32) (by assumption) (IsF.cast (by assumption) g1'.symm) (by assumption) (sext1 hI hG (by assumption))))
  · exact hret _ _ _ _ (by k_asm) (by k_asm) (.mk _ _ _ _ _ _ _ (by assumption) (.mk (32) (0) (32 - G) (by assumption) (IsF.cast (by assumption) g1'.symm) (by assumption) (sext2 hI hG (by assumption))))
  · exact hret _ _ _ _ (by k_asm) (by k_asm) (.mk _ _ _ _ _ _ _ (by assumption) (.mk (32) (G) (0) (by assumption) (by assumption) (IsF.cast (by assumption) g1'.symm) (sext3 hI hG (by assumption))))
  · exact hret _ _ _ _ (by k_asm) (by k_asm) (.mk _ _ _ _ _ _ _ (by assumption) (.mk (32 - G) (32) (0) (by assumption) (by assumption) (IsF.cast (by assumption) g1'.symm) (sext4 hI hG (by assumption))))
  · exact hret _ _ _ _ (by k_asm) (by k_asm) (.mk _ _ _ _ _ _ _ (by assumption) (.mk (0) (32) (G) (IsF.cast (by assumption) g1'.symm) (by assumption) (by assumption) (sext5 hI hG (by assumption))))
  · exact (no6 (I := I) (by assumption) (by assumption) (by assumption) (by assumption) (by assumption) (by assumption)).elim

theorem max3_eq {a b c M x y z : Int} (ea : a = M - x) (eb : b = M - y) (ec : c = M - z) (hx : 0 ≤ x) (hy : 0 ≤ y) (hz : 0 ≤ z) (h : x = 0 ∨ y = 0 ∨ z = 0) : max (max a b) c = M := by
  have ha : a ≤ M := by clear eb ec hy hz h; lia
  have hb : b ≤ M := by clear ea ec hx hz h; lia
  have hc : c ≤ M := by clear ea eb hx hy h; lia
  refine Int.le_antisymm (Int.max_le.mpr ⟨Int.max_le.mpr ⟨ha, hb⟩, hc⟩) ?_
  rcases h with h | h | h
  · exact Int.le_trans (show M ≤ a by clear eb ec hx hy hz hb hc; lia) (Int.le_trans (Int.le_max_left ..) (Int.le_max_left ..))
  · exact Int.le_trans (show M ≤ b by clear ea ec hx hy hz ha hc; lia) (Int.le_trans (Int.le_max_right ..) (Int.le_max_left ..))
  · exact Int.le_trans (show M ≤ c by clear ea eb hx hy hz ha hb; lia) (Int.le_max_right ..)
theorem min3_eq {a b c M N x y z : Int} (ea : a = M - x) (eb : b = M - y) (ec : c = M - z) (hx : x ≤ N) (hy : y ≤ N) (hz : z ≤ N) (h : x = N ∨ y = N ∨ z = N) : min (min a b) c = M - N := by
  have ha : M - N ≤ a := by clear eb ec hy hz h; lia
  have hb : M - N ≤ b := by clear ea ec hx hz h; lia
  have hc : M - N ≤ c := by clear ea eb hx hy h; lia
  refine Int.le_antisymm ?_ (Int.le_min.mpr ⟨Int.le_min.mpr ⟨ha, hb⟩, hc⟩)
  rcases h with h | h | h
  · exact Int.le_trans (Int.le_trans (Int.min_le_left ..) (Int.min_le_left ..)) (show a ≤ M - N by clear eb ec hx hy hz hb hc; lia)
  · exact Int.le_trans (Int.le_trans (Int.min_le_left ..) (Int.min_le_right ..)) (show b ≤ M - N by clear ea ec hx hy hz ha hc; lia)
  · exact Int.le_trans (Int.min_le_right ..) (show c ≤ M - N by clear ea eb hx hy hz ha hb; lia)
theorem e8 {V S g : Int} (e : V * (128 - S * g) = 128 * V - V * (S * g)) : 8 * (V * (128 - S * g)) = 1024 * V - 8 * (V * (S * g)) := by lia
theorem le8 {V S g : Int} (q : V * (S * g) ≤ 32 * (V * S)) : 8 * (V * (S * g)) ≤ 256 * (V * S) := by lia
theorem eq8 {V S g : Int} (q : V * (S * g) = 32 * (V * S)) : 8 * (V * (S * g)) = 256 * (V * S) := by lia
theorem nn8 {a b : Int} (q : 0 ≤ a ∧ a ≤ b) : 0 ≤ 8 * a := by lia
theorem z8 {a : Int} (q : a = 0) : 8 * a = 0 := by rw [q]; rfl
theorem r8e (V S g : Int) : V * (128 - S * g) = 128 * V - V * (S * g) := by grind
theorem r8p {V S g : Int} (h : g = 0) : V * (S * g) = 0 := by rw [h, Int.mul_zero, Int.mul_zero]
theorem r8n {V S g : Int} (h : g = 32) : V * (S * g) = 32 * (V * S) := by rw [h]; grind
theorem r8q {V S g : Int} (c : 0 ≤ V * S) (h : g ≤ 32) : V * (S * g) ≤ 32 * (V * S) := by rw [← Int.mul_assoc, Int.mul_comm 32]; exact Int.mul_le_mul_of_nonneg_left h c
theorem r8r {V S g : Int} (hV : 1 ≤ V) (hS : 1 ≤ S) (h : g ≠ 0) : V * (S * g) ≠ 0 := Int.mul_ne_zero (by lia) (Int.mul_ne_zero (by lia) h)
theorem sub_sub_self8 (a b : Int) : a - (a - b) = b := by lia
theorem m4S (V S : Int) : (16384 * S) * (1024 * V) = (256 * (V * S)) * 65536 := by grind
theorem m5S {V t : Int} (h : 1 ≤ t) : 1024 * V - 256 * t ≠ 1024 * V := by lia
theorem s8 {V S g : Int} (e : V * (128 - S * g) = 128 * V - V * (S * g)) : 1024 * V - 8 * (V * (128 - S * g)) = 8 * (V * (S * g)) := by
  rw [e]; generalize V * (S * g) = t; lia
theorem w8 (V S g : Int) : (2048 * g) * (256 * (V * S)) = (8 * (V * (S * g))) * 65536 := by grind
theorem k1S {t : Int} (h : 1 ≤ t) : 256 * t ≠ 0 := by lia
theorem k2S {t : Int} (h : 1 ≤ t) : 1024 * t ≠ 0 := by lia
theorem z1d (d : Int) : (1024 * d) * 393216 = (2048 * (3 * d)) * 65536 := by lia
theorem z2d (d : Int) : (1024 * d) % 65536 = 1024 * (d % 64) := by lia
theorem hdb8 {g1 g2 g3 d : Int} (h1 : 0 ≤ g1 ∧ g1 ≤ 32) (h2 : 0 ≤ g2 ∧ g2 ≤ 32) (h3 : 0 ≤ g3 ∧ g3 ≤ 32) (hd1 : g1 = 0 → g3 - g2 = 3 * d) (hd2 : g1 ≠ 0 → g2 = 0 → 64 + g1 - g3 = 3 * d) (hd3 : g1 ≠ 0 → g2 ≠ 0 → 128 + g2 - g1 = 3 * d) : -33 ≤ d ∧ d ≤ 80 := by
  by_cases a : g1 = 0
  · have := hd1 a; clear hd1 hd2 hd3; lia
  · by_cases b : g2 = 0
    · have := hd2 a b; clear hd1 hd2 hd3; lia
    · have := hd3 a b; clear hd1 hd2 hd3; lia
theorem bdd {d : Int} (h : -33 ≤ d ∧ d ≤ 80) : (-2 ^ 40 < 1024 * d ∧ 1024 * d < 2 ^ 40) ∧ (-2 ^ 40 < 2048 * (3 * d) ∧ 2048 * (3 * d) < 2 ^ 40) := by lia
theorem bdg {g k : Int} (h : 0 ≤ g ∧ g ≤ 32) (hk : 0 ≤ k) (hk2 : k ≤ 128) : -2 ^ 40 < 2048 * (k + g) ∧ 2048 * (k + g) < 2 ^ 40 := by lia
theorem v8e {V S g : Int} (e : V * (128 - S * g) = 128 * V - V * (S * g)) (q : V * (S * g) = 0) : 8 * (V * (128 - S * g)) = 1024 * V := by rw [e, q]; lia
theorem v8n {V S g : Int} (e : V * (128 - S * g) = 128 * V - V * (S * g)) (q : V * (S * g) ≠ 0) : 8 * (V * (128 - S * g)) ≠ 1024 * V := by
  rw [e]; generalize V * (S * g) = t at *; lia
theorem v3g {a b d : Int} (h : a - b = 3 * d) : 2048 * a - 2048 * b = 2048 * (3 * d) := by lia
theorem v3k (k g : Int) : 2048 * k + 2048 * g = 2048 * (k + g) := by lia
theorem rgb_con (x y z : UInt64) (V S g1 g2 g3 d : Int) (t1 t2 t3 : Tok) (news : Led) (hx : IsF x (8 * (V * (128 - S * g1)))) (hy : IsF y (8 * (V * (128 - S * g2)))) (hz : IsF z (8 * (V * (128 - S * g3))))
    (hS : 1 ≤ S ∧ S ≤ 4) (hV : 1 ≤ V ∧ V ≤ 64) (h1 : 0 ≤ g1 ∧ g1 ≤ 32) (h2 : 0 ≤ g2 ∧ g2 ≤ 32) (h3 : 0 ≤ g3 ∧ g3 ≤ 32) (hmin : g1 = 0 ∨ g2 = 0 ∨ g3 = 0) (hmax : g1 = 32 ∨ g2 = 32 ∨ g3 = 32)
    (hd1 : g1 = 0 → g3 - g2 = 3 * d) (hd2 : g1 ≠ 0 → g2 = 0 → 64 + g1 - g3 = 3 * d) (hd3 : g1 ≠ 0 → g2 ≠ 0 → 128 + g2 - g1 = 3 * d) :
    Con w p loose mean mg mb 56 [.float x t1, .float y t2, .float z t3] news 2 8 (TupP news (TriQ (1024 * (d % 64)) (16384 * S) (1024 * V))) := by
  have fS := Int.le_trans (show (0 : Int) ≤ 1 by decide) hS.1
  have fV := Int.le_trans (show (0 : Int) ≤ 1 by decide) hV.1
  have c0 := mulb fV hV.2 fS hS.2
  have c1 := mulb fS hS.2 h1.1 h1.2
  have c2 := mulb fS hS.2 h2.1 h2.2
  have c3 := mulb fS hS.2 h3.1 h3.2
  have c4 := mulb fV hV.2 c1.1 c1.2
  have c5 := mulb fV hV.2 c2.1 c2.2
  have c6 := mulb fV hV.2 c3.1 c3.2
  have c7 : 1 ≤ V * S := Int.mul_pos hV.1 hS.1
  have c70 := Int.le_trans (show (0 : Int) ≤ 1 by decide) c7
  have m1 : max (max (8 * (V * (128 - S * g1))) (8 * (V * (128 - S * g2)))) (8 * (V * (128 - S * g3))) = 1024 * V := max3_eq (e8 (r8e V S g1)) (e8 (r8e V S g2)) (e8 (r8e V S g3)) (nn8 c4) (nn8 c5) (nn8 c6) (hmin.elim (fun h => .inl (z8 (r8p h))) fun h => h.elim (fun h => .inr (.inl (z8 (r8p h)))) fun h => .inr (.inr (z8 (r8p h))))
  have m2 : min (min (8 * (V * (128 - S * g1))) (8 * (V * (128 - S * g2)))) (8 * (V * (128 - S * g3))) = 1024 * V - 256 * (V * S) := min3_eq (e8 (r8e V S g1)) (e8 (r8e V S g2)) (e8 (r8e V S g3)) (le8 (r8q c70 h1.2)) (le8 (r8q c70 h2.2)) (le8 (r8q c70 h3.2)) (hmax.elim (fun h => .inl (eq8 (r8n h))) fun h => h.elim (fun h => .inr (.inl (eq8 (r8n h)))) fun h => .inr (.inr (eq8 (r8n h))))
  have m3 : 1024 * V - (1024 * V - 256 * (V * S)) = 256 * (V * S) := sub_sub_self8 _ _
  have m4 : (16384 * S) * (1024 * V) = (256 * (V * S)) * 65536 := m4S V S
  have m5 : 1024 * V - 256 * (V * S) ≠ 1024 * V := m5S c7
  have s1 : 1024 * V - 8 * (V * (128 - S * g1)) = 8 * (V * (S * g1)) := s8 (r8e V S g1)
  have s2 : 1024 * V - 8 * (V * (128 - S * g2)) = 8 * (V * (S * g2)) := s8 (r8e V S g2)
  have s3 : 1024 * V - 8 * (V * (128 - S * g3)) = 8 * (V * (S * g3)) := s8 (r8e V S g3)
  have w1 : (2048 * g1) * (256 * (V * S)) = (8 * (V * (S * g1))) * 65536 := w8 V S g1
  have w2 : (2048 * g2) * (256 * (V * S)) = (8 * (V * (S * g2))) * 65536 := w8 V S g2
  have w3 : (2048 * g3) * (256 * (V * S)) = (8 * (V * (S * g3))) * 65536 := w8 V S g3
  have k1 : 256 * (V * S) ≠ 0 := k1S c7
  have k2 : 1024 * V ≠ 0 := k2S hV.1
  have k3 : (393216 : Int) ≠ 0 := by decide
  have z1 : (1024 * d) * 393216 = (2048 * (3 * d)) * 65536 := z1d d
  have z2 : (1024 * d) % 65536 = 1024 * (d % 64) := z2d d
  have hdb := hdb8 h1 h2 h3 hd1 hd2 hd3
  have B1 := bd (c := 8) c4.1 c4.2 (by decide) (by decide)
  have B2 := bd (c := 8) c5.1 c5.2 (by decide) (by decide)
  have B3 := bd (c := 8) c6.1 c6.2 (by decide) (by decide)
  have B4 := bd (c := 256) c0.1 c0.2 (by decide) (by decide)
  have B5 := bd (c := 2048) h1.1 h1.2 (by decide) (by decide)
  have B6 := bd (c := 2048) h2.1 h2.2 (by decide) (by decide)
  have B7 := bd (c := 2048) h3.1 h3.2 (by decide) (by decide)
  have B8 := bd (c := 16384) fS hS.2 (by decide) (by decide)
  have B9 := (bdd hdb).1
  have B10 := (bdd hdb).2
  have B11 : -2 ^ 40 < 2048 * (64 + g1) ∧ 2048 * (64 + g1) < 2 ^ 40 := bdg (k := 64) h1 (by decide) (by decide)
  have B12 : -2 ^ 40 < 2048 * (128 + g2) ∧ 2048 * (128 + g2) < 2 ^ 40 := bdg (k := 128) h2 (by decide) (by decide)
  clear c0 c1 c2 c3 c4 c5 c6 c7 c70 fS fV hdb
  unfold Con
  k_fill
  intro dp un gd cn cs a ccd cl outer A₀ base h₀ L m s Q E B F X N T hk hd hu hret
  refine wpAny_call ?_
  k_dflt cell_enter
  w_on
  w_top off
  (try (rename Fr _ _ _ _ => F0z; revert F0z; show (let mKz := ?_; (Fr _ _ _ mKz → _)); intro mKz F0z))
  (try (show (let aKz := ?_; wpAny _ aKz _ _ _ _); intro aKz))
  w_strict (repeat' (first
    | (k_unfold; (try dsimp only))
    | ((with_reducible show wpAny _ _ (exec _ _) _ _ _); k_fold; (try (rename Fr _ _ _ _ => F0z; revert F0z; show (let mKz := ?_; (Fr _ _ _ mKz → _)); intro mKz F0z)); (try (refine anyTok fun _ => ?_)); (try dsimp only))
    | ((with_reducible show wpAny _ _ (exec (Stmt.If (Expr.Compare (Expr.Name (Str.ofString "r") _) _ _ _) _ _ _) _) _ _ _); with_reducible refine unstop ?_)
    | ((with_reducible show wpAny _ _ (call (Value.builtin _) _ _) _ _ _); (with_reducible ((refine min3F rfl (by (first | with_reducible assumption | exact f1 | exact f0 | exact f2 | exact f4 | exact f6)) (by (first | with_reducible assumption | exact f1 | exact f0 | exact f2 | exact f4 | exact f6)) (by (first | with_reducible assumption | exact f1 | exact f0 | exact f2 | exact f4 | exact f6)) (by with_reducible assumption) (by k_asm) (by k_asm) ?_; intro _ _ _ _ _ _ _; try dsimp only))))
    | ((with_reducible show wpAny _ _ (call (Value.builtin _) _ _) _ _ _); (with_reducible ((refine max3F rfl (by (first | with_reducible assumption | exact f1 | exact f0 | exact f2 | exact f4 | exact f6)) (by (first | with_reducible assumption | exact f1 | exact f0 | exact f2 | exact f4 | exact f6)) (by (first | with_reducible assumption | exact f1 | exact f0 | exact f2 | exact f4 | exact f6)) (by with_reducible assumption) (by k_asm) (by k_asm) ?_; intro _ _ _ _ _ _ _; try dsimp only))))
    | ((with_reducible show wpAny _ _ (binaryOp Operator.Div (Value.float _ _) (Value.float _ _)) _ _ _); (with_reducible ((refine divF (by (first | with_reducible assumption | exact f1 | exact f0 | exact f2 | exact f4 | exact f6)) (by (first | with_reducible assumption | exact f1 | exact f0 | exact f2 | exact f4 | exact f6)) (by with_reducible assumption) (by with_reducible assumption) (by first | with_reducible assumption | lia) ?_; intro _ _ _; try dsimp only))))
    | ((with_reducible show wpAny _ _ (compareOp CmpOp.Eq (Value.float _ _) (Value.float _ _)) _ _ _); (with_reducible (first | (refine eqF_t (by (first | with_reducible assumption | exact f1 | exact f0 | exact f2 | exact f4 | exact f6)) (by (first | with_reducible assumption | exact f1 | exact f0 | exact f2 | exact f4 | exact f6)) (by with_reducible assumption) ?_) | (refine eqF_f (by (first | with_reducible assumption | exact f1 | exact f0 | exact f2 | exact f4 | exact f6)) (by (first | with_reducible assumption | exact f1 | exact f0 | exact f2 | exact f4 | exact f6)) (by with_reducible assumption) ?_))))
    | ((with_reducible show wpAny _ _ (binaryOp Operator.Sub (Value.float _ _) (Value.float _ _)) _ _ _); (with_reducible ((refine subF (by (first | with_reducible assumption | exact f1 | exact f0 | exact f2 | exact f4 | exact f6)) (by (first | with_reducible assumption | exact f1 | exact f0 | exact f2 | exact f4 | exact f6)) (by with_reducible assumption) (by first | with_reducible assumption | lia) ?_; intro _ _ _; try dsimp only))))
    | (k_end; wrow_close)
    | walk1
    | (leave1; (try dsimp only))
    | dsimp only))
  delta Stop
  by_cases u1 : g1 = 0
  · have v1 : 8 * (V * (128 - S * g1)) = 1024 * V := v8e (r8e V S g1) (r8p u1)
    have v2 : 2048 * g3 - 2048 * g2 = 2048 * (3 * d) := v3g (hd1 u1)
    clear hd1 hd2 hd3 hmin hmax
    w_strict (repeat' (first
      | (k_unfold; (try dsimp only))
      | ((with_reducible show wpAny _ _ (exec _ _) _ _ _); k_fold; (try (rename Fr _ _ _ _ => F0z; revert F0z; show (let mKz := ?_; (Fr _ _ _ mKz → _)); intro mKz F0z)); (try (refine anyTok fun _ => ?_)); (try dsimp only))
      | ((with_reducible show wpAny _ _ (binaryOp Operator.Mod (Value.float _ _) (Value.float _ _)) _ _ _); (with_reducible ((refine modF (by (first | with_reducible assumption | exact f1 | exact f0 | exact f2 | exact f4 | exact f6)) (by with_reducible assumption) ?_; intro _ _ _; try dsimp only))))
      | ((with_reducible show wpAny _ _ (binaryOp Operator.Div (Value.float _ _) (Value.float _ _)) _ _ _); (with_reducible ((refine divF (by (first | with_reducible assumption | exact f1 | exact f0 | exact f2 | exact f4 | exact f6)) (by (first | with_reducible assumption | exact f1 | exact f0 | exact f2 | exact f4 | exact f6)) (by with_reducible assumption) (by with_reducible assumption) (by first | with_reducible assumption | lia) ?_; intro _ _ _; try dsimp only))))
      | ((with_reducible show wpAny _ _ (compareOp CmpOp.Eq (Value.float _ _) (Value.float _ _)) _ _ _); (with_reducible (first | (refine eqF_t (by (first | with_reducible assumption | exact f1 | exact f0 | exact f2 | exact f4 | exact f6)) (by (first | with_reducible assumption | exact f1 | exact f0 | exact f2 | exact f4 | exact f6)) (by with_reducible assumption) ?_) | (refine eqF_f (by (first | with_reducible assumption | exact f1 | exact f0 | exact f2 | exact f4 | exact f6)) (by (first | with_reducible assumption | exact f1 | exact f0 | exact f2 | exact f4 | exact f6)) (by with_reducible assumption) ?_))))
      | ((with_reducible show wpAny _ _ (binaryOp Operator.Sub (Value.float _ _) (Value.float _ _)) _ _ _); (with_reducible ((refine subF (by (first | with_reducible assumption | exact f1 | exact f0 | exact f2 | exact f4 | exact f6)) (by (first | with_reducible assumption | exact f1 | exact f0 | exact f2 | exact f4 | exact f6)) (by with_reducible assumption) (by first | with_reducible assumption | lia) ?_; intro _ _ _; try dsimp only))))
      | ((with_reducible show wpAny _ _ (binaryOp Operator.Add (Value.float _ _) (Value.float _ _)) _ _ _); (with_reducible ((refine addF (by (first | with_reducible assumption | exact f1 | exact f0 | exact f2 | exact f4 | exact f6)) (by (first | with_reducible assumption | exact f1 | exact f0 | exact f2 | exact f4 | exact f6)) (by with_reducible assumption) (by first | with_reducible assumption | lia) ?_; intro _ _ _; try dsimp only))))
      | (k_end; wrow_close)
      | walk1
      | (leave1; (try dsimp only))
      | dsimp only))
    all_goals exact hret _ _ _ _ (by k_asm) (by k_asm) (.mk _ _ _ _ _ _ _ (by assumption) (.mk (by assumption) (by assumption) (by assumption)))
  · have v1 : 8 * (V * (128 - S * g1)) ≠ 1024 * V := v8n (r8e V S g1) (r8r hV.1 hS.1 u1)
    by_cases u2 : g2 = 0
    · have v2 : 8 * (V * (128 - S * g2)) = 1024 * V := v8e (r8e V S g2) (r8p u2)
      have v3 : 131072 + 2048 * g1 = 2048 * (64 + g1) := v3k 64 g1
      have v4 : 2048 * (64 + g1) - 2048 * g3 = 2048 * (3 * d) := v3g (hd2 u1 u2)
      clear hd1 hd2 hd3 hmin hmax
      w_strict (repeat' (first
        | (k_unfold; (try dsimp only))
        | ((with_reducible show wpAny _ _ (exec _ _) _ _ _); k_fold; (try (rename Fr _ _ _ _ => F0z; revert F0z; show (let mKz := ?_; (Fr _ _ _ mKz → _)); intro mKz F0z)); (try (refine anyTok fun _ => ?_)); (try dsimp only))
        | ((with_reducible show wpAny _ _ (binaryOp Operator.Mod (Value.float _ _) (Value.float _ _)) _ _ _); (with_reducible ((refine modF (by (first | with_reducible assumption | exact f1 | exact f0 | exact f2 | exact f4 | exact f6)) (by with_reducible assumption) ?_; intro _ _ _; try dsimp only))))
        | ((with_reducible show wpAny _ _ (binaryOp Operator.Div (Value.float _ _) (Value.float _ _)) _ _ _); (with_reducible ((refine divF (by (first | with_reducible assumption | exact f1 | exact f0 | exact f2 | exact f4 | exact f6)) (by (first | with_reducible assumption | exact f1 | exact f0 | exact f2 | exact f4 | exact f6)) (by with_reducible assumption) (by with_reducible assumption) (by first | with_reducible assumption | lia) ?_; intro _ _ _; try dsimp only))))
        | ((with_reducible show wpAny _ _ (compareOp CmpOp.Eq (Value.float _ _) (Value.float _ _)) _ _ _); (with_reducible (first | (refine eqF_t (by (first | with_reducible assumption | exact f1 | exact f0 | exact f2 | exact f4 | exact f6)) (by (first | with_reducible assumption | exact f1 | exact f0 | exact f2 | exact f4 | exact f6)) (by with_reducible assumption) ?_) | (refine eqF_f (by (first | with_reducible assumption | exact f1 | exact f0 | exact f2 | exact f4 | exact f6)) (by (first | with_reducible assumption | exact f1 | exact f0 | exact f2 | exact f4 | exact f6)) (by with_reducible assumption) ?_))))
        | ((with_reducible show wpAny _ _ (binaryOp Operator.Sub (Value.float _ _) (Value.float _ _)) _ _ _); (with_reducible ((refine subF (by (first | with_reducible assumption | exact f1 | exact f0 | exact f2 | exact f4 | exact f6)) (by (first | with_reducible assumption | exact f1 | exact f0 | exact f2 | exact f4 | exact f6)) (by with_reducible assumption) (by first | with_reducible assumption | lia) ?_; intro _ _ _; try dsimp only))))
        | ((with_reducible show wpAny _ _ (binaryOp Operator.Add (Value.float _ _) (Value.float _ _)) _ _ _); (with_reducible ((refine addF (by (first | with_reducible assumption | exact f1 | exact f0 | exact f2 | exact f4 | exact f6)) (by (first | with_reducible assumption | exact f1 | exact f0 | exact f2 | exact f4 | exact f6)) (by with_reducible assumption) (by first | with_reducible assumption | lia) ?_; intro _ _ _; try dsimp only))))
        | (k_end; wrow_close)
        | walk1
        | (leave1; (try dsimp only))
        | dsimp only))
      all_goals exact hret _ _ _ _ (by k_asm) (by k_asm) (.mk _ _ _ _ _ _ _ (by assumption) (.mk (by assumption) (by assumption) (by assumption)))
    · have v2 : 8 * (V * (128 - S * g2)) ≠ 1024 * V := v8n (r8e V S g2) (r8r hV.1 hS.1 u2)
      have v3 : 262144 + 2048 * g2 = 2048 * (128 + g2) := v3k 128 g2
      have v4 : 2048 * (128 + g2) - 2048 * g1 = 2048 * (3 * d) := v3g (hd3 u1 u2)
      clear hd1 hd2 hd3 hmin hmax
      w_strict (repeat' (first
        | (k_unfold; (try dsimp only))
        | ((with_reducible show wpAny _ _ (exec _ _) _ _ _); k_fold; (try (rename Fr _ _ _ _ => F0z; revert F0z; show (let mKz := ?_; (Fr _ _ _ mKz → _)); intro mKz F0z)); (try (refine anyTok fun _ => ?_)); (try dsimp only))
        | ((with_reducible show wpAny _ _ (binaryOp Operator.Mod (Value.float _ _) (Value.float _ _)) _ _ _); (with_reducible ((refine modF (by (first | with_reducible assumption | exact f1 | exact f0 | exact f2 | exact f4 | exact f6)) (by with_reducible assumption) ?_; intro _ _ _; try dsimp only))))
        | ((with_reducible show wpAny _ _ (binaryOp Operator.Div (Value.float _ _) (Value.float _ _)) _ _ _); (with_reducible ((refine divF (by (first | with_reducible assumption | exact f1 | exact f0 | exact f2 | exact f4 | exact f6)) (by (first | with_reducible assumption | exact f1 | exact f0 | exact f2 | exact f4 | exact f6)) (by with_reducible assumption) (by with_reducible assumption) (by first | with_reducible assumption | lia) ?_; intro _ _ _; try dsimp only))))
        | ((with_reducible show wpAny _ _ (compareOp CmpOp.Eq (Value.float _ _) (Value.float _ _)) _ _ _); (with_reducible (first | (refine eqF_t (by (first | with_reducible assumption | exact f1 | exact f0 | exact f2 | exact f4 | exact f6)) (by (first | with_reducible assumption | exact f1 | exact f0 | exact f2 | exact f4 | exact f6)) (by with_reducible assumption) ?_) | (refine eqF_f (by (first | with_reducible assumption | exact f1 | exact f0 | exact f2 | exact f4 | exact f6)) (by (first | with_reducible assumption | exact f1 | exact f0 | exact f2 | exact f4 | exact f6)) (by with_reducible assumption) ?_))))
        | ((with_reducible show wpAny _ _ (binaryOp Operator.Sub (Value.float _ _) (Value.float _ _)) _ _ _); (with_reducible ((refine subF (by (first | with_reducible assumption | exact f1 | exact f0 | exact f2 | exact f4 | exact f6)) (by (first | with_reducible assumption | exact f1 | exact f0 | exact f2 | exact f4 | exact f6)) (by with_reducible assumption) (by first | with_reducible assumption | lia) ?_; intro _ _ _; try dsimp only))))
        | ((with_reducible show wpAny _ _ (binaryOp Operator.Add (Value.float _ _) (Value.float _ _)) _ _ _); (with_reducible ((refine addF (by (first | with_reducible assumption | exact f1 | exact f0 | exact f2 | exact f4 | exact f6)) (by (first | with_reducible assumption | exact f1 | exact f0 | exact f2 | exact f4 | exact f6)) (by with_reducible assumption) (by first | with_reducible assumption | lia) ?_; intro _ _ _; try dsimp only))))
        | (k_end; wrow_close)
        | walk1
        | (leave1; (try dsimp only))
        | dsimp only))
      all_goals exact hret _ _ _ _ (by k_asm) (by k_asm) (.mk _ _ _ _ _ _ _ (by assumption) (.mk (by assumption) (by assumption) (by assumption)))

theorem rgb0_con (x y z : UInt64) (V : Int) (t1 t2 t3 : Tok) (news : Led) (hx : IsF x (1024 * V)) (hy : IsF y (1024 * V)) (hz : IsF z (1024 * V)) :
    Con w p loose mean mg mb 56 [.float x t1, .float y t2, .float z t3] news 2 8 (TupP news (TriQ 0 0 (1024 * V))) := by
  have m1 : max (max (1024 * V) (1024 * V)) (1024 * V) = 1024 * V := by lia
  have m2 : min (min (1024 * V) (1024 * V)) (1024 * V) = 1024 * V := by lia
  have m3 : 1024 * V = 1024 * V := rfl
  unfold Con
  k_fill
  intro dp un gd cn cs a ccd cl outer A₀ base h₀ L m s Q E B F X N T hk hd hu hret
  refine wpAny_call ?_
  k_dflt cell_enter
  w_on
  w_top off
  (try (rename Fr _ _ _ _ => F0z; revert F0z; show (let mKz := ?_; (Fr _ _ _ mKz → _)); intro mKz F0z))
  (try (show (let aKz := ?_; wpAny _ aKz _ _ _ _); intro aKz))
  w_strict (repeat' (first
    | (k_unfold; (try dsimp only))
    | ((with_reducible show wpAny _ _ (exec _ _) _ _ _); k_fold; (try (rename Fr _ _ _ _ => F0z; revert F0z; show (let mKz := ?_; (Fr _ _ _ mKz → _)); intro mKz F0z)); (try (refine anyTok fun _ => ?_)); (try dsimp only)) 
    | ((with_reducible show wpAny _ _ (call (Value.builtin _) _ _) _ _ _); (with_reducible ((refine min3F rfl (by (first | with_reducible assumption | exact f1 | exact f0 | exact f2 | exact f4 | exact f6)) (by (first | with_reducible assumption | exact f1 | exact f0 | exact f2 | exact f4 | exact f6)) (by (first | with_reducible assumption | exact f1 | exact f0 | exact f2 | exact f4 | exact f6)) (by with_reducible assumption) (by k_asm) (by k_asm) ?_; intro _ _ _ _ _ _ _; try dsimp only))))
    | ((with_reducible show wpAny _ _ (call (Value.builtin _) _ _) _ _ _); (with_reducible ((refine max3F rfl (by (first | with_reducible assumption | exact f1 | exact f0 | exact f2 | exact f4 | exact f6)) (by (first | with_reducible assumption | exact f1 | exact f0 | exact f2 | exact f4 | exact f6)) (by (first | with_reducible assumption | exact f1 | exact f0 | exact f2 | exact f4 | exact f6)) (by with_reducible assumption) (by k_asm) (by k_asm) ?_; intro _ _ _ _ _ _ _; try dsimp only))))
    | ((with_reducible show wpAny _ _ (compareOp CmpOp.Eq (Value.float _ _) (Value.float _ _)) _ _ _); (with_reducible (first | (refine eqF_t (by (first | with_reducible assumption | exact f1 | exact f0 | exact f2 | exact f4 | exact f6)) (by (first | with_reducible assumption | exact f1 | exact f0 | exact f2 | exact f4 | exact f6)) (by with_reducible assumption) ?_) | (refine eqF_f (by (first | with_reducible assumption | exact f1 | exact f0 | exact f2 | exact f4 | exact f6)) (by (first | with_reducible assumption | exact f1 | exact f0 | exact f2 | exact f4 | exact f6)) (by with_reducible assumption) ?_))))
    | (k_end; wrow_close)
    | walk1
    | (leave1; (try dsimp only))
    | dsimp only))
  all_goals exact hret _ _ _ _ (by k_asm) (by k_asm) (.mk _ _ _ _ _ _ _ (by assumption) (.mk f0 f0 (by assumption)))

theorem hsv0_con (x y z : UInt64) (V : Int) (t1 t2 t3 : Tok) (news : Led) (hy : IsF y 0) (hz : IsF z (1024 * V)) :
    Con w p loose mean mg mb 63 [.float x t1, .float y t2, .float z t3] news 2 8 (TupP news (TriQ (1024 * V) (1024 * V) (1024 * V))) := by
  have m3 : (0 : Int) = 0 := rfl
  unfold Con
  k_fill
  intro dp un gd cn cs a ccd cl outer A₀ base h₀ L m s Q E B F X N T hk hd hu hret
  refine wpAny_call ?_
  k_dflt cell_enter
  w_on
  w_top off
  (try (rename Fr _ _ _ _ => F0z; revert F0z; show (let mKz := ?_; (Fr _ _ _ mKz → _)); intro mKz F0z))
  (try (show (let aKz := ?_; wpAny _ aKz _ _ _ _); intro aKz))
  w_strict (repeat' (first
    | (k_unfold; (try dsimp only))
    | ((with_reducible show wpAny _ _ (exec _ _) _ _ _); k_fold; (try (rename Fr _ _ _ _ => F0z; revert F0z; show (let mKz := ?_; (Fr _ _ _ mKz → _)); intro mKz F0z)); (try (refine anyTok fun _ => ?_)); (try dsimp only)) 
    | ((with_reducible show wpAny _ _ (compareOp CmpOp.Eq (Value.float _ _) (Value.float _ _)) _ _ _); (with_reducible (first | (refine eqF_t (by (first | with_reducible assumption | exact f1 | exact f0 | exact f2 | exact f4 | exact f6)) (by (first | with_reducible assumption | exact f1 | exact f0 | exact f2 | exact f4 | exact f6)) (by with_reducible assumption) ?_) | (refine eqF_f (by (first | with_reducible assumption | exact f1 | exact f0 | exact f2 | exact f4 | exact f6)) (by (first | with_reducible assumption | exact f1 | exact f0 | exact f2 | exact f4 | exact f6)) (by with_reducible assumption) ?_))))
    | (k_end; wrow_close)
    | walk1
    | (leave1; (try dsimp only))
    | dsimp only))
  all_goals exact hret _ _ _ _ (by k_asm) (by k_asm) (.mk _ _ _ _ _ _ _ (by assumption) (.mk (by assumption) (by assumption) (by assumption)))
end Mine
end

section
open PySem PySem.W PyProof.Rows
set_option Elab.async false
set_option maxRecDepth 100000
set_option maxHeartbeats 8000000
namespace Mine
variable {w : World} {p : Program} {loose : List Str} {mean : ExcName → Option Value} {mg mb : Str → Option Value}
theorem News.drop2 {h₀ h : Heap} {L : Addr} {x y : Addr × Obj} {l : Led} (N : News h₀ L h (x :: y :: l)) : News h₀ L h (x :: l) := fun p hp => N p (by
  rcases List.mem_cons.mp hp with rfl | hp
  · exact .head _
  · exact .tail _ (.tail _ hp))
abbrev SxQ (g1 g2 g3 d h : Int) : Prop := (0 ≤ g1 ∧ g1 ≤ 32) ∧ (0 ≤ g2 ∧ g2 ≤ 32) ∧ (0 ≤ g3 ∧ g3 ≤ 32) ∧ (g1 = 0 ∨ g2 = 0 ∨ g3 = 0) ∧ (g1 = 32 ∨ g2 = 32 ∨ g3 = 32) ∧
    (g1 = 0 → g3 - g2 = 3 * d) ∧ (g1 ≠ 0 → g2 = 0 → 64 + g1 - g3 = 3 * d) ∧ (g1 ≠ 0 → g2 ≠ 0 → 128 + g2 - g1 = 3 * d) ∧ d % 64 = h
abbrev sxG (i G : Int) : Int × Int × Int :=
  if i = 0 then (0, 32 - G, 32) else if i = 1 then (G, 0, 32) else if i = 2 then (32, 0, 32 - G) else if i = 3 then (32, G, 0) else if i = 4 then (32 - G, 32, 0) else (0, 32, G)
theorem sext_gt {H g1 g2 g3 : Int} (sx : Sext H g1 g2 g3) : (g1, g2, g3) = sxG (3 * H / 32 % 6) (3 * H % 32) := by
  unfold Sext at sx
  generalize 3 * H % 32 = G at *
  generalize 3 * H / 32 % 6 = i at *
  rcases sx with ⟨rfl, rfl, rfl, rfl⟩ | ⟨rfl, rfl, rfl, rfl⟩ | ⟨rfl, rfl, rfl, rfl⟩ | ⟨rfl, rfl, rfl, rfl⟩ | ⟨rfl, rfl, rfl, rfl⟩ | ⟨rfl, rfl, rfl, rfl⟩ <;> rfl
theorem sext_tab : ∀ h : Fin 64, SxQ (sxG (3 * (h.val : Int) / 32) (3 * (h.val : Int) % 32)).1 (sxG (3 * (h.val : Int) / 32) (3 * (h.val : Int) % 32)).2.1 (sxG (3 * (h.val : Int) / 32) (3 * (h.val : Int) % 32)).2.2
    (if 3 * (h.val : Int) / 32 = 5 then (h.val : Int) - 64 else h.val) h.val := by decide +kernel
theorem sext_rgb {H g1 g2 g3 : Int} (sx : Sext H g1 g2 g3) : ∃ d, (0 ≤ g1 ∧ g1 ≤ 32) ∧ (0 ≤ g2 ∧ g2 ≤ 32) ∧ (0 ≤ g3 ∧ g3 ≤ 32) ∧ (g1 = 0 ∨ g2 = 0 ∨ g3 = 0) ∧ (g1 = 32 ∨ g2 = 32 ∨ g3 = 32) ∧
    (g1 = 0 → g3 - g2 = 3 * d) ∧ (g1 ≠ 0 → g2 = 0 → 64 + g1 - g3 = 3 * d) ∧ (g1 ≠ 0 → g2 ≠ 0 → 128 + g2 - g1 = 3 * d) ∧ d % 64 = H % 64 := by
  obtain ⟨h, hh⟩ : ∃ h : Fin 64, (h.val : Int) = H % 64 := ⟨⟨(H % 64).toNat, by lia⟩, by show ((H % 64).toNat : Int) = _; lia⟩
  have e1 : 3 * H / 32 % 6 = 3 * (h.val : Int) / 32 := by rw [hh]; lia
  have e2 : 3 * H % 32 = 3 * (h.val : Int) % 32 := by rw [hh]; lia
  have t := sext_tab h
  rw [← e1, ← e2, ← sext_gt sx, hh] at t
  exact ⟨_, t⟩

theorem read_con (hue share value turns : Int) (t1 t2 t3 t4 : Tok) (news : Led) (c : Addr) (hc : (c, tupO [.int hue t1, .int share t2, .int value t3, .int turns t4]) ∈ news)
    (hh : 0 ≤ hue ∧ hue < 64) (hs : 1 ≤ share ∧ share ≤ 4) (hv : 1 ≤ value ∧ value ≤ 64) (ht : 0 ≤ turns ∧ turns ≤ 2) :
    Con w p loose mean mg mb 101 [.ref c] news 4 16 (TupP news (TriQ (1024 * hue) (16384 * share) (1024 * value))) := by
  unfold Con
  k_fill
  intro dp un gd cn cs a ccd cl outer A₀ base h₀ L m s Q E B F X N T hk hd hu hret
  have e1 : (1024 * hue) * 64 = hue * 65536 := by lia
  have e2 : (1024 * hue) + turns * 65536 = 1024 * (hue + 64 * turns) := by lia
  have e3 : (16384 * share) * 4 = share * 65536 := by lia
  have e4 : (1024 * value) * 64 = value * 65536 := by lia
  have e5 : 0 ≤ hue + 64 * turns ∧ hue + 64 * turns < 192 := by lia
  refine wpAny_call ?_
  k_dflt cell_enter
  w_on
  w_top on
  (try (rename Fr _ _ _ _ => F0z; revert F0z; show (let mKz := ?_; (Fr _ _ _ mKz → _)); intro mKz F0z))
  (try (show (let aKz := ?_; wpAny _ aKz _ _ _ _); intro aKz))
  w_strict (repeat' (first
    | (k_unfold; (try dsimp only))
    | ((with_reducible show wpAny _ _ (exec _ _) _ _ _); k_fold; (try (rename Fr _ _ _ _ => F0z; revert F0z; show (let mKz := ?_; (Fr _ _ _ mKz → _)); intro mKz F0z)); (try (refine anyTok fun _ => ?_)); (try dsimp only)) 
    | ((with_reducible show wpAny _ _ (binaryOp Operator.Add (Value.float _ _) (Value.int _ _)) _ _ _); (with_reducible ((refine addFI (by with_reducible assumption) (by with_reducible assumption) (by lia) (by lia) ?_; intro _ _ _; try dsimp only))))
    | ((with_reducible show wpAny _ _ (binaryOp Operator.Div (Value.int _ _) (Value.int _ _)) _ _ _); (with_reducible ((refine divII (by decide) (by with_reducible assumption) (by lia) ?_; intro _ _ _; try dsimp only))))
    | ((with_reducible show wpAny _ _ (call (Value.ref _) _ _) _ _ _); ((refine Con.use (hsv_con _ _ _ _ _ _ _ _ _ _ (by with_reducible assumption) (by with_reducible assumption) (by with_reducible assumption) (by with_reducible assumption) (by with_reducible assumption) (by with_reducible assumption)) (by k_asm) (by k_asm) (by k_asm) (by k_asm) (by k_asm) rfl (by ktr_room) (by ktr_units) ?_; intro _ _ _ _ _ _ hp9z; obtain ⟨_, _, _, _, _, _, _, _, ⟨_, _, _, _, _, _, sxz⟩⟩ := hp9z; obtain ⟨_, _, _, _, _, _, _, _, _, _⟩ := sext_rgb sxz; try dsimp only)))
    | ((with_reducible show wpAny _ _ (call (Value.ref _) _ _) _ _ _); ((refine Con.use (rgb_con _ _ _ _ _ _ _ _ _ _ _ _ _ (by with_reducible assumption) (by with_reducible assumption) (by with_reducible assumption) (by with_reducible assumption) (by with_reducible assumption) (by with_reducible assumption) (by with_reducible assumption) (by with_reducible assumption) (by with_reducible assumption) (by with_reducible assumption) (by with_reducible assumption) (by with_reducible assumption) (by with_reducible assumption)) (by k_asm) (by k_asm) (by k_asm) (by k_asm) (by k_asm) rfl (by ktr_room) (by ktr_units) ?_; intro _ _ _ _ _ _ hp9z; obtain ⟨_, _, _, _, _, _, _, _, ⟨_, _, _⟩⟩ := hp9z; try dsimp only)))
    | (k_end; wrow_close)
    | walk1
    | (leave1; (try dsimp only))
    | dsimp only))
  all_goals exact hret _ _ _ _ (by k_asm) (News.drop2 (by k_asm)) (.mk _ _ _ _ _ _ _ (fun q hq => (by assumption : ∀ q ∈ _ :: news, q.1 < _) q (.tail _ hq)) (.mk (IsF.cast (by assumption) (by lia)) (by assumption) (by assumption)))

theorem read0_con (hue value turns : Int) (t1 t2 t3 t4 : Tok) (news : Led) (c : Addr) (hc : (c, tupO [.int hue t1, .int 0 t2, .int value t3, .int turns t4]) ∈ news)
    (hh : 0 ≤ hue ∧ hue < 64) (hv : 1 ≤ value ∧ value ≤ 64) (ht : 0 ≤ turns ∧ turns ≤ 2) :
    Con w p loose mean mg mb 101 [.ref c] news 4 16 (TupP news (TriQ 0 0 (1024 * value))) := by
  unfold Con
  k_fill
  intro dp un gd cn cs a ccd cl outer A₀ base h₀ L m s Q E B F X N T hk hd hu hret
  have e1 : (1024 * hue) * 64 = hue * 65536 := by lia
  have e2 : (1024 * hue) + turns * 65536 = 1024 * (hue + 64 * turns) := by lia
  have e3 : (0 : Int) * 4 = 0 * 65536 := by lia
  have e4 : (1024 * value) * 64 = value * 65536 := by lia
  refine wpAny_call ?_
  k_dflt cell_enter
  w_on
  w_top on
  (try (rename Fr _ _ _ _ => F0z; revert F0z; show (let mKz := ?_; (Fr _ _ _ mKz → _)); intro mKz F0z))
  (try (show (let aKz := ?_; wpAny _ aKz _ _ _ _); intro aKz))
  w_strict (repeat' (first
    | (k_unfold; (try dsimp only))
    | ((with_reducible show wpAny _ _ (exec _ _) _ _ _); k_fold; (try (rename Fr _ _ _ _ => F0z; revert F0z; show (let mKz := ?_; (Fr _ _ _ mKz → _)); intro mKz F0z)); (try (refine anyTok fun _ => ?_)); (try dsimp only)) 
    | ((with_reducible show wpAny _ _ (binaryOp Operator.Add (Value.float _ _) (Value.int _ _)) _ _ _); (with_reducible ((refine addFI (by with_reducible assumption) (by with_reducible assumption) (by lia) (by lia) ?_; intro _ _ _; try dsimp only))))
    | ((with_reducible show wpAny _ _ (binaryOp Operator.Div (Value.int _ _) (Value.int _ _)) _ _ _); (with_reducible ((refine divII (by decide) (by with_reducible assumption) (by lia) ?_; intro _ _ _; try dsimp only))))
    | ((with_reducible show wpAny _ _ (call (Value.ref _) _ _) _ _ _); ((refine Con.use (hsv0_con _ _ _ _ _ _ _ _ (by with_reducible assumption) (by with_reducible assumption)) (by k_asm) (by k_asm) (by k_asm) (by k_asm) (by k_asm) rfl (by ktr_room) (by ktr_units) ?_; intro _ _ _ _ _ _ hp9z; obtain ⟨_, _, _, _, _, _, _, _, ⟨_, _, _⟩⟩ := hp9z; try dsimp only)))
    | ((with_reducible show wpAny _ _ (call (Value.ref _) _ _) _ _ _); ((refine Con.use (rgb0_con _ _ _ _ _ _ _ _ (by with_reducible assumption) (by with_reducible assumption) (by with_reducible assumption)) (by k_asm) (by k_asm) (by k_asm) (by k_asm) (by k_asm) rfl (by ktr_room) (by ktr_units) ?_; intro _ _ _ _ _ _ hp9z; obtain ⟨_, _, _, _, _, _, _, _, ⟨_, _, _⟩⟩ := hp9z; try dsimp only)))
    | (k_end; wrow_close)
    | walk1
    | (leave1; (try dsimp only))
    | dsimp only))
  all_goals exact hret _ _ _ _ (by k_asm) (News.drop2 (by k_asm)) (.mk _ _ _ _ _ _ _ (fun q hq => (by assumption : ∀ q ∈ _ :: news, q.1 < _) q (.tail _ hq)) (.mk (by assumption) (by assumption) (by assumption)))

noncomputable def placeI (hue share : Int) : Int := if 0 < share then hue else 0
noncomputable abbrev SeenP (news : Led) (hue share value : Int) : Value → Led → Prop := TupP news (TriQ (1024 * placeI hue share) (16384 * share) (1024 * value))
theorem Con.mono {f : Addr} {vs : List Value} {news : Led} {dd uu : Nat} {P P' : Value → Led → Prop} (C : Con w p loose mean mg mb f vs news dd uu P) (h : ∀ r n, P r n → P' r n) : Con w p loose mean mg mb f vs news dd uu P' := by
  unfold Con at *
  intro dp un gd cn cs a ccd cl outer A₀ base h₀ L m s Q E B F X N T hk hd hu hret
  exact C dp un gd cn cs a ccd cl outer A₀ base h₀ L m s Q E B F X N T hk hd hu fun r n h1 t F N hp => hret r n h1 t F N (h _ _ hp)
theorem seen_con (hue share value turns : Int) (t1 t2 t3 t4 : Tok) (news : Led) (c : Addr) (hc : (c, tupO [.int hue t1, .int share t2, .int value t3, .int turns t4]) ∈ news)
    (hh : 0 ≤ hue ∧ hue < 64) (hs : 0 ≤ share ∧ share ≤ 4) (hv : 1 ≤ value ∧ value ≤ 64) (ht : 0 ≤ turns ∧ turns ≤ 2) :
    Con w p loose mean mg mb 101 [.ref c] news 4 16 (SeenP news hue share value) := by
  by_cases h0 : share = 0
  · subst h0
    exact read0_con hue value turns t1 t2 t3 t4 news c hc hh hv ht
  · have e : placeI hue share = hue := if_pos (by lia)
    unfold SeenP
    rw [e]
    exact read_con hue share value turns t1 t2 t3 t4 news c hc hh (by lia) hv ht
end Mine
end

section
open PySem PySem.W PyProof.Rows PySem.Calls
set_option Elab.async false
set_option maxRecDepth 100000
set_option maxHeartbeats 8000000
namespace Mine
variable {w : World} {p : Program} {loose : List Str} {mean : ExcName → Option Value} {mg mb : Str → Option Value}

noncomputable def ConK (w : World) (p : Program) (loose : List Str) (mean : ExcName → Option Value) (mg mb : Str → Option Value) (f : Addr) (vs : List Value) (kw : List (Str × Value)) (news : Led) (dd uu : Nat) (P : Value → Led → Prop) : Prop :=
  ∀ (dp un : Nat) (gd : Option (List Code)) (cn : Str) (cs : Scope) (a : Addr) (ccd : Value) (cl : List (Str × Addr)) (outer : List Env) (A₀ : Around) (base h₀ : Heap) (L : Addr) (m : Str → Option Value) (s : Shared) (Q E : Value → Shared → Prop),
    Below A₀ base outer h₀ → Fr h₀ L s.heap m → (hd.heap_39 w.params).In h₀ → News h₀ L s.heap news → Top p loose mean mg mb h₀ → cs.kind = .function →
    dp + dd < recursionLimit → un + uu < cLine →
    (∀ r news' h' tk', Fr h₀ L h' m → News h₀ L h' news' → P r news' → Q r { s with heap := h', toks := tk' }) →
    wpAny (model PySem.Challenge.rw_sc0043_01.row.prog w) (ktrTop dp un gd cn cs L a ccd cl outer) (call (.ref f) vs kw) Q E s
theorem ConK.use {f : Addr} {vs : List Value} {kw : List (Str × Value)} {news : Led} {dd uu : Nat} {P : Value → Led → Prop}
    {dp un : Nat} {gd : Option (List Code)} {cn : Str} {cs : Scope} {a : Addr} {ccd : Value} {cl : List (Str × Addr)} {outer : List Env} {A₀ : Around} {base h₀ : Heap} {L : Addr} {m : Str → Option Value} {s : Shared} {Q E : Value → Shared → Prop}
    (C : ConK w p loose mean mg mb f vs kw news dd uu P) (B : Below A₀ base outer h₀) (F : Fr h₀ L s.heap m) (X : (hd.heap_39 w.params).In h₀) (N : News h₀ L s.heap news) (T : Top p loose mean mg mb h₀) (hk : cs.kind = .function)
    (hd : dp + dd < recursionLimit) (hu : un + uu < cLine)
    (ret : ∀ r news' h' tk', Fr h₀ L h' m → News h₀ L h' news' → P r news' → Q r { s with heap := h', toks := tk' }) :
    wpAny (model PySem.Challenge.rw_sc0043_01.row.prog w) (ktrTop dp un gd cn cs L a ccd cl outer) (call (.ref f) vs kw) Q E s :=
  C dp un gd cn cs a ccd cl outer A₀ base h₀ L m s Q E B F X N T hk hd hu ret

theorem ConK.useN {f : Addr} {vs : List Value} {kw : List (Str × Value)} {news : Led} {dd uu : Nat} {P : Value → Led → Prop}
    {dp un : Nat} {gd : Option (List Code)} {cn : Str} {cs : Scope} {a : Addr} {ccd : Value} {cl : List (Str × Addr)} {outer : List Env} {A₀ : Around} {base h₀ : Heap} {L : Addr} {m : Str → Option Value} {s : Shared} {Q E : Value → Shared → Prop}
    (N : News h₀ L s.heap news) (F : Fr h₀ L s.heap m) (B : Below A₀ base outer h₀) (X : (hd.heap_39 w.params).In h₀) (T : Top p loose mean mg mb h₀) (C : ConK w p loose mean mg mb f vs kw news dd uu P) (hk : cs.kind = .function)
    (hd : dp + dd < recursionLimit) (hu : un + uu < cLine)
    (ret : ∀ r news' h' tk', Fr h₀ L h' m → News h₀ L h' news' → P r news' → Q r { s with heap := h', toks := tk' }) :
    wpAny (model PySem.Challenge.rw_sc0043_01.row.prog w) (ktrTop dp un gd cn cs L a ccd cl outer) (call (.ref f) vs kw) Q E s :=
  C dp un gd cn cs a ccd cl outer A₀ base h₀ L m s Q E B F X N T hk hd hu ret

noncomputable abbrev listO (vs : List Value) (c : Nat) : Obj := { cls := .type "list", data := .seq vs.toArray c }
noncomputable abbrev Col := Int × Int × Int
noncomputable def KeptIn (news : Led) (vs : List Value) (cs : List Col) : Prop :=
  vs.length = cs.length ∧ ∀ (i : Nat) (c : Col), cs[i]? = some c → ∃ a x y z u1 u2 u3, vs[i]? = some (.ref a) ∧ (a, tupO [.float x u1, .float y u2, .float z u3]) ∈ news ∧ IsF x (1024 * c.1) ∧ IsF y (16384 * c.2.1) ∧ IsF z (1024 * c.2.2)


theorem hue_con (a : Addr) (x y z : UInt64) (u1 u2 u3 : Tok) (news : Led) (hm : (a, tupO [.float x u1, .float y u2, .float z u3]) ∈ news) :
    Con w p loose mean mg mb 108 [.ref a] news 2 8 (fun r n' => r = .float x u1 ∧ news = n') := by
  unfold Con
  k_fill
  intro dp un gd cn cs a ccd cl outer A₀ base h₀ L m s Q E B F X N T hk hd hu hret
  refine wpAny_call ?_
  k_dflt cell_enter
  w_on
  w_top on
  (try (rename Fr _ _ _ _ => F0z; revert F0z; show (let mKz := ?_; (Fr _ _ _ mKz → _)); intro mKz F0z))
  (try (show (let aKz := ?_; wpAny _ aKz _ _ _ _); intro aKz))
  w_strict (repeat' (first
    | (k_unfold; (try dsimp only))
    | ((with_reducible show wpAny _ _ (exec _ _) _ _ _); k_fold) 
    | (k_end; wrow_close)
    | walk1
    | (leave1; (try dsimp only))
    | dsimp only))
  all_goals exact hret _ _ _ _ (by k_asm) (by k_asm) ⟨rfl, rfl⟩

section
variable {prog : Program} {A : Around} {E : Value → Shared → Prop} {s : Shared} {h₀ : Heap} {L : Addr} {m : Str → Option Value} {news : Led}
theorem kept_item {value slice : PySem.Expr} {l : Addr} {vs : List Value} {c : Nat} {cs : List Col} {k : Int} {u : Tok} {Q : Value → Shared → Prop}
    (N : News h₀ L s.heap news) (hm : (l, listO vs c) ∈ news) (hk : KeptIn news vs cs) (h0 : 0 ≤ k) (hlt : k < cs.length) (hfit : cs.length < 1000)
    (h : ∀ a x y z u1 u2 u3 col, cs[k.toNat]? = some col → (a, tupO [.float x u1, .float y u2, .float z u3]) ∈ news → IsF x (1024 * col.1) → IsF y (16384 * col.2.1) → IsF z (1024 * col.2.2) → Q (.ref a) s)
    (hs : subscripted slice false (.ref l) (.int k u) = operate [.ref l, .int k u] (getItem (.ref l) (.int k u)) := by with_unfolding_all rfl) :
    wpAny (model prog w) A (subscriptTail value slice (.ref l) (.int k u)) Q E s := by
  have hlt' : k.toNat < cs.length := by lia
  show (let gKz : Prop := ?_; gKz)
  intro gKz
  obtain ⟨a, x, y, z, u1, u2, u3, hv, hmem, i1, i2, i3⟩ := hk.2 k.toNat cs[k.toNat] (List.getElem?_eq_getElem hlt')
  k_unfold
  (try clear gKz)
  have hL : s.heap.IsList l vs.toArray := ⟨_, (N _ hm).1, rfl, c, rfl⟩
  exact tail_any hL.typeIs slot_list_getitem.lookup (wpAny_getItem_list hL h0 (by lia) (by simpa using hv) (h a x y z u1 u2 u3 _ (List.getElem?_eq_getElem hlt') hmem i1 i2 i3)) hs
end

section
variable {prog : Program} {A : Around} {E : Value → Shared → Prop} {s : Shared} {h₀ : Heap} {L : Addr} {m : Str → Option Value} {news : Led}
theorem kept_len {l : Addr} {vs : List Value} {c : Nat} {cs : List Col} {Q : Value → Shared → Prop} (N : News h₀ L s.heap news) (hm : (l, listO vs c) ∈ news) (hk : KeptIn news vs cs) (hfit : cs.length < 1000)
    (h : ∀ t tk, Q (.int (cs.length : Int) t) { s with toks := tk }) : wpAny (model prog w) A (call (.builtin "len") [.ref l]) Q E s := by
  have hL : s.heap.IsList l vs.toArray := ⟨_, (N _ hm).1, rfl, c, rfl⟩
  refine len_list hL (by rw [List.size_toArray, hk.1]; lia) ?_
  rw [List.size_toArray, hk.1]; exact h _ _
end
noncomputable def BInv (ks : List Int) (px lo hi : Int) : Prop := 0 ≤ lo ∧ lo ≤ hi ∧ hi ≤ ks.length ∧ (∀ i : Nat, (i : Int) < lo → ∀ q, ks[i]? = some q → q ≤ px) ∧ (∀ i : Nat, hi ≤ (i : Int) → ∀ q, ks[i]? = some q → px < q)
noncomputable def countLe (ks : List Int) (px : Int) : Nat := (ks.filter (fun q => decide (q ≤ px))).length
noncomputable def Sorted (ks : List Int) : Prop := ∀ i j : Nat, i ≤ j → ∀ a b, ks[i]? = some a → ks[j]? = some b → a ≤ b
theorem countLe_of {px : Int} : ∀ (ks : List Int) (k : Nat), k ≤ ks.length → (∀ i : Nat, i < k → ∀ q, ks[i]? = some q → q ≤ px) → (∀ i : Nat, k ≤ i → ∀ q, ks[i]? = some q → px < q) → countLe ks px = k
  | [], k, h, _, _ => by simp at h; subst h; rfl
  | a :: r, 0, _, _, h2 => by
    have : ¬ a ≤ px := by have := h2 0 (Nat.le_refl _) a rfl; lia
    unfold countLe
    rw [List.filter_cons_of_neg (by simpa using this)]
    exact countLe_of r 0 (Nat.zero_le _) (fun i hi => absurd hi (Nat.not_lt_zero _)) fun i _ q hq => h2 (i + 1) (Nat.zero_le _) q (by simpa using hq)
  | a :: r, k + 1, h, h1, h2 => by
    have : a ≤ px := h1 0 (Nat.succ_pos _) a rfl
    unfold countLe
    rw [List.filter_cons_of_pos (by simpa using this), List.length_cons]
    congr 1
    exact countLe_of r k (by simpa using h) (fun i hi q hq => h1 (i + 1) (by lia) q (by simpa using hq)) fun i hi q hq => h2 (i + 1) (by lia) q (by simpa using hq)
theorem BInv.end {ks : List Int} {px lo hi : Int} (h : BInv ks px lo hi) (he : ¬ lo < hi) : lo = countLe ks px := by
  show (let gKz : Prop := ?_; gKz)
  intro gKz
  obtain ⟨h0, h1, h2, h3, h4⟩ := h
  k_unfold
  (try clear gKz)
  have : countLe ks px = lo.toNat := countLe_of ks lo.toNat (by lia) (fun i hi => h3 i (by lia)) fun i hi => h4 i (by lia)
  lia
theorem mid_in {ks : List Int} {px lo hi : Int} (h : BInv ks px lo hi) (hlt : lo < hi) : lo ≤ (lo + hi).fdiv 2 ∧ (lo + hi).fdiv 2 < hi ∧ 0 ≤ (lo + hi).fdiv 2 ∧ (lo + hi).fdiv 2 < ks.length := by
  show (let gKz : Prop := ?_; gKz)
  intro gKz
  obtain ⟨h0, h1, h2, _, _⟩ := h
  k_unfold
  (try clear gKz)
  rw [Int.fdiv_eq_ediv_of_nonneg _ (by decide)]; lia
theorem BInv.start (ks : List Int) (px : Int) : BInv ks px 0 ks.length :=
  ⟨Int.le_refl _, by lia, Int.le_refl _, fun i h => absurd h (by lia), fun i h q hq => by
    have := (List.getElem?_eq_some_iff.mp hq).1; lia⟩
theorem BInv.down {ks : List Int} {px lo hi mid q : Int} (hs : Sorted ks) (h : BInv ks px lo hi) (hm : lo ≤ mid ∧ mid < hi) (hq : ks[mid.toNat]? = some q) (hlt : px < q) : BInv ks px lo mid := by
  show (let gKz : Prop := ?_; gKz)
  intro gKz
  obtain ⟨h0, h1, h2, h3, h4⟩ := h
  k_unfold
  (try clear gKz)
  exact ⟨h0, hm.1, by lia, h3, fun i hi r hr => Int.lt_of_lt_of_le hlt (hs mid.toNat i (by lia) q r hq hr)⟩
theorem BInv.up {ks : List Int} {px lo hi mid q : Int} (hs : Sorted ks) (h : BInv ks px lo hi) (hm : lo ≤ mid ∧ mid < hi) (hq : ks[mid.toNat]? = some q) (hle : ¬ px < q) : BInv ks px (mid + 1) hi := by
  show (let gKz : Prop := ?_; gKz)
  intro gKz
  obtain ⟨h0, h1, h2, h3, h4⟩ := h
  k_unfold
  (try clear gKz)
  exact ⟨by lia, by lia, h2, fun i hi r hr => by have := hs i mid.toNat (by lia) r q hr hq; lia, h4⟩

section
variable {prog : Program} {A : Around} {E : Value → Shared → Prop} {s : Shared} {h₀ : Heap} {L : Addr} {m : Str → Option Value} {news : Led}
theorem kept_mid {value slice : PySem.Expr} {l : Addr} {vs : List Value} {c : Nat} {cs : List Col} {px lo hi : Int} {u : Tok} {Q : Value → Shared → Prop}
    (N : News h₀ L s.heap news) (hm : (l, listO vs c) ∈ news) (hk : KeptIn news vs cs) (hi9 : BInv (List.map Prod.fst cs) px lo hi) (hlt : lo < hi) (hfit : cs.length < 1000)
    (h : ∀ a x y z u1 u2 u3 q, (List.map Prod.fst cs)[((lo + hi).fdiv 2).toNat]? = some q → (a, tupO [.float x u1, .float y u2, .float z u3]) ∈ news → IsF x (1024 * q) → Q (.ref a) s)
    (hs : subscripted slice false (.ref l) (.int ((lo + hi).fdiv 2) u) = operate [.ref l, .int ((lo + hi).fdiv 2) u] (getItem (.ref l) (.int ((lo + hi).fdiv 2) u)) := by with_unfolding_all rfl) :
    wpAny (model prog w) A (subscriptTail value slice (.ref l) (.int ((lo + hi).fdiv 2) u)) Q E s := by
  show (let gKz : Prop := ?_; gKz)
  intro gKz
  obtain ⟨b1, b2, b3, b4⟩ := mid_in hi9 hlt
  k_unfold
  (try clear gKz)
  refine kept_item N hm hk b3 (by simpa using b4) hfit (fun a x y z u1 u2 u3 col hcol hmem i1 _ _ => h a x y z u1 u2 u3 col.1 ?_ hmem i1) hs
  rw [List.getElem?_map, hcol]; rfl
end
theorem ms_down {ks : List Int} {px lo hi : Int} (h : BInv ks px lo hi) (hlt : lo < hi) : ((lo + hi).fdiv 2 - lo).toNat < (hi - lo).toNat := by
  have m := mid_in h hlt; lia
theorem ms_up {ks : List Int} {px lo hi : Int} (h : BInv ks px lo hi) (hlt : lo < hi) : (hi - ((lo + hi).fdiv 2 + 1)).toNat < (hi - lo).toNat := by
  have m := mid_in h hlt; lia
theorem st_down {ks : List Int} {px lo hi q : Int} (hs : Sorted ks) (h : BInv ks px lo hi) (hlt : lo < hi) (hq : ks[((lo + hi).fdiv 2).toNat]? = some q) (hd : 1024 * px < 1024 * q) : BInv ks px lo ((lo + hi).fdiv 2) :=
  have m := mid_in h hlt
  h.down hs ⟨m.1, m.2.1⟩ hq (by lia)
theorem st_up {ks : List Int} {px lo hi q : Int} (hs : Sorted ks) (h : BInv ks px lo hi) (hlt : lo < hi) (hq : ks[((lo + hi).fdiv 2).toNat]? = some q) (hd : ¬ 1024 * px < 1024 * q) : BInv ks px ((lo + hi).fdiv 2 + 1) hi :=
  have m := mid_in h hlt
  h.up hs ⟨m.1, m.2.1⟩ hq (by lia)


theorem bis_con (l : Addr) (vs : List Value) (c : Nat) (cs : List Col) (x : UInt64) (px : Int) (t : Tok) (news : Led) (hl : (l, listO vs c) ∈ news) (hkp : KeptIn news vs cs) (hx : IsF x (1024 * px))
    (hsort : Sorted (List.map Prod.fst cs)) (hlen : cs.length < 1000) :
    ConK w p loose mean mg mb 49 [.ref l, .float x t] [(Str.ofString "key", .ref 108)] news 4 16 (fun r n' => ∃ t', r = .int (countLe (List.map Prod.fst cs) px) t' ∧ news = n') := by
  unfold ConK
  k_fill
  intro dp un gd cn cs' a ccd cl outer A₀ base h₀ L m s Q E B F X N T hk hd hu hret
  refine wpAny_call ?_
  k_dflt ((refine code_def (by (k_asm)) (by (k_asm)) (by (k_asm)) (by (k_asm)) (by (k_asm)) (by (exact rfl)) (by (exact rfl)) (by (assumption)) (by (k_is)) (by (k_is)) (by (ktr_room)) (by ((refine kp_binds (by (k_in)) (by (exact fun _ => rfl))))) (by (exact locs rfl)) ?_ (by (exact rfl)) (by (exact rfl)) (by (exact rfl)) (by (decide)); intro _ _ _ _ _ _ B'z _ _; (try dsimp only); (try k_lift B'z); (try k_fold)))
  w_on
  w_top on
  (try (rename Fr _ _ _ _ => F0z; revert F0z; show (let mKz := ?_; (Fr _ _ _ mKz → _)); intro mKz F0z))
  (try (show (let aKz := ?_; wpAny _ aKz _ _ _ _); intro aKz))
  k_with "state" => first | exact BInv.start _ _ | exact st_down (by assumption) (by assumption) (by assumption) (by assumption) (by assumption) | exact st_up (by assumption) (by assumption) (by assumption) (by assumption) (by assumption)
  k_with "measure" => first | exact ms_down (by assumption) (by assumption) | exact ms_up (by assumption) (by assumption)
  w_strict (repeat' (first
    | (k_unfold; (try dsimp only))
    | ((with_reducible show wpAny _ _ (exec _ _) _ _ _); k_fold) 
    | ((with_reducible show wpAny _ _ (compareOp CmpOp.Lt (Value.float _ _) (Value.float _ _)) _ _ _); (with_reducible (refine ltF (by (with_reducible assumption)) (by (with_reducible assumption)) ?_)))
    | ((with_reducible show wpAny _ _ (subscriptTail ..) _ _ _); (with_reducible ((refine kept_mid (by k_asm) (by with_reducible assumption) (by with_reducible assumption) (by with_reducible assumption) (by with_reducible assumption) (by with_reducible assumption) ?_; intro _ _ _ _ _ _ _ _ _ _ _))))
    | ((with_reducible show wpAny _ _ (call (Value.builtin _) _ _) _ _ _); (with_reducible ((refine kept_len (by k_asm) (by with_reducible assumption) (by with_reducible assumption) (by with_reducible assumption) ?_; intro _ _; try dsimp only))))
    | ((with_reducible show wpAny _ _ (exec (Stmt.While ..) _) _ _ _); (k_while (fun (_ : List Int) lo hi => BInv (List.map Prod.fst cs) px lo hi) (fun (_ : List Int) lo hi => (hi - lo).toNat) "lo" "hi"))
    | ((with_reducible show wpAny _ _ (call (Value.ref _) _ _) _ _ _); ((refine Con.use (hue_con _ _ _ _ _ _ _ _ (by with_reducible assumption)) (by k_asm) (by k_asm) (by k_asm) (by k_asm) (by k_asm) rfl (by ktr_room) (by ktr_units) ?_; intro _ _ _ _ _ _ hp9z; obtain ⟨e1z, e2z⟩ := hp9z; subst e1z; subst e2z; try dsimp only)))
    | (k_end; wrow_close)
    | walk1
    | (leave1; (try dsimp only))
    | dsimp only))
  all_goals exact hret _ _ _ _ (by k_asm) (by k_asm) ⟨_, by rw [← BInv.end (by assumption) (by assumption)], rfl⟩

theorem bis4_con (l : Addr) (vs : List Value) (c : Nat) (cs : List Col) (x : UInt64) (px : Int) (t t0 : Tok) (news : Led) (hl : (l, listO vs c) ∈ news) (hkp : KeptIn news vs cs) (hx : IsF x (1024 * px))
    (hsort : Sorted (List.map Prod.fst cs)) (hlen : cs.length < 1000) :
    ConK w p loose mean mg mb 49 [.ref l, .float x t, .int 0 t0, .none] [(Str.ofString "key", .ref 108)] news 4 16 (fun r n' => ∃ t', r = .int (countLe (List.map Prod.fst cs) px) t' ∧ news = n') := by
  unfold ConK
  k_fill
  intro dp un gd cn cs' a ccd cl outer A₀ base h₀ L m s Q E B F X N T hk hd hu hret
  refine wpAny_call ?_
  k_dflt ((refine code_def (by (k_asm)) (by (k_asm)) (by (k_asm)) (by (k_asm)) (by (k_asm)) (by (exact rfl)) (by (exact rfl)) (by (assumption)) (by (k_is)) (by (k_is)) (by (ktr_room)) (by ((refine kp_binds (by (k_in)) (by (exact fun _ => rfl))))) (by (exact locs rfl)) ?_ (by (exact rfl)) (by (exact rfl)) (by (exact rfl)) (by (decide)); intro _ _ _ _ _ _ B'z _ _; (try dsimp only); (try k_lift B'z); (try k_fold)))
  w_on
  w_top on
  (try (rename Fr _ _ _ _ => F0z; revert F0z; show (let mKz := ?_; (Fr _ _ _ mKz → _)); intro mKz F0z))
  (try (show (let aKz := ?_; wpAny _ aKz _ _ _ _); intro aKz))
  k_with "state" => first | exact BInv.start _ _ | exact st_down (by assumption) (by assumption) (by assumption) (by assumption) (by assumption) | exact st_up (by assumption) (by assumption) (by assumption) (by assumption) (by assumption)
  k_with "measure" => first | exact ms_down (by assumption) (by assumption) | exact ms_up (by assumption) (by assumption)
  w_strict (repeat' (first
    | (k_unfold; (try dsimp only))
    | ((with_reducible show wpAny _ _ (exec _ _) _ _ _); k_fold) 
    | ((with_reducible show wpAny _ _ (compareOp CmpOp.Lt (Value.float _ _) (Value.float _ _)) _ _ _); (with_reducible (refine ltF (by (with_reducible assumption)) (by (with_reducible assumption)) ?_)))
    | ((with_reducible show wpAny _ _ (subscriptTail ..) _ _ _); (with_reducible ((refine kept_mid (by k_asm) (by with_reducible assumption) (by with_reducible assumption) (by with_reducible assumption) (by with_reducible assumption) (by with_reducible assumption) ?_; intro _ _ _ _ _ _ _ _ _ _ _))))
    | ((with_reducible show wpAny _ _ (call (Value.builtin _) _ _) _ _ _); (with_reducible ((refine kept_len (by k_asm) (by with_reducible assumption) (by with_reducible assumption) (by with_reducible assumption) ?_; intro _ _; try dsimp only))))
    | ((with_reducible show wpAny _ _ (exec (Stmt.While ..) _) _ _ _); (k_while (fun (_ : List Int) lo hi => BInv (List.map Prod.fst cs) px lo hi) (fun (_ : List Int) lo hi => (hi - lo).toNat) "lo" "hi"))
    | ((with_reducible show wpAny _ _ (call (Value.ref _) _ _) _ _ _); ((refine Con.use (hue_con _ _ _ _ _ _ _ _ (by with_reducible assumption)) (by k_asm) (by k_asm) (by k_asm) (by k_asm) (by k_asm) rfl (by ktr_room) (by ktr_units) ?_; intro _ _ _ _ _ _ hp9z; obtain ⟨e1z, e2z⟩ := hp9z; subst e1z; subst e2z; try dsimp only)))
    | (k_end; wrow_close)
    | walk1
    | (leave1; (try dsimp only))
    | dsimp only))
  all_goals exact hret _ _ _ _ (by k_asm) (by k_asm) ⟨_, by rw [← BInv.end (by assumption) (by assumption)], rfl⟩

noncomputable def insAt (vs : List Value) (k : Nat) (v : Value) : List Value := vs.take k ++ v :: vs.drop k
theorem countLe_le (ks : List Int) (px : Int) : countLe ks px ≤ ks.length := List.length_filter_le ..
theorem kl_ins_at (vs : List Value) (k : Nat) (v : Value) (h : k ≤ vs.length) : kl_ins vs (k : Int) v = insAt vs k v := by
  unfold kl_ins insAt
  have : ¬ ((k : Int) < 0) := by lia
  simp [this, Nat.min_eq_left h]
theorem fits_ix (k : Nat) (h : k < 1000) : Builtin.List.listFitsIndex (k : Int) = true := by
  unfold Builtin.List.listFitsIndex
  simp; lia
section
variable {prog : Program} {A : Around} {E : Value → Shared → Prop} {s : Shared} {h₀ : Heap} {L : Addr} {m : Str → Option Value} {news news' : Led}
theorem ins_K {l : Addr} {vs : List Value} {c k : Nat} {u : Tok} {y : Value} {Q : Value → Shared → Prop} (F : Fr h₀ L s.heap m) (N : News h₀ L s.heap news) (hk : k ≤ vs.length) (hlen : vs.length < 1000)
    (U : Upd l (listO vs c) (listO (insAt vs k y) (c + 1)) news news') (h : ∀ h', Fr h₀ L h' m → News h₀ L h' news' → Q .none { s with heap := h' }) :
    wpAny (model prog w) A (call (.builtin "list.insert") [.ref l, .int (k : Int) u, y]) Q E s :=
  kl_insert (its := vs.toArray) F N (fits_ix k (by lia)) (kl_ins_at vs k y hk) U (by rw [sizeLine_eq]; show vs.length ≤ _; lia) h
end

theorem insort_con (l a : Addr) (vs : List Value) (c : Nat) (cs : List Col) (x y z : UInt64) (px : Int) (u1 u2 u3 : Tok) (news news' : Led) (hl : (l, listO vs c) ∈ news) (ha : (a, tupO [.float x u1, .float y u2, .float z u3]) ∈ news)
    (hkp : KeptIn news vs cs) (hx : IsF x (1024 * px)) (hsort : Sorted (List.map Prod.fst cs)) (hlen : cs.length < 1000)
    (hU : Upd l (listO vs c) (listO (insAt vs (countLe (List.map Prod.fst cs) px) (.ref a)) (c + 1)) news news') :
    ConK w p loose mean mg mb 40 [.ref l, .ref a] [(Str.ofString "key", .ref 108)] news 6 32 (fun r n' => r = .none ∧ news' = n') := by
  unfold ConK
  k_fill
  intro dp un gd cn cs' a ccd cl outer A₀ base h₀ L m s Q E B F X N T hk hd hu hret
  have hv : vs.length < 1000 := by rw [hkp.1]; exact hlen
  have hk9 : countLe (List.map Prod.fst cs) px ≤ vs.length := by rw [hkp.1]; simpa using countLe_le (List.map Prod.fst cs) px
  refine wpAny_call ?_
  k_dflt ((refine code_def (by (k_asm)) (by (k_asm)) (by (k_asm)) (by (k_asm)) (by (k_asm)) (by (exact rfl)) (by (exact rfl)) (by (assumption)) (by (k_is)) (by (k_is)) (by (ktr_room)) (by ((refine kp_binds (by (k_in)) (by (exact fun _ => rfl))))) (by (exact locs rfl)) ?_ (by (exact rfl)) (by (exact rfl)) (by (exact rfl)) (by (decide)); intro _ _ _ _ _ _ B'z _ _; (try dsimp only); (try k_lift B'z); (try k_fold)))
  w_on
  w_top on
  (try (rename Fr _ _ _ _ => F0z; revert F0z; show (let mKz := ?_; (Fr _ _ _ mKz → _)); intro mKz F0z))
  (try (show (let aKz := ?_; wpAny _ aKz _ _ _ _); intro aKz))
  w_strict (repeat' (first
    | (k_unfold; (try dsimp only))
    | ((with_reducible show wpAny _ _ (exec _ _) _ _ _); k_fold) 
    | ((with_reducible show wpAny _ _ (call (Value.builtin _) _ _) _ _ _); ((refine ins_K (by k_asm) (by k_asm) (by with_reducible assumption) (by with_reducible assumption) (by with_reducible assumption) ?_; intro _ _ _; try dsimp only)))
    | ((with_reducible show wpAny _ _ (call (Value.ref _) _ _) _ _ _); ((refine ConK.use (bis4_con _ _ _ _ _ _ _ _ _ (by with_reducible assumption) (by with_reducible assumption) (by with_reducible assumption) (by with_reducible assumption) (by with_reducible assumption)) (by k_asm) (by k_asm) (by k_asm) (by k_asm) (by k_asm) rfl (by ktr_room) (by ktr_units) ?_; intro _ _ _ _ _ _ hp9z; obtain ⟨_, e1z, e2z⟩ := hp9z; subst e1z; subst e2z; try dsimp only)))
    | ((with_reducible show wpAny _ _ (call (Value.ref _) _ _) _ _ _); ((refine Con.use (hue_con _ _ _ _ _ _ _ _ (by with_reducible assumption)) (by k_asm) (by k_asm) (by k_asm) (by k_asm) (by k_asm) rfl (by ktr_room) (by ktr_units) ?_; intro _ _ _ _ _ _ hp9z; obtain ⟨e1z, e2z⟩ := hp9z; subst e1z; subst e2z; try dsimp only)))
    | (k_end; wrow_close)
    | walk1
    | (leave1; (try dsimp only))
    | dsimp only))
  all_goals exact hret _ _ _ _ (by k_asm) (by k_asm) ⟨rfl, rfl⟩
end Mine
end

section
open PySem PySem.W PyProof.Rows PySem.Calls
set_option Elab.async false
set_option maxRecDepth 100000
set_option maxHeartbeats 8000000
namespace Mine
variable {w : World} {p : Program} {loose : List Str} {mean : ExcName → Option Value} {mg mb : Str → Option Value}

theorem weight_con (a : Addr) (x y z : UInt64) (S V : Int) (u1 u2 u3 : Tok) (news : Led) (hm : (a, tupO [.float x u1, .float y u2, .float z u3]) ∈ news) (hy : IsF y (16384 * S)) (hz : IsF z (1024 * V)) (hS : 0 ≤ S ∧ S ≤ 4) (hV : 1 ≤ V ∧ V ≤ 64) :
    Con w p loose mean mg mb 115 [.ref a] news 2 8 (fun r n' => ∃ t, r = .int (64 * S + V) t ∧ news = n') := by
  unfold Con
  k_fill
  intro dp un gd cn cs a ccd cl outer A₀ base h₀ L m s Q E B F X N T hk hd hu hret
  have e1 : (16384 * S) * 4 = 65536 * S := by lia
  have e2 : (1024 * V) * 64 = 65536 * V := by lia
  have e3 : 65536 * S / 65536 = S := by lia
  have e4 : 65536 * V / 65536 = V := by lia
  refine wpAny_call ?_
  k_dflt cell_enter
  w_on
  w_top off
  (try (rename Fr _ _ _ _ => F0z; revert F0z; show (let mKz := ?_; (Fr _ _ _ mKz → _)); intro mKz F0z))
  (try (show (let aKz := ?_; wpAny _ aKz _ _ _ _); intro aKz))
  w_strict (repeat' (first
    | (k_unfold; (try dsimp only))
    | ((with_reducible show wpAny _ _ (exec _ _) _ _ _); k_fold; (try (refine anyTok fun _ => ?_)); (try dsimp only)) 
    | ((with_reducible show wpAny _ _ (call (Value.type _) _ _) _ _ _); (with_reducible ((refine intF (by (with_reducible assumption)) (by lia) (by with_reducible assumption) ?_; intro _; try dsimp only))))
    | ((with_reducible show wpAny _ _ (binaryOp Operator.Mult (Value.float _ _) (Value.int _ _)) _ _ _); (with_reducible ((refine mulFI (by (with_reducible assumption)) (by with_reducible assumption) (by lia) (by lia) ?_; intro _ _ _; try dsimp only))))
    | (k_end; wrow_close)
    | walk1
    | (leave1; (try dsimp only))
    | dsimp only))
  all_goals exact hret _ _ _ _ (by k_asm) (by k_asm) ⟨_, by rw [Int.mul_comm 64 S], rfl⟩

theorem place_con (a : Addr) (h s v u : Int) (u1 u2 u3 u4 : Tok) (news : Led) (hm : (a, tupO [.int h u1, .int s u2, .int v u3, .int u u4]) ∈ news) :
    Con w p loose mean mg mb 134 [.ref a] news 2 8 (fun r n' => ∃ t, r = .int (if 0 < s then h else 0) t ∧ news = n') := by
  unfold Con
  k_fill
  intro dp un gd cn cs a ccd cl outer A₀ base h₀ L m s Q E B F X N T hk hd hu hret
  refine wpAny_call ?_
  k_dflt cell_enter
  w_on
  w_top off
  (try (rename Fr _ _ _ _ => F0z; revert F0z; show (let mKz := ?_; (Fr _ _ _ mKz → _)); intro mKz F0z))
  (try (show (let aKz := ?_; wpAny _ aKz _ _ _ _); intro aKz))
  w_strict (repeat' (first
    | (k_unfold; (try dsimp only))
    | ((with_reducible show wpAny _ _ (exec _ _) _ _ _); k_fold; (try (refine anyTok fun _ => ?_)); (try dsimp only)) 
    | (k_end; wrow_close)
    | walk1
    | (leave1; (try dsimp only))
    | dsimp only))
  · exact hret _ _ _ _ (by k_asm) (by k_asm) ⟨_, by rw [if_pos (by assumption)], rfl⟩
  · exact hret _ _ _ _ (by k_asm) (by k_asm) ⟨_, by rw [if_neg (by assumption)], rfl⟩

theorem colour_con (x : Int) (t : Tok) (news : Led) :
    Con w p loose mean mg mb 94 [.int x t] news 2 8 (fun r n' => ∃ a t1 t2 t3 t4, r = .ref a ∧ n' = (a, tupO [.int (x % 64) t1, .int (x / 64 % 5) t2, .int (x / 320 % 64 + 1) t3, .int (x / 20480 % 3) t4]) :: news ∧ (∀ q ∈ news, q.1 < a)) := by
  unfold Con
  k_fill
  intro dp un gd cn cs a ccd cl outer A₀ base h₀ L m s Q E B F X N T hk hd hu hret
  have f1 : ∀ y : Int, y.fmod 64 = y % 64 := fun y => Int.fmod_eq_emod_of_nonneg _ (by decide)
  have f2 : ∀ y : Int, y.fmod 5 = y % 5 := fun y => Int.fmod_eq_emod_of_nonneg _ (by decide)
  have f3 : ∀ y : Int, y.fmod 3 = y % 3 := fun y => Int.fmod_eq_emod_of_nonneg _ (by decide)
  have f4 : ∀ y : Int, y.fdiv 64 = y / 64 := fun y => Int.fdiv_eq_ediv_of_nonneg _ (by decide)
  have f5 : ∀ y : Int, y.fdiv 320 = y / 320 := fun y => Int.fdiv_eq_ediv_of_nonneg _ (by decide)
  have f6 : ∀ y : Int, y.fdiv 20480 = y / 20480 := fun y => Int.fdiv_eq_ediv_of_nonneg _ (by decide)
  refine wpAny_call ?_
  k_dflt cell_enter
  w_on
  w_top off
  (try (rename Fr _ _ _ _ => F0z; revert F0z; show (let mKz := ?_; (Fr _ _ _ mKz → _)); intro mKz F0z))
  (try (show (let aKz := ?_; wpAny _ aKz _ _ _ _); intro aKz))
  w_strict (repeat' (first
    | (k_unfold; (try dsimp only))
    | ((with_reducible show wpAny _ _ (exec _ _) _ _ _); k_fold; (try (refine anyTok fun _ => ?_)); (try dsimp only)) 
    | (k_end; wrow_close)
    | walk1
    | (leave1; (try dsimp only))
    | dsimp only))
  all_goals exact hret _ _ _ _ (by k_asm) (by k_asm) ⟨_, _, _, _, _, rfl, by simp only [f1, f2, f3, f4, f5, f6]; rfl, by assumption⟩
end Mine
end

section
set_option Elab.async false
set_option maxRecDepth 100000
namespace Mine
open PySem PySem.Sre PySem.Sre.M
noncomputable def c1 : Array Nat := #[14, 4, 0, 1, 1, 6, 1, 16, 46, 1]
noncomputable def c2 : Array Nat := #[14, 9, 4, 1, 2, 16, 10, 16, 13, 0, 7, 7, 16, 13, 16, 10, 15, 18, 5, 16, 10, 15, 13, 11, 16, 13, 5, 5, 0, 16, 10, 1, 15, 2, 0, 1]

theorem runFor_succ {n : Nat} {m : M} (h : m.outcome = none) : runFor (n + 1) m = runFor n m.step := by
  show (if m.outcome.isSome then m else runFor n m.step) = _
  rw [h]; rfl
noncomputable def Ends (P : M → Prop) (n : Nat) (m : M) : Prop := ∃ k, k ≤ n ∧ (runFor k m).outcome.isSome = true ∧ P (runFor k m)
theorem Ends.now {P : M → Prop} {n : Nat} {m : M} (h : m.outcome.isSome = true) (hp : P m) : Ends P n m := ⟨0, Nat.zero_le _, h, hp⟩
theorem Ends.step {P : M → Prop} {n : Nat} {m m' : M} (h : m.outcome = none) (e : m.step = m') (hs : Ends P n m') : Ends P (n + 1) m := by
  subst e
  obtain ⟨k, hk, h1, h2⟩ := hs
  exact ⟨k + 1, by lia, by rw [runFor_succ h]; exact h1, by rw [runFor_succ h]; exact h2⟩
theorem Ends.mono {P : M → Prop} {n n' : Nat} {m : M} (h : Ends P n m) (hn : n ≤ n') : Ends P n' m := let ⟨k, a, b⟩ := h; ⟨k, Nat.le_trans a hn, b⟩
noncomputable def Found (s e : Nat) (m : M) : Prop := m.outcome = some .matched ∧ m.start = s ∧ m.handed = e
noncomputable def Failed (m : M) : Prop := m.outcome = some .failed

noncomputable def at1 (text : Array Nat) (s : Nat) (first : Bool) (seen : Seen) : M :=
  { code := c1, text, lim := text.size, start := s, lastStart := text.size, mustAdvance := false, pc := 5, pos := s, handed := s, outermost := first, marks := #[], lastmark := -1, lastindex := -1,
    frames := [{ wait := .nextStart, pc := 5, pos := s, outermost := first }], weight := 1, seen }
noncomputable def bol (text : Array Nat) (s : Nat) : Bool := s == 0 || text.getD (s - 1) 0 == 10

noncomputable def no1 (text : Array Nat) (s : Nat) (first : Bool) (seen : Seen) (pc : Nat) : M := { at1 text s first seen with pc := pc }.say false
noncomputable def lit1 (text : Array Nat) (s : Nat) (first : Bool) (seen : Seen) : M := { at1 text s first seen with pc := 7 }
noncomputable def ok1 (text : Array Nat) (s : Nat) (first : Bool) (seen : Seen) : M := { at1 text s first seen with pc := 9, pos := s + 1 }
noncomputable def yes1 (text : Array Nat) (s : Nat) (first : Bool) (seen : Seen) : M := { at1 text s first seen with pc := 9, pos := s + 1, handed := s + 1 }.say true
noncomputable def won1 (text : Array Nat) (s : Nat) (first : Bool) (seen : Seen) : M := { at1 text s first seen with handed := s + 1, frames := [], weight := 0 }.say true
noncomputable def out1 (text : Array Nat) (s : Nat) (first : Bool) (seen : Seen) : M := { at1 text s first seen with frames := [], weight := 0 }.say false
theorem at1_AT (text : Array Nat) (s : Nat) (first : Bool) (seen : Seen) : M.step (at1 text s first seen) =
    if bol text s then lit1 text s first ((seen.add 6).add 44) else no1 text s first ((seen.add 6).add 44) 5 := by
  show (let m := { at1 text s first seen with seen := (seen.add 6).add 44 }; if bol text s then { m with pc := 7 } else m.say false) = _
  rfl
theorem at1_ATt {text : Array Nat} {s : Nat} {first : Bool} {seen : Seen} (h : bol text s = true) : M.step (at1 text s first seen) = lit1 text s first ((seen.add 6).add 44) := by rw [at1_AT, h]; rfl
theorem at1_ATf {text : Array Nat} {s : Nat} {first : Bool} {seen : Seen} (h : bol text s = false) : M.step (at1 text s first seen) = no1 text s first ((seen.add 6).add 44) 5 := by rw [at1_AT, h]; rfl
theorem at1_miss {text : Array Nat} {s : Nat} {first : Bool} {seen : Seen} {pc : Nat} (h : s < text.size) : M.step (no1 text s first seen pc) = at1 text (s + 1) false seen := by
  show (if s < text.size then _ else _) = _
  rw [if_pos h]; rfl
theorem at1_last {text : Array Nat} {s : Nat} {first : Bool} {seen : Seen} {pc : Nat} (h : ¬ s < text.size) : M.step (no1 text s first seen pc) = out1 text s first seen := by
  show (if s < text.size then _ else _) = _
  rw [if_neg h]; rfl
theorem at1_LIT (text : Array Nat) (s : Nat) (first : Bool) (seen : Seen) : M.step (lit1 text s first seen) =
    if s ≥ text.size then no1 text s first (seen.add 16) 7 else if text.getD s 0 == 46 then ok1 text s first (seen.add 16) else no1 text s first (seen.add 16) 7 := by
  show (if s ≥ text.size then _ else (match (.ok (text.getD s 0 == 46, seen.add 16) : Except String (Bool × Seen)) with
    | .error why => _
    | .ok (false, seen) => _
    | .ok (true, seen) => _)) = _
  by_cases h : s ≥ text.size
  · rw [if_pos h, if_pos h]; rfl
  · rw [if_neg h, if_neg h]
    cases text.getD s 0 == 46 <;> rfl
theorem at1_LITe {text : Array Nat} {s : Nat} {first : Bool} {seen : Seen} (h : s ≥ text.size) : M.step (lit1 text s first seen) = no1 text s first (seen.add 16) 7 := by rw [at1_LIT, if_pos h]
theorem at1_LITt {text : Array Nat} {s : Nat} {first : Bool} {seen : Seen} (h : ¬ s ≥ text.size) (hc : (text.getD s 0 == 46) = true) : M.step (lit1 text s first seen) = ok1 text s first (seen.add 16) := by rw [at1_LIT, if_neg h, hc]; rfl
theorem at1_LITf {text : Array Nat} {s : Nat} {first : Bool} {seen : Seen} (h : ¬ s ≥ text.size) (hc : (text.getD s 0 == 46) = false) : M.step (lit1 text s first seen) = no1 text s first (seen.add 16) 7 := by rw [at1_LIT, if_neg h, hc]; rfl
theorem at1_OK (text : Array Nat) (s : Nat) (first : Bool) (seen : Seen) : M.step (ok1 text s first seen) = yes1 text s first (seen.add 1) := by
  cases first <;> rfl
theorem at1_YES (text : Array Nat) (s : Nat) (first : Bool) (seen : Seen) : M.step (yes1 text s first seen) = won1 text s first seen := rfl
theorem won1_end (text : Array Nat) (s : Nat) (first : Bool) (seen : Seen) : Ends (Found s (s + 1)) 1 (won1 text s first seen) := Ends.step rfl rfl (Ends.now (n := 0) rfl ⟨rfl, rfl, rfl⟩)
theorem out1_end (text : Array Nat) (s : Nat) (first : Bool) (seen : Seen) : Ends Failed 1 (out1 text s first seen) := Ends.step rfl rfl (Ends.now (n := 0) rfl rfl)

noncomputable def dotAt (text : Array Nat) (s : Nat) : Bool := decide (s < text.size) && bol text s && text.getD s 0 == 46
theorem at1_run (text : Array Nat) : ∀ (n s : Nat) (first : Bool) (seen : Seen), text.size - s = n → s ≤ text.size →
    (∃ e, s ≤ e ∧ dotAt text e = true ∧ (∀ i, s ≤ i → i < e → dotAt text i = false) ∧ Ends (Found e (e + 1)) (4 * n + 8) (at1 text s first seen)) ∨
    ((∀ i, s ≤ i → dotAt text i = false) ∧ Ends Failed (4 * n + 8) (at1 text s first seen)) := by
  intro n
  induction n with
  | zero =>
    intro s first seen hn hs
    have hsz : s = text.size := by lia
    have hno : ∀ i, s ≤ i → dotAt text i = false := fun i hi => by
      unfold dotAt; rw [decide_eq_false (by lia)]; rfl
    refine .inr ⟨hno, ?_⟩
    cases hb : bol text s with
    | false => exact Ends.mono (Ends.step rfl (at1_ATf hb) (Ends.step rfl (at1_last (by lia)) (out1_end ..))) (by lia)
    | true => exact Ends.mono (Ends.step rfl (at1_ATt hb) (Ends.step rfl (at1_LITe (by lia)) (Ends.step rfl (at1_last (by lia)) (out1_end ..)))) (by lia)
  | succ n ih =>
    intro s first seen hn hs
    have hlt : s < text.size := by lia
    cases hb : bol text s with
    | false =>
      have hd : dotAt text s = false := by unfold dotAt; rw [hb]; simp
      have next : ∀ {P : M → Prop}, Ends P (4 * n + 8) (at1 text (s + 1) false ((seen.add 6).add 44)) → Ends P (4 * (n + 1) + 8) (at1 text s first seen) := fun he =>
        Ends.mono (Ends.step rfl (at1_ATf hb) (Ends.step rfl (at1_miss hlt) he)) (by lia)
      rcases ih (s + 1) false ((seen.add 6).add 44) (by lia) (by lia) with ⟨e, he, h1, h2, h3⟩ | ⟨h1, h3⟩
      · exact .inl ⟨e, by lia, h1, fun i hi hie => if q : i = s then q ▸ hd else h2 i (by lia) hie, next h3⟩
      · exact .inr ⟨fun i hi => if q : i = s then q ▸ hd else h1 i (by lia), next h3⟩
    | true =>
      cases hc : text.getD s 0 == 46 with
      | true =>
        refine .inl ⟨s, Nat.le_refl _, by unfold dotAt; rw [hb, hc, decide_eq_true hlt]; rfl, fun i h1 h2 => absurd h2 (by lia), ?_⟩
        exact Ends.mono (Ends.step rfl (at1_ATt hb) (Ends.step rfl (at1_LITt (by lia) hc) (Ends.step rfl (at1_OK text s first _) (Ends.step rfl (at1_YES text s first _) (won1_end ..))))) (by lia)
      | false =>
        have hd : dotAt text s = false := by unfold dotAt; rw [hc]; simp
        have next : ∀ {P : M → Prop}, Ends P (4 * n + 8) (at1 text (s + 1) false (((seen.add 6).add 44).add 16)) → Ends P (4 * (n + 1) + 8) (at1 text s first seen) := fun he =>
          Ends.mono (Ends.step rfl (at1_ATt hb) (Ends.step rfl (at1_LITf (by lia) hc) (Ends.step rfl (at1_miss hlt) he))) (by lia)
        rcases ih (s + 1) false (((seen.add 6).add 44).add 16) (by lia) (by lia) with ⟨e, he, h1, h2, h3⟩ | ⟨h1, h3⟩
        · exact .inl ⟨e, by lia, h1, fun i hi hie => if q : i = s then q ▸ hd else h2 i (by lia) hie, next h3⟩
        · exact .inr ⟨fun i hi => if q : i = s then q ▸ hd else h1 i (by lia), next h3⟩

theorem search1 (text : Array Nat) (s : Nat) (hs : s ≤ text.size) :
    (∃ e, s ≤ e ∧ dotAt text e = true ∧ (∀ i, s ≤ i → i < e → dotAt text i = false) ∧ Ends (Found e (e + 1)) (4 * text.size + 8) (forSearch c1 text 0 s text.size false)) ∨
    ((∀ i, s ≤ i → dotAt text i = false) ∧ Ends Failed (4 * text.size + 8) (forSearch c1 text 0 s text.size false)) := by
  by_cases h : s = text.size
  · refine .inr ⟨fun i hi => by unfold dotAt; rw [decide_eq_false (by lia)]; rfl, ?_⟩
    have e : forSearch c1 text 0 s text.size false = { ({ code := c1, text, lim := text.size, start := s, pc := 5, pos := s, handed := s, marks := #[], seen := ({} : Seen).add 14 } : M) with answer := some false } := by
      show (if s > text.size || text.size - s < 1 then _ else _) = _
      rw [if_pos (by simp; lia)]; rfl
    rw [e]
    exact Ends.mono (Ends.step rfl rfl (Ends.now (n := 0) rfl rfl)) (by lia)
  · have e : forSearch c1 text 0 s text.size false = at1 text s true (({} : Seen).add 14) := by
      show (if s > text.size || text.size - s < 1 then _ else _) = _
      rw [if_neg (by simp; lia)]; rfl
    rw [e]
    rcases at1_run text (text.size - s) s true (({} : Seen).add 14) rfl hs with ⟨e, h1, h2, h3, h4⟩ | ⟨h1, h2⟩
    · exact .inl ⟨e, h1, h2, h3, h4.mono (by lia)⟩
    · exact .inr ⟨h1, h2.mono (by lia)⟩
end Mine
end

section
set_option Elab.async false
set_option maxRecDepth 100000
namespace Mine
open PySem PySem.Sre PySem.Sre.M
noncomputable def g2 (text : Array Nat) (s : Nat) (fr : List Sre.Frame) (pc pos h : Nat) (om : Bool) (w : Nat) (seen : Seen) (a : Option Bool) : M :=
  { code := c2, text, lim := text.size, start := s, lastStart := text.size, pc, pos, handed := h, outermost := om, marks := #[], lastmark := -1, lastindex := -1, frames := fr, weight := w, seen, answer := a }
noncomputable def fS (s : Nat) (om : Bool) : Sre.Frame := { wait := .nextStart, pc := 10, pos := s, outermost := om }
noncomputable def fB (k s : Nat) (om : Bool) : Sre.Frame := { wait := .nextBranch, pc := k, pos := s, outermost := om }
noncomputable def fN (s : Nat) (om : Bool) : Sre.Frame := { wait := .lookNot, pc := 26, pos := s, outermost := om }
section
variable {text : Array Nat} {s pos h w : Nat} {fr : List Sre.Frame} {om : Bool} {seen : Seen}
theorem lit12 : M.step (g2 text s fr 12 pos h om w seen none) =
    if pos ≥ text.size then g2 text s fr 12 pos h om w (seen.add 16) (some false) else if text.getD pos 0 == 13 then g2 text s fr 14 (pos + 1) h om w (seen.add 16) none else g2 text s fr 12 pos h om w (seen.add 16) (some false) := by
  show (if pos ≥ text.size then _ else (match (.ok (text.getD pos 0 == 13, seen.add 16) : Except String (Bool × Seen)) with
    | .error why => _
    | .ok (false, seen) => _
    | .ok (true, seen) => _)) = _
  by_cases q : pos ≥ text.size
  · rw [if_pos q, if_pos q]; rfl
  · rw [if_neg q, if_neg q]
    cases text.getD pos 0 == 13 <;> rfl
theorem lit12t (q : pos < text.size) (hc : text.getD pos 0 = 13) : M.step (g2 text s fr 12 pos h om w seen none) = g2 text s fr 14 (pos + 1) h om w (seen.add 16) none := by
  rw [lit12, if_neg (by lia), hc]; rfl
theorem lit12f (hc : ¬ (pos < text.size ∧ text.getD pos 0 = 13)) : M.step (g2 text s fr 12 pos h om w seen none) = g2 text s fr 12 pos h om w (seen.add 16) (some false) := by
  rw [lit12]
  by_cases q : pos ≥ text.size
  · rw [if_pos q]
  · rw [if_neg q]
    have e : (text.getD pos 0 == 13) = false := by
      rw [beq_eq_false_iff_ne]; intro e; exact hc ⟨by lia, e⟩
    rw [e]; rfl
theorem lit14 : M.step (g2 text s fr 14 pos h om w seen none) =
    if pos ≥ text.size then g2 text s fr 14 pos h om w (seen.add 16) (some false) else if text.getD pos 0 == 10 then g2 text s fr 16 (pos + 1) h om w (seen.add 16) none else g2 text s fr 14 pos h om w (seen.add 16) (some false) := by
  show (if pos ≥ text.size then _ else (match (.ok (text.getD pos 0 == 10, seen.add 16) : Except String (Bool × Seen)) with
    | .error why => _
    | .ok (false, seen) => _
    | .ok (true, seen) => _)) = _
  by_cases q : pos ≥ text.size
  · rw [if_pos q, if_pos q]; rfl
  · rw [if_neg q, if_neg q]
    cases text.getD pos 0 == 10 <;> rfl
theorem lit14t (q : pos < text.size) (hc : text.getD pos 0 = 10) : M.step (g2 text s fr 14 pos h om w seen none) = g2 text s fr 16 (pos + 1) h om w (seen.add 16) none := by
  rw [lit14, if_neg (by lia), hc]; rfl
theorem lit14f (hc : ¬ (pos < text.size ∧ text.getD pos 0 = 10)) : M.step (g2 text s fr 14 pos h om w seen none) = g2 text s fr 14 pos h om w (seen.add 16) (some false) := by
  rw [lit14]
  by_cases q : pos ≥ text.size
  · rw [if_pos q]
  · rw [if_neg q]
    have e : (text.getD pos 0 == 10) = false := by
      rw [beq_eq_false_iff_ne]; intro e; exact hc ⟨by lia, e⟩
    rw [e]; rfl
theorem lit19 : M.step (g2 text s fr 19 pos h om w seen none) =
    if pos ≥ text.size then g2 text s fr 19 pos h om w (seen.add 16) (some false) else if text.getD pos 0 == 10 then g2 text s fr 21 (pos + 1) h om w (seen.add 16) none else g2 text s fr 19 pos h om w (seen.add 16) (some false) := by
  show (if pos ≥ text.size then _ else (match (.ok (text.getD pos 0 == 10, seen.add 16) : Except String (Bool × Seen)) with
    | .error why => _
    | .ok (false, seen) => _
    | .ok (true, seen) => _)) = _
  by_cases q : pos ≥ text.size
  · rw [if_pos q, if_pos q]; rfl
  · rw [if_neg q, if_neg q]
    cases text.getD pos 0 == 10 <;> rfl
theorem lit19t (q : pos < text.size) (hc : text.getD pos 0 = 10) : M.step (g2 text s fr 19 pos h om w seen none) = g2 text s fr 21 (pos + 1) h om w (seen.add 16) none := by
  rw [lit19, if_neg (by lia), hc]; rfl
theorem lit19f (hc : ¬ (pos < text.size ∧ text.getD pos 0 = 10)) : M.step (g2 text s fr 19 pos h om w seen none) = g2 text s fr 19 pos h om w (seen.add 16) (some false) := by
  rw [lit19]
  by_cases q : pos ≥ text.size
  · rw [if_pos q]
  · rw [if_neg q]
    have e : (text.getD pos 0 == 10) = false := by
      rw [beq_eq_false_iff_ne]; intro e; exact hc ⟨by lia, e⟩
    rw [e]; rfl
theorem lit24 : M.step (g2 text s fr 24 pos h om w seen none) =
    if pos ≥ text.size then g2 text s fr 24 pos h om w (seen.add 16) (some false) else if text.getD pos 0 == 13 then g2 text s fr 26 (pos + 1) h om w (seen.add 16) none else g2 text s fr 24 pos h om w (seen.add 16) (some false) := by
  show (if pos ≥ text.size then _ else (match (.ok (text.getD pos 0 == 13, seen.add 16) : Except String (Bool × Seen)) with
    | .error why => _
    | .ok (false, seen) => _
    | .ok (true, seen) => _)) = _
  by_cases q : pos ≥ text.size
  · rw [if_pos q, if_pos q]; rfl
  · rw [if_neg q, if_neg q]
    cases text.getD pos 0 == 13 <;> rfl
theorem lit24t (q : pos < text.size) (hc : text.getD pos 0 = 13) : M.step (g2 text s fr 24 pos h om w seen none) = g2 text s fr 26 (pos + 1) h om w (seen.add 16) none := by
  rw [lit24, if_neg (by lia), hc]; rfl
theorem lit24f (hc : ¬ (pos < text.size ∧ text.getD pos 0 = 13)) : M.step (g2 text s fr 24 pos h om w seen none) = g2 text s fr 24 pos h om w (seen.add 16) (some false) := by
  rw [lit24]
  by_cases q : pos ≥ text.size
  · rw [if_pos q]
  · rw [if_neg q]
    have e : (text.getD pos 0 == 13) = false := by
      rw [beq_eq_false_iff_ne]; intro e; exact hc ⟨by lia, e⟩
    rw [e]; rfl
theorem lit29 : M.step (g2 text s fr 29 pos h om w seen none) =
    if pos ≥ text.size then g2 text s fr 29 pos h om w (seen.add 16) (some false) else if text.getD pos 0 == 10 then g2 text s fr 31 (pos + 1) h om w (seen.add 16) none else g2 text s fr 29 pos h om w (seen.add 16) (some false) := by
  show (if pos ≥ text.size then _ else (match (.ok (text.getD pos 0 == 10, seen.add 16) : Except String (Bool × Seen)) with
    | .error why => _
    | .ok (false, seen) => _
    | .ok (true, seen) => _)) = _
  by_cases q : pos ≥ text.size
  · rw [if_pos q, if_pos q]; rfl
  · rw [if_neg q, if_neg q]
    cases text.getD pos 0 == 10 <;> rfl
theorem lit29t (q : pos < text.size) (hc : text.getD pos 0 = 10) : M.step (g2 text s fr 29 pos h om w seen none) = g2 text s fr 31 (pos + 1) h om w (seen.add 16) none := by
  rw [lit29, if_neg (by lia), hc]; rfl
theorem lit29f (hc : ¬ (pos < text.size ∧ text.getD pos 0 = 10)) : M.step (g2 text s fr 29 pos h om w seen none) = g2 text s fr 29 pos h om w (seen.add 16) (some false) := by
  rw [lit29]
  by_cases q : pos ≥ text.size
  · rw [if_pos q]
  · rw [if_neg q]
    have e : (text.getD pos 0 == 10) = false := by
      rw [beq_eq_false_iff_ne]; intro e; exact hc ⟨by lia, e⟩
    rw [e]; rfl
theorem br10 : M.step (g2 text s [fS s om] 10 s s om 1 seen none) = g2 text s [fB 11 s om, fS s om] 12 s s om 2 (seen.add 7) none := rfl
theorem nb11 {pc : Nat} : M.step (g2 text s [fB 11 s om, fS s om] pc pos h om 2 seen (some false)) = g2 text s [fB 18 s om, fS s om] 19 s s om 2 seen none := rfl
theorem nb18 {pc : Nat} : M.step (g2 text s [fB 18 s om, fS s om] pc pos h om 2 seen (some false)) = g2 text s [fB 23 s om, fS s om] 24 s s om 2 seen none := rfl
theorem jp16 : M.step (g2 text s fr 16 pos h om w seen none) = g2 text s fr 35 pos h om w (seen.add 15) none := rfl
theorem jp21 : M.step (g2 text s fr 21 pos h om w seen none) = g2 text s fr 35 pos h om w (seen.add 15) none := rfl
theorem jp32 : M.step (g2 text s fr 32 pos h om w seen none) = g2 text s fr 35 pos h om w (seen.add 15) none := rfl
theorem ok35 : M.step (g2 text s fr 35 pos h om w seen none) = g2 text s fr 35 pos pos om w (seen.add 1) (some true) := by cases om <;> rfl
theorem yesB {k : Nat} : M.step (g2 text s [fB k s om, fS s om] 35 pos h om 2 seen (some true)) = g2 text s [fS s om] k s h om 1 seen (some true) := rfl
theorem yesS {k : Nat} : M.step (g2 text s [fS s om] k s h om 1 seen (some true)) = g2 text s [] 10 s h om 0 seen (some true) := rfl
theorem an26 : M.step (g2 text s [fB 23 s om, fS s om] 26 pos h om 2 seen none) = g2 text s [fN pos om, fB 23 s om, fS s om] 29 pos pos false 3 (seen.add 5) none := rfl
theorem ln26 {q : Nat} {o' : Bool} : M.step (g2 text s [fN pos om, fB 23 s om, fS s om] 29 q h o' 3 seen (some false)) = g2 text s [fB 23 s om, fS s om] 32 pos h om 2 seen none := rfl
theorem won2 : Ends (Found s h) 1 (g2 text s [] 10 s h om 0 seen (some true)) := Ends.step rfl rfl (Ends.now (n := 0) rfl ⟨rfl, rfl, rfl⟩)
theorem tail2 {k : Nat} : Ends (Found s pos) 4 (g2 text s [fB k s om, fS s om] 35 pos h om 2 seen none) := Ends.step rfl ok35 (Ends.step rfl yesB (Ends.step rfl yesS won2))

theorem run_crlf (h1 : s + 1 < text.size) (c0 : text.getD s 0 = 13) (c9 : text.getD (s + 1) 0 = 10) : Ends (Found s (s + 2)) 40 (g2 text s [fS s om] 10 s s om 1 seen none) :=
  Ends.mono (Ends.step rfl br10 (Ends.step rfl (lit12t (by lia) c0) (Ends.step rfl (lit14t h1 c9) (Ends.step rfl jp16 tail2)))) (by decide)
theorem run_cr (h1 : s < text.size) (c0 : text.getD s 0 = 13) (c9 : ¬ (s + 1 < text.size ∧ text.getD (s + 1) 0 = 10)) : Ends (Found s (s + 1)) 40 (g2 text s [fS s om] 10 s s om 1 seen none) :=
  Ends.mono (Ends.step rfl br10 (Ends.step rfl (lit12t h1 c0) (Ends.step rfl (lit14f c9) (Ends.step rfl nb11 (Ends.step rfl (lit19f (by rw [c0]; lia)) (Ends.step rfl nb18 (Ends.step rfl (lit24t h1 c0)
    (Ends.step rfl an26 (Ends.step rfl (lit29f c9) (Ends.step rfl ln26 (Ends.step rfl jp32 tail2))))))))))) (by decide)
theorem run_lf (h1 : s < text.size) (c0 : text.getD s 0 = 10) : Ends (Found s (s + 1)) 40 (g2 text s [fS s om] 10 s s om 1 seen none) :=
  Ends.mono (Ends.step rfl br10 (Ends.step rfl (lit12f (by rw [c0]; lia)) (Ends.step rfl nb11 (Ends.step rfl (lit19t h1 c0) (Ends.step rfl jp21 tail2))))) (by decide)
end
noncomputable def nlAt (text : Array Nat) (i : Nat) : Bool := decide (i < text.size) && (text.getD i 0 == 10 || text.getD i 0 == 13)
theorem inSet2 (c : Nat) (seen : Seen) : ∃ seen', inSet c2 c 36 5 true seen = .ok (c == 10 || c == 13, seen') := by
  by_cases h1 : (c == 10) = true
  · refine ⟨seen.add 16, ?_⟩
    show (if c == 10 then _ else _) = _
    rw [if_pos h1, h1]; rfl
  · by_cases h2 : (c == 13) = true
    · refine ⟨(seen.add 16).add 16, ?_⟩
      show (if c == 10 then _ else if c == 13 then _ else _) = _
      rw [if_neg h1, if_pos h2, h2, Bool.or_true]; rfl
    · refine ⟨((seen.add 16).add 16).add 0, ?_⟩
      show (if c == 10 then _ else if c == 13 then _ else _) = _
      rw [if_neg h1, if_neg h2, Bool.eq_false_iff.mpr h1, Bool.eq_false_iff.mpr h2]; rfl
theorem admitted2 (m : M) (text : Array Nat) (hc : m.code = c2) (ht : m.text = text) (hl : m.lim = text.size) : ∀ (fuel s : Nat) (seen : Seen), text.size - s < fuel →
    (∃ e seen', s ≤ e ∧ nlAt text e = true ∧ (∀ i, s ≤ i → i < e → nlAt text i = false) ∧ admitted m fuel s seen = .ok (some e, seen')) ∨
    ((∀ i, s ≤ i → nlAt text i = false) ∧ ∃ seen', admitted m fuel s seen = .ok (none, seen')) := by
  intro fuel
  induction fuel with
  | zero => intro s seen h; lia
  | succ fuel ih =>
    intro s seen h
    by_cases hs : s ≥ text.size
    · refine .inr ⟨fun i hi => by unfold nlAt; rw [decide_eq_false (by lia)]; rfl, seen, ?_⟩
      unfold admitted; rw [if_pos (by rw [hl]; exact hs)]
    · obtain ⟨seen', he⟩ := inSet2 (text.getD s 0) seen
      have e0 : inSet m.code (m.text.getD s 0) m.code.size 5 true seen = .ok (text.getD s 0 == 10 || text.getD s 0 == 13, seen') := by rw [hc, ht]; exact he
      cases hb : (text.getD s 0 == 10 || text.getD s 0 == 13) with
      | true =>
        refine .inl ⟨s, seen', Nat.le_refl _, by unfold nlAt; rw [hb, decide_eq_true (by lia)]; rfl, fun i h1 h2 => absurd h2 (by lia), ?_⟩
        unfold admitted; rw [if_neg (by rw [hl]; exact hs), e0, hb]
      | false =>
        have hd : nlAt text s = false := by unfold nlAt; rw [hb]; simp
        have es : admitted m (fuel + 1) s seen = admitted m fuel (s + 1) seen' := by
          conv => lhs; unfold admitted
          rw [if_neg (by rw [hl]; exact hs), e0, hb]
        rw [es]
        rcases ih (s + 1) seen' (by lia) with ⟨e, sn, h1, h2, h3, h4⟩ | ⟨h1, sn, h2⟩
        · exact .inl ⟨e, sn, by lia, h2, fun i hi hie => if q : i = s then q ▸ hd else h3 i (by lia) hie, h4⟩
        · exact .inr ⟨fun i hi => if q : i = s then q ▸ hd else h1 i (by lia), sn, h2⟩

noncomputable def nlEnd (text : Array Nat) (e : Nat) : Nat := if text.getD e 0 = 13 ∧ e + 1 < text.size ∧ text.getD (e + 1) 0 = 10 then e + 2 else e + 1
theorem run2 (text : Array Nat) (e : Nat) (om : Bool) (seen : Seen) (h : nlAt text e = true) : Ends (Found e (nlEnd text e)) 40 (g2 text e [fS e om] 10 e e om 1 seen none) := by
  unfold nlAt at h
  simp only [Bool.and_eq_true, decide_eq_true_eq, Bool.or_eq_true, beq_iff_eq] at h
  obtain ⟨h1, h2⟩ := h
  unfold nlEnd
  by_cases q : text.getD e 0 = 13 ∧ e + 1 < text.size ∧ text.getD (e + 1) 0 = 10
  · rw [if_pos q]; exact run_crlf q.2.1 q.1 q.2.2
  · rw [if_neg q]
    rcases h2 with c | c
    · exact run_lf h1 c
    · exact run_cr h1 c fun r => q ⟨c, r.1, r.2⟩
theorem search2 (text : Array Nat) (s : Nat) (hs : s ≤ text.size) :
    (∃ e, s ≤ e ∧ nlAt text e = true ∧ (∀ i, s ≤ i → i < e → nlAt text i = false) ∧ Ends (Found e (nlEnd text e)) 40 (forSearch c2 text 0 s text.size false)) ∨
    ((∀ i, s ≤ i → nlAt text i = false) ∧ Ends Failed 40 (forSearch c2 text 0 s text.size false)) := by
  by_cases h : s = text.size
  · refine .inr ⟨fun i hi => by unfold nlAt; rw [decide_eq_false (by lia)]; rfl, ?_⟩
    have e : forSearch c2 text 0 s text.size false = { ({ code := c2, text, lim := text.size, start := s, pc := 10, pos := s, handed := s, marks := #[], seen := ({} : Seen).add 14 } : M) with answer := some false } := by
      show (if s > text.size || text.size - s < 1 then _ else _) = _
      rw [if_pos (by simp; lia)]; rfl
    rw [e]
    exact Ends.mono (Ends.step rfl rfl (Ends.now (n := 0) rfl rfl)) (by lia)
  · have e : forSearch c2 text 0 s text.size false = M.attemptFrom { code := c2, text, lim := text.size, start := s, lastStart := text.size, pc := 10, pos := s, handed := s, marks := #[], seen := ({} : Seen).add 14 } s true := by
      show (if s > text.size || text.size - s < 1 then _ else _) = _
      rw [if_neg (by simp; lia)]; rfl
    rw [e]
    have ef : M.attemptFrom { code := c2, text, lim := text.size, start := s, lastStart := text.size, pc := 10, pos := s, handed := s, marks := #[], seen := ({} : Seen).add 14 } s true =
      (match admitted { code := c2, text, lim := text.size, start := s, lastStart := text.size, pc := 10, pos := s, handed := s, marks := #[], seen := ({} : Seen).add 14 } (text.size + 1 - s) s (({} : Seen).add 14) with
      | .ok (some s', seen) => g2 text s' [fS s' true] 10 s' s' true 1 seen none
      | .ok (none, seen) => { ({ code := c2, text, lim := text.size, start := s, lastStart := text.size, pc := 10, pos := s, handed := s, marks := #[], seen := seen } : M) with answer := some false }
      | .error why => M.stick { code := c2, text, lim := text.size, start := s, lastStart := text.size, pc := 10, pos := s, handed := s, marks := #[], seen := ({} : Seen).add 14 } why) := by
      show (match admitted _ (text.size + 1 - s) s (({} : Seen).add 14) with | .ok (some s', seen) => _ | .ok (none, seen) => _ | .error why => _) = _
      split <;> rfl
    rw [ef]
    rcases admitted2 { code := c2, text, lim := text.size, start := s, lastStart := text.size, pc := 10, pos := s, handed := s, marks := #[], seen := ({} : Seen).add 14 } text rfl rfl rfl (text.size + 1 - s) s (({} : Seen).add 14) (by lia) with ⟨e, sn, h1, h2, h3, h4⟩ | ⟨h1, sn, h2⟩
    · rw [h4]
      exact .inl ⟨e, h1, h2, h3, run2 text e true sn h2⟩
    · rw [h2]
      exact .inr ⟨h1, Ends.mono (Ends.step rfl rfl (Ends.now (n := 0) rfl rfl)) (by decide)⟩
end Mine
end

section
open PySem PySem.W PyProof.Rows PySem.Calls PySem.Builtin.Re
set_option Elab.async false
set_option maxRecDepth 100000
namespace Mine
open PySem.Sre (M)
open PySem.Sre.M (runFor)

theorem runFor_some {k : Nat} {m : M} (h : m.outcome.isSome = true) : runFor k m = m := by
  cases k with
  | zero => rfl
  | succ k => show (if m.outcome.isSome then m else _) = _; rw [if_pos h]
theorem runFor_add : ∀ (a b : Nat) (m : M), runFor (a + b) m = runFor b (runFor a m)
  | 0, b, m => by rw [Nat.zero_add]; rfl
  | a + 1, b, m => by
    by_cases h : m.outcome.isSome = true
    · rw [runFor_some h, runFor_some h, runFor_some h]
    · rw [show a + 1 + b = (a + b) + 1 by lia]
      have e : ∀ n, runFor (n + 1) m = runFor n m.step := fun n => by
        show (if m.outcome.isSome then m else _) = _; rw [if_neg h]
      rw [e, e, runFor_add a b]

section
variable {Mo : Model} {A : Around} {E : Value → Shared → Prop} {s : Shared}
theorem drive_ok {Q : M → Shared → Prop} : ∀ (turns k : Nat) (m : M), k ≤ 4 * turns → 1 ≤ turns → (runFor k m).outcome.isSome = true → Q (runFor k m) s → wpAny Mo A (reDrive turns m) Q E s
  | 0, _, _, _, h, _, _ => absurd h (by decide)
  | turns + 1, k, m, hk, _, ho, hQ => by
    show wpAny Mo A (if (runFor 4 m).outcome.isSome then pure (runFor 4 m) else (rule "sre.turn" >>= fun _ => reDrive turns (runFor 4 m))) Q E s
    by_cases h4 : (runFor 4 m).outcome.isSome = true
    · rw [if_pos h4]
      refine wpAny_pure ?_
      by_cases hle : k ≤ 4
      · have e : runFor 4 m = runFor k m := by
          rw [show 4 = k + (4 - k) by lia, runFor_add, runFor_some ho]
        rw [e]; exact hQ
      · have e : runFor k m = runFor 4 m := by
          rw [show k = 4 + (k - 4) by lia, runFor_add, runFor_some h4]
        rw [← e]; exact hQ
    · rw [if_neg h4]
      have hlt : 4 < k := by
        apply Nat.lt_of_not_le
        intro hle
        apply h4
        rw [show 4 = k + (4 - k) by lia, runFor_add, runFor_some ho]; exact ho
      have e : runFor k m = runFor (k - 4) (runFor 4 m) := by rw [← runFor_add]; congr 1; lia
      rw [e] at ho hQ
      exact wpAny_bind (wpAny_rule (drive_ok turns (k - 4) (runFor 4 m) (by lia) (by lia) ho hQ))
theorem rules_ok {α : Type} {f : α → PUnit → Sem (ForInStep PUnit)} (hf : ∀ a (Q : ForInStep PUnit → Shared → Prop) (s : Shared), Q (.yield ⟨⟩) s → wpAny Mo A (f a ⟨⟩) Q E s) {Q : PUnit → Shared → Prop} : ∀ (l : List α), Q ⟨⟩ s → wpAny Mo A (forIn l ⟨⟩ f) Q E s
  | [], h => wpAny_pure h
  | a :: l, h => by
    rw [List.forIn_cons]
    exact wpAny_bind (hf a _ s (rules_ok hf l h))
theorem runToEnd_found {b e B : Nat} {m : M} {Q : Option M → Shared → Prop} (h : Ends (Found b e) B m) (hB : B ≤ 2 ^ 60) (hQ : ∀ m', m'.start = b → m'.handed = e → Q (some m') s) : wpAny Mo A (reRunToEnd m) Q E s := by
  show (let gKz : Prop := ?_; gKz)
  intro gKz
  obtain ⟨k, hk, ho, h1, h2, h3⟩ := h
  k_unfold
  (try clear gKz)
  unfold reRunToEnd
  refine wpAny_bind (drive_ok _ k m (by lia) (by decide) ho ?_)
  refine wpAny_bind (rules_ok (fun a Q s hq => ?_) _ ?_)
  · by_cases q : (runFor k m).seen.has a = true
    · rw [if_pos q]; exact wpAny_bind (wpAny_rule (wpAny_pure hq))
    · rw [if_neg q]; exact wpAny_pure hq
  · rw [h1]; exact wpAny_pure (hQ _ h2 h3)
theorem runToEnd_failed {B : Nat} {m : M} {Q : Option M → Shared → Prop} (h : Ends Failed B m) (hB : B ≤ 2 ^ 60) (hQ : Q none s) : wpAny Mo A (reRunToEnd m) Q E s := by
  show (let gKz : Prop := ?_; gKz)
  intro gKz
  obtain ⟨k, hk, ho, h1⟩ := h
  k_unfold
  (try clear gKz)
  unfold reRunToEnd
  refine wpAny_bind (drive_ok _ k m (by lia) (by decide) ho ?_)
  refine wpAny_bind (rules_ok (fun a Q s hq => ?_) _ ?_)
  · by_cases q : (runFor k m).seen.has a = true
    · rw [if_pos q]; exact wpAny_bind (wpAny_rule (wpAny_pure hq))
    · rw [if_neg q]; exact wpAny_pure hq
  · unfold Failed at h1; rw [h1]; exact wpAny_pure hQ
end

theorem slot_re_sub : Slot "re.Pattern" "sub" "re.Pattern.sub" :=
  .of (owner := "re.Pattern") (n := "sub") (by rw [typeLookup_type, builtinLookup_eq_fast]; kernel_rfl) (by decide +kernel) (by decide +kernel) (by decide +kernel)
    (by first | exact .inl (by decide +kernel) | exact .inr (by decide +kernel)) (by rw [isSubtype_type]; kernel_rfl)
theorem type_re_sub : typeOf (.builtin "re.Pattern.sub") = pure (.type "method_descriptor") := by show builtinType _ = _; rw [builtinType_eq_fast]; kernel_rfl
theorem entry_re_sub : entryFor table "re.Pattern.sub" = some Builtin.«re.Pattern.sub» := entryFor_of_tree (by kernel_rfl)
theorem entry_re_loop : entryFor table "re.Pattern.sub.loop" = some Builtin.«re.Pattern.sub.loop» := entryFor_of_tree (by kernel_rfl)
theorem plain_re_sub : plainId "re.Pattern.sub" = true := by decide +kernel
theorem plain_re_loop : plainId "re.Pattern.sub.loop" = true := by decide +kernel
theorem args_re_sub (a b c : Value) : argsOk "re.Pattern.sub" ⟨[a, b, c], []⟩ := by unfold argsOk; kernel_rfl
theorem plainAttrs_re : PlainAttrs "re.Pattern" :=
  ⟨⟨"object.__getattribute__", by rw [typeLookup_type, builtinLookup_eq_fast]; kernel_rfl, by decide +kernel⟩, by rw [typeLookup_type, builtinLookup_eq_fast]; kernel_rfl⟩
theorem str_nocall : typeLookup (.type "str") "__call__" = pure none := by rw [typeLookup_type, builtinLookup_eq_fast]; kernel_rfl

structure PatAt (h : Heap) (P T : Addr) (code : Array Nat) : Prop where
  get : ∃ fs, h.get? P = some { cls := .type "re.Pattern", data := .fields fs } ∧ fs.getD 5 .none = .ref T ∧ reRawNat (fs.getD 2 .none) = 0 ∧ reRawNat (fs.getD 6 .none) = 0
  code : ∃ ws n, h.get? T = some { cls := .type "tuple", data := .seq ws n } ∧ (ws.map reRawOf).map (·.toNat) = code
theorem PatAt.keeps {h h' : Heap} {P T D : Addr} {code : Array Nat} (x : PatAt h P T code) (hk : ∀ b o, b ≠ D → h.get? b = some o → h'.get? b = some o) (hP : P ≠ D) (hT : T ≠ D) : PatAt h' P T code := by
  show (let gKz : Prop := ?_; gKz)
  intro gKz
  obtain ⟨⟨fs, a, b⟩, ⟨ws, n, c, d⟩⟩ := x
  k_unfold
  (try clear gKz)
  exact ⟨⟨fs, hk _ _ hP a, b⟩, ⟨ws, n, hk _ _ hT c, d⟩⟩
noncomputable def tgt (P : Addr) (x : Str) (tx : Tok) (code : Array Nat) : ReTarget := { pattern := .ref P, string := .str x tx, code, text := x.cps, kind := 0, groups := 0, pos := 0, lim := x.cps.size }
section
variable {Mo : Model} {A : Around} {E : Value → Shared → Prop} {s : Shared}
theorem whole_ok {P T : Addr} {code : Array Nat} {x : Str} {tx : Tok} {Q : ReTarget → Shared → Prop} (hp : PatAt s.heap P T code) (h : Q (tgt P x tx code) s) : wpAny Mo A (reWholeTarget (.ref P) (.str x tx)) Q E s := by
  show (let gKz : Prop := ?_; gKz)
  intro gKz
  obtain ⟨⟨fs, a, b, c, d⟩, ⟨ws, n, e, f⟩⟩ := hp
  k_unfold
  (try clear gKz)
  unfold reWholeTarget
  refine wpAny_bind (wpAny_fieldsOf a rfl ?_)
  refine wpAny_bind (wpAny_of_eq (show reTextOf (.str x tx) = pure (x.cps, 0) from rfl) ?_)
  dsimp only
  rw [d]
  rw [if_neg (by decide), if_neg (by decide)]
  refine wpAny_bind (wpAny_of_eq (show reNoCollectionInside (.str x tx) 0 = pure () from rfl) ?_)
  rw [b, c]
  unfold reRawItems
  refine wpAny_bind (wpAny_bind (wpAny_seqItems e rfl (wpAny_pure ?_)))
  refine wpAny_pure ?_
  have hc : Array.map (fun x => x.toNat) (Array.map reRawOf ((some ws).getD #[])) = code := f
  rw [hc]; exact h
end

noncomputable def cut (text : Array Nat) (a b : Nat) : List Nat := (text.extract a b).toList
structure Plan (code text : Array Nat) (r : List Nat) (out : Nat → List Nat) (B : Nat) : Prop where
  step : ∀ s, s ≤ text.size → (∃ b e, s ≤ b ∧ b < e ∧ e ≤ text.size ∧ Ends (Found b e) B (Sre.forSearch code text 0 s text.size false) ∧ out s = cut text s b ++ (r ++ out e)) ∨
    (Ends Failed B (Sre.forSearch code text 0 s text.size false) ∧ out s = cut text s text.size)
  bound : B ≤ 2 ^ 60
noncomputable def flat (ys : List Str) : List Nat := ys.flatMap (·.cps.toList)
noncomputable abbrev lobj (items : List Value) (c : Nat) : Obj := { cls := .type "list", data := .seq items.toArray c }
theorem flat_append (a b : List Str) : flat (a ++ b) = flat a ++ flat b := by unfold flat; rw [List.flatMap_append]
theorem strs_append {vs : List Value} {ys : List Str} (h : StrsAre vs ys) (y : Str) (t : Tok) : StrsAre (vs ++ [.str y t]) (ys ++ [y]) := by
  induction h with
  | nil => exact .cons _ _ .nil
  | cons a b _ ih => exact .cons a b ih
theorem glue_fold : ∀ (ys : List Str) (acc : Array Nat), ys.foldl (fun acc p => acc ++ (⟨#[]⟩ : Str).cps ++ p.cps) acc = acc ++ (flat ys).toArray
  | [], acc => by simp [flat]
  | y :: r, acc => by
    rw [List.foldl_cons, glue_fold r]
    apply Array.ext'
    simp [flat]
theorem join_flat (ys : List Str) : Txt.join ⟨#[]⟩ ys = ⟨(flat ys).toArray⟩ := by
  show (⟨(ys.drop 1).foldl (fun acc p => acc ++ (⟨#[]⟩ : Str).cps ++ p.cps) (ys.headD Str.empty).cps⟩ : Str) = _
  rw [glue_fold]
  cases ys with
  | nil => simp [flat, Str.empty]
  | cons y r => simp [flat]
theorem flat_len : ∀ ys : List Str, (ys.map (·.length)).sum = (flat ys).length
  | [] => rfl
  | y :: r => by
    have := flat_len r
    rw [List.map_cons, List.sum_cons, this]
    unfold flat
    rw [List.flatMap_cons, List.length_append]
    rfl
theorem strs_len {vs : List Value} {ys : List Str} (h : StrsAre vs ys) : vs.length = ys.length := by
  induction h with
  | nil => rfl
  | cons _ _ _ ih => simp [ih]
theorem push_ok {Mo : Model} {A : Around} {E : Value → Shared → Prop} {s : Shared} {D : Addr} {items : List Value} {c : Nat} {v : Value} {Q : Unit → Shared → Prop} (hD : s.heap.get? D = some (lobj items c)) (hsz : items.length ≤ 100000)
    (h : ∀ h', (∀ b o, b ≠ D → s.heap.get? b = some o → h'.get? b = some o) → h'.get? D = some (lobj (items ++ [v]) (c + 1)) → Q () { s with heap := h' }) : wpAny Mo A (updateSeq D (·.push v)) Q E s := by
  have hl : items.toArray.size ≤ sizeLine := by rw [List.size_toArray, sizeLine_eq]; lia
  refine wpAny_updateSeq hD rfl (h _ (fun b o hb e => ((Heap.SameBut.update ..).2 b hb).trans e) ?_) hl
  rw [Heap.get?_update_self _ hD (by rw [mapSeq_push]; rfl), mapSeq_push, List.push_toArray]
section
variable {prog : Program} {w : World} {A : Around}
theorem loop_ok {R : Result → Shared → Prop} {P T D : Addr} {code : Array Nat} {x r : Str} {tx tr : Tok} {out : Nat → List Nat} {B : Nat} (pl : Plan code x.cps r.cps.toList out B) (hx : x.cps.size ≤ 1000) (hr : r.cps.size ≤ 10)
    (hPD : P ≠ D) (hTD : T ≠ D) : ∀ (n dn : Nat) (k : Int) (s : Shared) (items : List Value) (ys : List Str) (c : Nat), x.cps.size - dn = n → dn ≤ x.cps.size → PatAt s.heap P T code → s.heap.get? D = some (lobj items c) → StrsAre items ys → items.length ≤ 2 * dn →
    (flat ys).length ≤ 20 * dn →
    (∀ t h' tk, (∀ b o, b ≠ D → s.heap.get? b = some o → h'.get? b = some o) → R (.ok (.ret (.str ⟨(flat ys ++ out dn).toArray⟩ t))) { s with heap := h', toks := tk }) →
    codeAny (model prog w) A (.builtin "re.Pattern.sub.loop" ⟨[.ref P, .str x tx, .str r tr, rawInt 0, rawInt 0, .int k 0, .int (dn : Int) 0, .int (dn : Int) 0, .bool false, .ref D, .bool false], []⟩) R s := by
  intro n
  induction n using Nat.strongRecOn with
  | _ n ih =>
    intro dn k s items ys c hn hdn hp hD hys hlen hfl hR
    refine codeAny_builtin entry_re_loop ?_
    rw [Around.under_plainId plain_re_loop _]
    unfold Builtin.«re.Pattern.sub.loop»
    dsimp only
    refine wpAny_bind (whole_ok hp ?_)
    rw [if_pos (show ((0 : Int) == 0) = true from rfl)]
    refine wpAny_bind (wpAny_of_eq (show reLiteralCannotBeTurned (.str r tr) = pure () from rfl) ?_)
    dsimp only
    simp only [Int.toNat_natCast]
    refine wpAny_bind ?_
    rw [if_neg (show ¬ ((0 : Int) != 0 && decide (k ≥ 0)) = true by simp)]
    unfold reNextFound
    rcases pl.step dn hdn with ⟨b, e, h1, h2, h3, h4, h5⟩ | ⟨h4, h5⟩
    · refine runToEnd_found h4 pl.bound fun m e1 e2 => ?_
      dsimp only
      rw [e1, e2]
      have item : ∀ (s' : Shared) (items' : List Value) (ys' : List Str) (c' : Nat), (∀ b o, b ≠ D → s.heap.get? b = some o → s'.heap.get? b = some o) → PatAt s'.heap P T code → s'.heap.get? D = some (lobj items' c') → StrsAre items' ys' → items'.length ≤ 2 * dn + 1 →
          flat ys' = flat ys ++ cut x.cps dn b → s'.gens = s.gens → s'.drawn = s.drawn → s'.os = s.os →
          wpAny (model prog w) A.in1 (updateSeq D (fun x => x.push (.str r tr)) >>= fun _ => again (.builtin "re.Pattern.sub.loop" ⟨[.ref P, .str x tx, .str r tr, rawInt 0, rawInt 0, rawInt (k + 1), rawInt e, rawInt e, .bool (e == b), .ref D, .bool false], []⟩))
            (fun fin s' => match fin with | .done f => R (.ok f) s' | .again c' => c'.quiet = true ∧ codeAny (model prog w) A c' R s') (fun e s' => R (.error e) s') s' := by
        intro s' items' ys' c' hk' hp' hD' hys' hl' hf' g1 g2 g3
        refine wpAny_bind (push_ok hD' (by lia) fun h' hk'' hD'' => ?_)
        refine wpAny_pure ⟨plainId_quiet plain_re_loop _, ?_⟩
        rw [show (e == b) = false by rw [beq_eq_false_iff_ne]; lia]
        have hcl : (cut x.cps dn b).length ≤ b - dn := by unfold cut; simp; lia
        refine ih (x.cps.size - e) (by lia) e (k + 1) _ (items' ++ [.str r tr]) (ys' ++ [r]) (c' + 1) rfl h3 (hp'.keeps hk'' hPD hTD) hD'' (strs_append hys' r tr) (by simp; lia) ?_ fun t h2' tk hk3 => ?_
        · rw [flat_append, hf', List.length_append, List.length_append]
          have : (flat [r]).length = r.cps.size := by unfold flat; simp
          lia
        · have := hR t h2' tk fun b o hb ho => hk3 b o hb (hk'' b o hb (hk' b o hb ho))
          rw [h5, ← List.append_assoc, ← List.append_assoc] at this
          rw [flat_append, hf', show flat [r] = r.cps.toList by unfold flat; simp, g1, g2, g3]
          exact this
      by_cases hlt : dn < b
      · rw [if_pos hlt]
        refine wpAny_bind ?_
        show wpAny _ _ (mkStr ⟨x.cps.extract dn b⟩) _ _ _
        refine wpAny_mkStr ?_ (by rw [sizeLine_eq]; show (x.cps.extract dn b).size ≤ _; rw [Array.size_extract]; lia)
        refine wpAny_bind (push_ok (s := { s with toks := s.toks + 1 }) hD (by lia) fun h' hk' hD' => ?_)
        rw [if_pos (show ((0 : Int) == 0) = true from rfl)]
        refine wpAny_bind (wpAny_pure ?_)
        rw [if_pos (show (Value.str r tr != Value.none) = true from rfl)]
        exact item _ _ (ys ++ [⟨x.cps.extract dn b⟩]) _ hk' (hp.keeps hk' hPD hTD) hD' (strs_append hys _ _) (by simp; lia) (by rw [flat_append]; unfold flat cut; simp) rfl rfl rfl
      · rw [if_neg hlt]
        rw [if_pos (show ((0 : Int) == 0) = true from rfl)]
        refine wpAny_bind (wpAny_pure ?_)
        rw [if_pos (show (Value.str r tr != Value.none) = true from rfl)]
        exact item s items ys c (fun _ _ _ e => e) hp hD hys (by lia) (by unfold cut; rw [show b = dn by lia]; simp) rfl rfl rfl
    · refine runToEnd_failed h4 pl.bound ?_
      dsimp only
      have tail : ∀ (s' : Shared) (items' : List Value) (ys' : List Str) (c' : Nat), (∀ b o, b ≠ D → s.heap.get? b = some o → s'.heap.get? b = some o) → s'.heap.get? D = some (lobj items' c') → StrsAre items' ys' →
          flat ys' = flat ys ++ out dn → s'.gens = s.gens → s'.drawn = s.drawn → s'.os = s.os →
          wpAny (model prog w) A.in1 (reSlice x.cps 0 0 0 >>= fun joiner => seqItems? (.ref D) >>= fun its => if (its.getD #[]).isEmpty = true then (pure joiner >>= fun text => if false = true then (holding [text] (mkInt k >>= fun n => newTuple [text, n])) >>= fun t => ret t else ret text) else
            (call (.builtin (if (0 == 0) = true then "str.join" else "bytes.join")) [joiner, .ref D] >>= fun text => if false = true then (holding [text] (mkInt k >>= fun n => newTuple [text, n])) >>= fun t => ret t else ret text))
            (fun fin s' => match fin with | .done f => R (.ok f) s' | .again c' => c'.quiet = true ∧ codeAny (model prog w) A c' R s') (fun e s' => R (.error e) s') s' := by
        intro s' items' ys' c' hk' hD' hys' hf' g1 g2 g3
        have hcl : (cut x.cps dn x.cps.size).length ≤ 1000 := by unfold cut; simp; lia
        have hfl' : (flat ys').length ≤ 1000000 := by rw [hf', List.length_append, h5]; lia
        refine wpAny_bind ?_
        show wpAny _ _ (mkStr ⟨x.cps.extract 0 0⟩) _ _ _
        have e0 : x.cps.extract 0 0 = #[] := by simp
        rw [e0]
        refine wpAny_mkStr ?_ (by rw [sizeLine_eq]; exact Nat.zero_le _)
        refine wpAny_bind (wpAny_seqItems hD' rfl ?_)
        by_cases hem : items' = []
        · subst hem
          cases hys'
          rw [if_pos (by rfl)]
          refine wpAny_bind (wpAny_pure ?_)
          rw [if_neg Bool.false_ne_true]
          have := hR s'.toks s'.heap (s'.toks + 1) hk'
          rw [← hf', g1.symm, g2.symm, g3.symm] at this
          exact wpAny_pure this
        · rw [if_neg (by cases items' with | nil => exact absurd rfl hem | cons a b => simp)]
          refine wpAny_bind ?_
          rw [if_pos (show (0 == 0) = true from rfl)]
          refine join_list (ys := ys') ⟨_, hD', rfl, _, rfl⟩ (by simpa using hys') (by rw [flat_len]; show _ + _ * 0 ≤ _; lia) fun t k' => ?_
          rw [if_neg Bool.false_ne_true]
          have := hR t s'.heap k' hk'
          rw [← hf', g1.symm, g2.symm, g3.symm] at this
          rw [join_flat]
          exact wpAny_pure this
      by_cases hlt : dn < x.cps.size
      · rw [if_pos (show dn < (tgt P x tx code).lim from hlt)]
        refine wpAny_bind ?_
        show wpAny _ _ (mkStr ⟨x.cps.extract dn x.cps.size⟩) _ _ _
        refine wpAny_mkStr ?_ (by rw [sizeLine_eq]; show (x.cps.extract dn x.cps.size).size ≤ _; rw [Array.size_extract]; lia)
        refine wpAny_bind (push_ok (s := { s with toks := s.toks + 1 }) hD (by lia) fun h' hk' hD' => ?_)
        exact tail _ _ (ys ++ [⟨x.cps.extract dn x.cps.size⟩]) _ hk' hD' (strs_append hys _ _) (by rw [flat_append, h5]; unfold flat cut; simp) rfl rfl rfl
      · rw [if_neg (show ¬ dn < (tgt P x tx code).lim from hlt)]
        exact tail s items ys c (fun _ _ _ e => e) hD hys (by rw [h5, show dn = x.cps.size by lia]; unfold cut; simp) rfl rfl rfl

theorem sub_ok {E : Value → Shared → Prop} {s : Shared} {Q : Value → Shared → Prop} {P T : Addr} {code : Array Nat} {x r : Str} {tx tr : Tok} {out : Nat → List Nat} {B : Nat} (hp : PatAt s.heap P T code) (pl : Plan code x.cps r.cps.toList out B) (hx : x.cps.size ≤ 1000) (hr : r.cps.size ≤ 10)
    (hns : r.cps.contains 92 = false)
    (h : ∀ t h' tk, (∀ b o, s.heap.get? b = some o → h'.get? b = some o) → Q (.str ⟨(out 0).toArray⟩ t) { s with heap := h', toks := tk }) :
    wpAny (model prog w) A (call (.builtin "re.Pattern.sub") [.ref P, .str r tr, .str x tx]) Q E s := by
  have hpt : s.TypeIs (.ref P) "re.Pattern" := by obtain ⟨⟨fs, a, _⟩, _⟩ := hp; exact ⟨_, a, rfl⟩
  refine wpAny_call (codeAny_call_builtin slot_re_sub.plain entry_re_sub (slot_re_sub.check _ _ _ _ _ _ _ _ hpt (args_re_sub _ _ _) ?_))
  show wpAny _ _ (reSubstitute "re.Pattern.sub" "sub" false ⟨[.ref P, .str r tr, .str x tx], []⟩) _ _ _
  unfold reSubstitute
  dsimp only
  refine wpAny_bind (wpAny_of_eq (show reNamed "re.Pattern.sub" "sub" ["repl", "string", "count"] 2 [.str r tr, .str x tx] [] = pure [some (.str r tr), some (.str x tx), none] from rfl) ?_)
  dsimp only
  refine wpAny_bind (wpAny_pure ?_)
  refine wpAny_bind (wpAny_specialOf_val (T := "str") rfl str_nocall ?_)
  rw [if_neg (show ¬ (none : Option Value).isSome = true from Bool.false_ne_true)]
  refine wpAny_bind (wpAny_of_eq (show asStr? (.str r tr) = pure (some r) from rfl) ?_)
  dsimp only
  refine wpAny_bind (wpAny_pure ?_)
  rw [hns, if_neg (show ¬ (none : Option Value).isSome = true from Bool.false_ne_true), if_pos (show (!false) = true from rfl)]
  refine wpAny_bind (wpAny_pure ?_)
  dsimp only
  refine wpAny_bind (wpAny_holding (whole_ok hp ?_))
  rw [if_neg (show ¬ ((0 : Int) == 1) = true from Bool.false_ne_true)]
  refine wpAny_bind (wpAny_newObj_type ?_)
  refine wpAny_pure ⟨plainId_quiet plain_re_loop _, ?_⟩
  have old : ∀ b o, s.heap.get? b = some o → (s.heap.push { cls := .type "list", data := .seq ([] : List Value).toArray }).get? b = some o := fun b o e => Heap.get?_push_of_some _ e
  have ne : ∀ b o, s.heap.get? b = some o → b ≠ s.heap.objs.size := fun b o e => Nat.ne_of_lt (Heap.lt_size e)
  show (let gKz : Prop := ?_; gKz)
  intro gKz
  obtain ⟨⟨fs, a1, a2⟩, ⟨ws, n, b1, b2⟩⟩ := id hp
  k_unfold
  (try clear gKz)
  refine loop_ok (code := code) (out := out) (D := s.heap.objs.size) pl hx hr (ne _ _ a1) (ne _ _ b1) (x.cps.size - 0) 0 0 _ [] [] 0 rfl (Nat.zero_le _) ⟨⟨fs, old _ _ a1, a2⟩, ⟨ws, n, old _ _ b1, b2⟩⟩ (Heap.get?_push_size _ rfl) .nil (Nat.zero_le _) (Nat.zero_le _) fun t h' tk hk => ?_
  exact h t h' tk fun b o e => hk b o (ne b o e) (old b o e)
end
end Mine
end

section
open PySem PySem.W PyProof.Rows PySem.Calls
set_option Elab.async false
set_option maxRecDepth 100000
namespace Mine
noncomputable def dq : Bool → List Nat → List Nat
  | _, [] => []
  | b, c :: r => (if b && c == 46 then [46, 46] else [c]) ++ dq (c == 10) r
noncomputable def cr : List Nat → List Nat
  | [] => []
  | 13 :: 10 :: r => 13 :: 10 :: cr r
  | c :: r => (if c == 13 || c == 10 then [13, 10] else [c]) ++ cr r

theorem drop_at (text : Array Nat) (s : Nat) (h : s < text.size) : text.toList.drop s = text.getD s 0 :: text.toList.drop (s + 1) := by
  rw [List.drop_eq_getElem_cons (by simpa using h)]
  simp [Array.getD, h]
theorem drop_end (text : Array Nat) (s : Nat) (h : text.size ≤ s) : text.toList.drop s = [] := List.drop_eq_nil_of_le (by simpa using h)
theorem cut_self (text : Array Nat) (s : Nat) : cut text s s = [] := by unfold cut; simp
theorem cut_cons (text : Array Nat) (s e : Nat) (h : s < e) (he : e ≤ text.size) : cut text s e = text.getD s 0 :: cut text (s + 1) e := by
  unfold cut
  simp only [Array.toList_extract, List.extract_eq_take_drop]
  rw [show e - s = (e - (s + 1)) + 1 by lia, drop_at text s (by lia), List.take_succ_cons]
noncomputable def o1 (text : Array Nat) (s : Nat) : List Nat := dq (bol text s) (text.toList.drop s)
noncomputable def o2 (text : Array Nat) (s : Nat) : List Nat := cr (text.toList.drop s)
theorem bol_succ (text : Array Nat) (s : Nat) : bol text (s + 1) = (text.getD s 0 == 10) := by
  unfold bol; simp
theorem o1_dot (text : Array Nat) (s : Nat) (h : dotAt text s = true) : o1 text s = [46, 46] ++ o1 text (s + 1) := by
  unfold dotAt at h
  simp only [Bool.and_eq_true, decide_eq_true_eq] at h
  unfold o1
  rw [drop_at text s h.1.1, bol_succ]
  show (if bol text s && text.getD s 0 == 46 then _ else _) ++ _ = _
  rw [if_pos (by rw [h.1.2, h.2]; rfl)]
theorem o1_plain (text : Array Nat) (s : Nat) (hs : s < text.size) (h : dotAt text s = false) : o1 text s = text.getD s 0 :: o1 text (s + 1) := by
  unfold dotAt at h
  rw [decide_eq_true hs, Bool.true_and] at h
  unfold o1
  rw [drop_at text s hs, bol_succ]
  show (if bol text s && text.getD s 0 == 46 then _ else _) ++ _ = _
  rw [if_neg (by rw [h]; exact Bool.false_ne_true)]
  rfl
theorem o1_run (text : Array Nat) : ∀ (n s e : Nat), e - s = n → s ≤ e → e ≤ text.size → (∀ i, s ≤ i → i < e → dotAt text i = false) → o1 text s = cut text s e ++ o1 text e
  | 0, s, e, hn, h1, h2, h => by
    obtain rfl : s = e := by lia
    rw [cut_self]; rfl
  | n + 1, s, e, hn, h1, h2, h => by
    rw [o1_plain text s (by lia) (h s (Nat.le_refl _) (by lia)), cut_cons text s e (by lia) h2, o1_run text n (s + 1) e (by lia) (by lia) h2 fun i a b => h i (by lia) b]
    rfl
theorem o1_end (text : Array Nat) : o1 text text.size = [] := by unfold o1; rw [drop_end _ _ (Nat.le_refl _)]; rfl
theorem plan1 (text : Array Nat) (h : text.size ≤ 1000) : Plan c1 text [46, 46] (o1 text) (4 * text.size + 8) where
  step := fun s hs => by
    rcases search1 text s hs with ⟨e, h1, h2, h3, h4⟩ | ⟨h1, h2⟩
    · have he : e < text.size := by unfold dotAt at h2; simp only [Bool.and_eq_true, decide_eq_true_eq] at h2; exact h2.1.1
      exact .inl ⟨e, e + 1, h1, Nat.lt_succ_self _, he, h4, by rw [o1_run text _ s e rfl h1 (by lia) h3, o1_dot text e h2]⟩
    · refine .inr ⟨h2, ?_⟩
      rw [o1_run text _ s text.size rfl hs (Nat.le_refl _) fun i a _ => h1 i a, o1_end, List.append_nil]
  bound := by lia

theorem o2_plain (text : Array Nat) (s : Nat) (hs : s < text.size) (h : nlAt text s = false) : o2 text s = text.getD s 0 :: o2 text (s + 1) := by
  unfold nlAt at h
  rw [decide_eq_true hs, Bool.true_and, Bool.or_eq_false_iff] at h
  unfold o2
  rw [drop_at text s hs]
  generalize text.getD s 0 = c at *
  generalize text.toList.drop (s + 1) = r
  have h13 : c ≠ 13 := by have := h.2; simpa using this
  conv => lhs; unfold cr
  split
  · rename_i q; cases q
  · rename_i q; cases q; exact absurd rfl h13
  · rename_i c' r' _ q
    cases q
    rw [h.1, h.2]; rfl
theorem o2_nl (text : Array Nat) (e : Nat) (h : nlAt text e = true) : nlEnd text e ≤ text.size ∧ e < nlEnd text e ∧ o2 text e = [13, 10] ++ o2 text (nlEnd text e) := by
  unfold nlAt at h
  simp only [Bool.and_eq_true, decide_eq_true_eq, Bool.or_eq_true, beq_iff_eq] at h
  obtain ⟨hs, hc⟩ := h
  unfold nlEnd
  by_cases q : text.getD e 0 = 13 ∧ e + 1 < text.size ∧ text.getD (e + 1) 0 = 10
  · rw [if_pos q]
    refine ⟨by lia, by lia, ?_⟩
    unfold o2
    rw [drop_at text e hs, drop_at text (e + 1) q.2.1, q.1, q.2.2]
    rfl
  · rw [if_neg q]
    refine ⟨by lia, by lia, ?_⟩
    unfold o2
    rw [drop_at text e hs]
    by_cases hn : e + 1 < text.size
    · rw [drop_at text (e + 1) hn]
      have q' : ¬ (text.getD e 0 = 13 ∧ text.getD (e + 1) 0 = 10) := fun z => q ⟨z.1, hn, z.2⟩
      generalize text.getD e 0 = c at *
      generalize text.getD (e + 1) 0 = c' at *
      generalize text.toList.drop (e + 1 + 1) = r
      conv => lhs; unfold cr
      split
      · rename_i z; cases z
      · rename_i z; cases z; exact absurd ⟨rfl, rfl⟩ q'
      · rename_i c9 r9 _ z
        cases z
        rcases hc with rfl | rfl <;> rfl
    · rw [drop_end text (e + 1) (by lia)]
      generalize text.getD e 0 = c at *
      rcases hc with rfl | rfl <;> rfl
theorem o2_run (text : Array Nat) : ∀ (n s e : Nat), e - s = n → s ≤ e → e ≤ text.size → (∀ i, s ≤ i → i < e → nlAt text i = false) → o2 text s = cut text s e ++ o2 text e
  | 0, s, e, hn, h1, h2, h => by
    obtain rfl : s = e := by lia
    rw [cut_self]; rfl
  | n + 1, s, e, hn, h1, h2, h => by
    rw [o2_plain text s (by lia) (h s (Nat.le_refl _) (by lia)), cut_cons text s e (by lia) h2, o2_run text n (s + 1) e (by lia) (by lia) h2 fun i a b => h i (by lia) b]
    rfl
theorem plan2 (text : Array Nat) : Plan c2 text [13, 10] (o2 text) 40 where
  step := fun s hs => by
    rcases search2 text s hs with ⟨e, h1, h2, h3, h4⟩ | ⟨h1, h2⟩
    · have he : e < text.size := by unfold nlAt at h2; simp only [Bool.and_eq_true, decide_eq_true_eq] at h2; exact h2.1
      obtain ⟨a, b, c⟩ := o2_nl text e h2
      exact .inl ⟨e, nlEnd text e, h1, b, a, h4, by rw [o2_run text _ s e rfl h1 (by lia) h3, c]⟩
    · refine .inr ⟨h2, ?_⟩
      rw [o2_run text _ s text.size rfl hs (Nat.le_refl _) fun i a _ => h1 i a]
      unfold o2
      rw [drop_end _ _ (Nat.le_refl _)]
      show _ ++ [] = _
      rw [List.append_nil]
  bound := by lia
end Mine
end

section
open PySem PySem.W PyProof.Rows PySem.Calls
set_option Elab.async false
set_option maxRecDepth 100000
set_option maxHeartbeats 8000000
namespace Mine
variable {w : World} {p : Program} {loose : List Str} {mean : ExcName → Option Value} {mg mb : Str → Option Value}
theorem pat1_at {P : Params} {h : Heap} (X : (hd.heap_39 P).In h) : PatAt h 75 74 c1 := ⟨⟨_, X 75 _ rfl, rfl, rfl, rfl⟩, ⟨_, _, X 74 _ rfl, by decide +kernel⟩⟩
theorem pat2_at {P : Params} {h : Heap} (X : (hd.heap_39 P).In h) : PatAt h 80 79 c2 := ⟨⟨_, X 80 _ rfl, rfl, rfl, rfl⟩, ⟨_, _, X 79 _ rfl, by decide +kernel⟩⟩
theorem PatAt.up {h h' : Heap} {P T : Addr} {code : Array Nat} (x : PatAt h P T code) (hk : ∀ b o, h.get? b = some o → h'.get? b = some o) : PatAt h' P T code := by
  obtain ⟨⟨fs, a, b⟩, ⟨ws, n, c, d⟩⟩ := x
  exact ⟨⟨fs, hk _ _ a, b⟩, ⟨ws, n, hk _ _ c, d⟩⟩
section
variable {prog : Program} {A : Around} {E : Value → Shared → Prop} {s : Shared} {h₀ : Heap} {L : Addr} {m : Str → Option Value} {news : Led}
theorem re_method {P T : Addr} {code : Array Nat} {pl : Sem Bool} {Q : Value × List Value → Shared → Prop} (F : Fr h₀ L s.heap m) (hp : PatAt h₀ P T code) (h : Q (.builtin "re.Pattern.sub", [.ref P]) s) :
    wpAny (model prog w) A (getMethod (.ref P) (Str.ofString "sub") pl) Q E s := by
  obtain ⟨⟨fs, a, b⟩, _⟩ := hp.up F.keep
  exact getMethod_builtin ⟨_, a, rfl⟩ plainAttrs_re slot_re_sub type_re_sub (fun a' e => by cases e; exact ⟨_, a, rfl⟩) h
theorem re1_call {x : Str} {tx tr : Tok} {Q : Value → Shared → Prop} (F : Fr h₀ L s.heap m) (N : News h₀ L s.heap news) (hp : PatAt h₀ 75 74 c1) (hx : x.cps.size ≤ 1000)
    (h : ∀ t h' tk, Fr h₀ L h' m → News h₀ L h' news → Q (.str ⟨(dq true x.cps.toList).toArray⟩ t) { s with heap := h', toks := tk }) :
    wpAny (model prog w) A (call (.builtin "re.Pattern.sub") [.ref 75, .str (Str.ofString "..") tr, .str x tx]) Q E s :=
  sub_ok (hp.up F.keep) (plan1 x.cps hx) hx (by decide +kernel) (by decide +kernel) fun t h' tk hk => h t h' tk (F.grownK hk) (N.grown hk)
theorem re2_call {x : Str} {tx tr : Tok} {Q : Value → Shared → Prop} (F : Fr h₀ L s.heap m) (N : News h₀ L s.heap news) (hp : PatAt h₀ 80 79 c2) (hx : x.cps.size ≤ 1000)
    (h : ∀ t h' tk, Fr h₀ L h' m → News h₀ L h' news → Q (.str ⟨(cr x.cps.toList).toArray⟩ t) { s with heap := h', toks := tk }) :
    wpAny (model prog w) A (call (.builtin "re.Pattern.sub") [.ref 80, .str ⟨#[13, 10]⟩ tr, .str x tx]) Q E s :=
  sub_ok (hp.up F.keep) (plan2 x.cps) hx (by decide +kernel) (by decide +kernel) fun t h' tk hk => h t h' tk (F.grownK hk) (N.grown hk)
end
theorem cr_len : ∀ (n : Nat) (l : List Nat), l.length ≤ n → (cr l).length ≤ 2 * l.length
  | 0, l, h => by
    have : l = [] := List.eq_nil_of_length_eq_zero (by lia)
    subst this; exact Nat.le_refl _
  | n + 1, l, h => by
    unfold cr
    split
    · exact Nat.le_refl _
    · rename_i r
      have := cr_len n r (by simp at h; lia)
      simp only [List.length_cons] at *; lia
    · rename_i c r _
      have := cr_len n r (by simp at h; lia)
      rw [List.length_append]
      split <;> simp only [List.length_cons, List.length_nil] at * <;> lia
noncomputable def quoteL (l : List Nat) : List Nat := dq true (cr l)

theorem quo_con (x : Str) (t : Tok) (news : Led) (hx : x.cps.size ≤ 500) :
    Con w p loose mean mg mb 87 [.str x t] news 2 16 (fun r n' => ∃ t, r = .str ⟨(quoteL x.cps.toList).toArray⟩ t ∧ news = n') := by
  unfold Con
  k_fill
  intro dp un gd cn cs a ccd cl outer A₀ base h₀ L m s Q E B F X N T hk hd hu hret
  have e1 : x.cps.size ≤ 1000 := by lia
  have e2 : (⟨(cr x.cps.toList).toArray⟩ : Str).cps.size ≤ 1000 := by
    have := cr_len _ x.cps.toList (Nat.le_refl _)
    simp at this ⊢; lia
  refine wpAny_call ?_
  k_dflt cell_enter
  w_on
  w_top off
  (try (rename Fr _ _ _ _ => F0z; revert F0z; show (let mKz := ?_; (Fr _ _ _ mKz → _)); intro mKz F0z))
  (try (show (let aKz := ?_; wpAny _ aKz _ _ _ _); intro aKz))
  w_strict (repeat' (first
    | (k_unfold; (try dsimp only))
    | ((with_reducible show wpAny _ _ (exec _ _) _ _ _); k_fold; (try (refine anyTok fun _ => ?_)); (try dsimp only)) 
    | ((with_reducible show wpAny _ _ (getMethod _ _ _) _ _ _); (with_reducible (first | (refine re_method (by k_asm) (pat1_at (by k_asm)) ?_) | (refine re_method (by k_asm) (pat2_at (by k_asm)) ?_))))
    | ((with_reducible show wpAny _ _ (call (Value.builtin _) _ _) _ _ _); (first | (refine re1_call (by k_asm) (by k_asm) (pat1_at (by k_asm)) (by with_reducible assumption) ?_; intro t9z h'z tk9z F'z N'z; try dsimp only) | (refine re2_call (by k_asm) (by k_asm) (pat2_at (by k_asm)) (by with_reducible assumption) ?_; intro t9z h'z tk9z F'z N'z; try dsimp only)))
    | (k_end; wrow_close)
    | walk1
    | (leave1; (try dsimp only))
    | dsimp only))
  all_goals exact hret _ _ _ _ (by k_asm) (by k_asm) ⟨_, rfl, rfl⟩
end Mine
end

section
open PySem PySem.W PyProof.Rows PySem.Calls
set_option Elab.async false
set_option maxRecDepth 100000
set_option maxHeartbeats 8000000
namespace Mine
variable {w : World} {p : Program} {loose : List Str} {mean : ExcName → Option Value} {mg mb : Str → Option Value}
noncomputable def nlL (k : Int) : List Nat := if k % 3 = 0 then [10] else if k % 3 = 1 then [13] else [13, 10]
noncomputable def nlS (k : Int) : Str := ⟨(nlL k).toArray⟩
theorem nlS_len (k : Int) : (nlS k).length ≤ 2 := by
  show (nlL k).toArray.size ≤ 2
  unfold nlL; (repeat' split) <;> simp
section
variable {prog : Program} {A : Around} {E : Value → Shared → Prop} {s : Shared} {h₀ : Heap} {L : Addr} {m : Str → Option Value} {news : Led}
theorem nl_item {value slice : PySem.Expr} {l : Addr} {t0 t1 t2 : Tok} {c : Nat} {k : Int} {u : Tok} {Q : Value → Shared → Prop}
    (N : News h₀ L s.heap news) (hm : (l, listO [.str (Str.ofString "\n") t0, .str (Str.ofString "\r") t1, .str (Str.ofString "\r\n") t2] c) ∈ news) (h : ∀ t, Q (.str (nlS k) t) s)
    (hs : subscripted slice false (.ref l) (.int (k.fmod 3) u) = operate [.ref l, .int (k.fmod 3) u] (getItem (.ref l) (.int (k.fmod 3) u)) := by with_unfolding_all rfl) :
    wpAny (model prog w) A (subscriptTail value slice (.ref l) (.int (k.fmod 3) u)) Q E s := by
  have hL : s.heap.IsList l [.str (Str.ofString "\n") t0, .str (Str.ofString "\r") t1, .str (Str.ofString "\r\n") t2].toArray := ⟨_, (N _ hm).1, rfl, c, rfl⟩
  have e : k.fmod 3 = k % 3 := Int.fmod_eq_emod_of_nonneg _ (by decide)
  have e0 : Str.ofString "\n" = ⟨#[10]⟩ := by decide +kernel
  have e1 : Str.ofString "\r" = ⟨#[13]⟩ := by decide +kernel
  have e2 : Str.ofString "\r\n" = ⟨#[13, 10]⟩ := by decide +kernel
  have hx : ∃ t, ([.str (Str.ofString "\n") t0, .str (Str.ofString "\r") t1, .str (Str.ofString "\r\n") t2] : List Value)[(k.fmod 3).toNat]? = some (.str (nlS k) t) := by
    rw [e, e0, e1, e2]
    have h3 : k % 3 = 0 ∨ k % 3 = 1 ∨ k % 3 = 2 := by lia
    rcases h3 with q | q | q
    · exact ⟨t0, by rw [q]; unfold nlS nlL; rw [q]; rfl⟩
    · exact ⟨t1, by rw [q]; unfold nlS nlL; rw [q]; rfl⟩
    · exact ⟨t2, by rw [q]; unfold nlS nlL; rw [q]; rfl⟩
  obtain ⟨t, hx⟩ := hx
  exact tail_any hL.typeIs slot_list_getitem.lookup (wpAny_getItem_list hL (by rw [e]; lia) (by rw [e]; lia) (by simpa using hx) (h t)) hs
theorem addS {x y : Str} {t u : Tok} {Q : Value → Shared → Prop} {n k : Nat} (hx : x.length ≤ n) (hy : y.length ≤ k) (hn : n + k ≤ 1000) (h : ∀ t tk, (x ++ y).length ≤ n + k → Q (.str (x ++ y) t) { s with toks := tk }) :
    wpAny (model prog w) A (binaryOp .Add (.str x t) (.str y u)) Q E s :=
  add_str (fun t tk => h t tk (by rw [Str.length_append]; lia)) (by rw [sizeLine_eq]; lia)
end
theorem len_nil : (Str.ofString "").length ≤ 0 := by decide +kernel

noncomputable def bodyS (ys : List Str) (k : Int) : Str := match ys with
  | [] => ⟨#[]⟩
  | y :: r => y ++ nlS k ++ bodyS r (k + 1)

theorem newList_mine {M : Model} {A : Around} {E : Value → Shared → Prop} {s : Shared} {h₀ : Heap} {L : Addr} {m : Str → Option Value} {news : Led} {v0 v1 v2 : Value} {Q : Value → Shared → Prop} (F : Fr h₀ L s.heap m) (N : News h₀ L s.heap news)
    (h : ∀ l h', Fr h₀ L h' m → News h₀ L h' ((l, listO [v0, v1, v2] 0) :: news) → (∀ q ∈ news, q.1 < l) → Q (.ref l) { s with heap := h' }) : wpAny M A (newList [v0, v1, v2]) Q E s :=
  newList_N F N (fun h' F' N' => h _ h' F' N' fun q hq => Heap.lt_size (N q hq).1) (by rw [sizeLine_eq]; simp)
theorem unr_end {h₀ : Heap} {L I : Addr} {it : Obj} {rest : (Str → Option Value) → List (Addr × Obj) → Prop} {s₁ : Shared} {h' : Heap} {tk : Nat} {m' : Str → Option Value} {all news' : List (Addr × Obj)} (F : Fr h₀ L h' m') (N : News h₀ L h' all)
    (l1 : ∀ p ∈ news', p.1 < I) (hI : (I, it) ∈ all) (sub : ∀ p ∈ news', p ∈ all) (r : rest m' news') : UnrEnd h₀ L s₁ I it rest { s₁ with heap := h', toks := tk } :=
  UnrEnd.intro F N news' (fun p hp => by
    rcases List.mem_cons.mp hp with rfl | hp
    · exact hI
    · exact sub p hp) (fun p hp => Nat.ne_of_lt (l1 p hp)) r
theorem str_nil_app (y : Str) : Str.ofString "" ++ y = y := by
  have : Str.ofString "" = ⟨#[]⟩ := by decide +kernel
  rw [this]
  show (⟨#[] ++ y.cps⟩ : Str) = y
  simp
theorem bodyS_is (y0 y1 y2 y3 y4 : Str) (k : Int) : bodyS [y0, y1, y2, y3, y4] k = Str.ofString "" ++ y0 ++ nlS k ++ y1 ++ nlS (k + 1) ++ y2 ++ nlS (k + 1 + 1) ++ y3 ++ nlS (k + 1 + 1 + 1) ++ y4 ++ nlS (k + 1 + 1 + 1 + 1) := by
  rw [str_nil_app]
  simp only [bodyS, Str.append_assoc]
  have : ∀ x : Str, x ++ (⟨#[]⟩ : Str) = x := fun x => by show (⟨x.cps ++ #[]⟩ : Str) = x; simp
  rw [this]
theorem mail_con (l : Addr) (c : Nat) (y0 y1 y2 y3 y4 : Str) (t0 t1 t2 t3 t4 tk : Tok) (k : Int) (news : Led) (hl : (l, listO [.str y0 t0, .str y1 t1, .str y2 t2, .str y3 t3, .str y4 t4] c) ∈ news)
    (h0 : y0.length ≤ 20) (h1 : y1.length ≤ 20) (h2 : y2.length ≤ 20) (h3 : y3.length ≤ 20) (h4 : y4.length ≤ 20) (hk0 : 0 ≤ k) (hk1 : k < 2 ^ 40) :
    Con w p loose mean mg mb 122 [.ref l, .int k tk] news 4 32 (fun r n' => ∃ t, r = .str ⟨(quoteL (bodyS [y0, y1, y2, y3, y4] k).cps.toList).toArray⟩ t ∧ news = n') := by
  unfold Con
  k_fill
  intro dp un gd cn cs a ccd cl outer A₀ base h₀ L m s Q E B F X N T hk hd hu hret
  refine wpAny_call ?_
  k_dflt cell_enter
  w_on
  w_top off
  (try (rename Fr _ _ _ _ => F0z; revert F0z; show (let mKz := ?_; (Fr _ _ _ mKz → _)); intro mKz F0z))
  (try (show (let aKz := ?_; wpAny _ aKz _ _ _ _); intro aKz))
  w_strict (repeat' (first
    | (k_unfold; (try dsimp only))
    | ((with_reducible show wpAny _ _ (exec _ _) _ _ _); k_fold; (try (rename Fr _ _ _ _ => F0z; revert F0z; show (let mKz := ?_; (Fr _ _ _ mKz → _)); intro mKz F0z)); (try (refine anyTok fun _ => ?_)); (try dsimp only)) 
    | ((with_reducible show wpAny _ _ (call (Value.ref _) _ _) _ _ _); (with_reducible ((k_dflt refine Con.use (quo_con _ _ _ (by (refine Nat.le_trans (show Str.length _ ≤ _ from by with_reducible assumption) (by decide)))) (by k_asm) (by k_asm) (by k_asm) (by k_asm) (by k_asm) rfl (by ktr_room) (by ktr_units) ?_; intro _ _ _ _ _ _ hp9z; obtain ⟨_, e1z, e2z⟩ := hp9z; subst e1z; subst e2z; try dsimp only))))
    | ((with_reducible show wpAny _ _ (binaryOp Operator.Add (Value.str _ _) (Value.str _ _)) _ _ _); (with_reducible ((refine addS (by first | with_reducible assumption | exact nlS_len _ | exact len_nil) (by first | with_reducible assumption | exact nlS_len _) (by decide) ?_; intro _ _ _; try dsimp only))))
    | ((with_reducible show wpAny _ _ (subscriptTail ..) _ _ _); (with_reducible ((k_dflt refine nl_item (by k_asm) (by k_mem) ?_; intro _))))
    | ((with_reducible show wpAny _ _ (newList ..) _ _ _); (with_reducible ((k_dflt refine newList_mine (by k_asm) (by k_asm) ?_; intro _ _ _ _ _; try dsimp only))))
    | ((with_reducible show ListRest ..); (with_reducible (((with_unfolding_all first | (refine ListRest.succ (fun _ h'z tk'z _ F'z N'z => ?_)) | (refine ListRest.zero (fun h'z tk'z F'z N'z => ?_))); try dsimp only))))
    | ((with_reducible show UnrEnd ..); (with_reducible ((k_dflt refine unr_end (by assumption) (by k_asm) (by assumption) (by k_mem) (by intro _ h9z; first | exact h9z | exact .tail _ h9z | exact .tail _ (.tail _ h9z) | exact .tail _ (.tail _ (.tail _ h9z))) ⟨by assumption, ?_⟩))))
    | ((with_reducible show wpAny _ _ (pyIter ..) _ _ _); (with_reducible (((rename Fr _ _ _ _ => lF'z); (with_unfolding_all refine iter_listUnr (by rfl) lF'z (by k_asm) (by with_reducible assumption) (by rfl) (by rfl) ?_); clear lF'z; intro _ _))))
    | ((with_reducible show wpAny _ _ (exec (Stmt.For ..) _) _ _ _); (with_reducible (((rename Fr _ _ _ _ => lF'z); (with_unfolding_all refine For_invVF lF'z (by (exact rfl)) (by (exact rfl)) ?_)))))
    | (k_end; wrow_close)
    | walk1
    | (leave1; (try dsimp only))
    | dsimp only))
  all_goals exact hret _ _ _ _ (by k_asm) (by k_asm) ⟨_, by rw [bodyS_is], rfl⟩
end Mine
end

section
open PySem PySem.W PyProof.Rows PySem.Calls PySem.Spec
set_option Elab.async false
set_option maxRecDepth 100000
set_option maxHeartbeats 8000000
namespace Mine
open Builtin Builtin.Str in
theorem gives_find4 (x y : Str) (i j : Int) (t u v z : Tok) : Gives («str.find» ⟨[.str x t, .str y u, .int i v, .int j z], []⟩) (.int (match occurrences x y (fromIndex x.length i) (min (fromIndex x.length j) x.length) 1 with | k :: _ => (k : Int) | [] => -1)) := by
  show Gives (match occurrences x y (fromIndex x.length i) (min (fromIndex x.length j) x.length) 1 with | k :: _ => retInt k | [] => (do rule "str.find.not-found"; retInt (-1))) _
  cases occurrences x y (fromIndex x.length i) (min (fromIndex x.length j) x.length) 1 with
  | nil => exact .rule (.of_eq rfl)
  | cons k _ => exact .of_eq rfl
theorem fromIndex_nat (n : Nat) (i : Int) (hi : 0 ≤ i) : fromIndex n i = i.toNat := by
  unfold fromIndex; rw [if_neg (by lia)]; lia
noncomputable def isIn (m got : Str) : Bool := !(Builtin.Str.occurrences got m 0 got.length 1).isEmpty
section
variable {prog : Program} {w : World} {A : Around} {E : Value → Shared → Prop} {s : Shared} {x y : Str} {t u v z : Tok} {i j : Int} {Q : Value → Shared → Prop}
theorem find4 (hi : 0 ≤ i) (hj : j = x.length) (hq : ∀ t k, Q (.int (match Builtin.Str.occurrences x y i.toNat x.length 1 with | k :: _ => (k : Int) | [] => -1) t) { s with toks := k }) : wpAny (model prog w) A (call (.builtin "str.find") [.str x t, .str y u, .int i v, .int j z]) Q E s := by
  have g := gives_find4 x y i j t u v z
  rw [fromIndex_nat _ _ hi, fromIndex_nat _ _ (by lia), show min j.toNat x.length = x.length by lia] at g
  exact call_gives PySem.F.slot_str_find (typeIs_str _ _ _) PySem.F.entry_str_find (PySem.F.args_str_find_4 _ _ _ _) g (hq _ _)
theorem find_nil (hi : 0 ≤ i) (hj : j = x.length) (hl : i ≤ x.length) (hq : ∀ t k, Q (.int i t) { s with toks := k }) : wpAny (model prog w) A (call (.builtin "str.find") [.str x t, .str (Str.ofString "") u, .int i v, .int j z]) Q E s := by
  have e0 : Str.ofString "" = ⟨#[]⟩ := by decide +kernel
  have h0 : StrLaws.At x (Str.ofString "") x.length i.toNat := by
    rw [e0]; refine ⟨by show i.toNat + 0 ≤ _; lia, ?_⟩
    rw [StrLaws.subAt_eq]; rfl
  refine find4 hi hj fun t k => ?_
  rcases StrLaws.occ_head_from x (Str.ofString "") i.toNat 1 (Nat.le_refl 1) with ⟨e, h⟩ | ⟨a, r, e, h1, h2, h3⟩
  · exact absurd h0 (h _ (Nat.le_refl _))
  · have : a = i.toNat := by
      rcases Nat.lt_or_ge i.toNat a with h | h
      · exact absurd h0 (h3 _ (Nat.le_refl _) h)
      · lia
    rw [e]; show Q (.int (a : Int) t) _
    rw [show (a : Int) = i by lia]; exact hq _ _
theorem find_mid (hi : i = 0) (hj : j = x.length) (h1 : isIn y x = false → ∀ t k, Q (.int (-1) t) { s with toks := k }) (h2 : ∀ a : Nat, isIn y x = true → a + y.length ≤ x.length → ∀ t k, Q (.int a t) { s with toks := k }) :
    wpAny (model prog w) A (call (.builtin "str.find") [.str x t, .str y u, .int i v, .int j z]) Q E s := by
  refine find4 (by lia) hj fun t k => ?_
  subst hi
  rcases StrLaws.occ_head_from x y 0 1 (Nat.le_refl 1) with ⟨e, h⟩ | ⟨a, r, e, h1', h2', h3⟩
  · have e' : isIn y x = false := by unfold isIn; rw [e]; rfl
    show Q (.int (match Builtin.Str.occurrences x y 0 x.length 1 with | k :: _ => (k : Int) | [] => -1) t) _
    rw [e]; exact h1 e' _ _
  · have e' : isIn y x = true := by unfold isIn; rw [e]; rfl
    show Q (.int (match Builtin.Str.occurrences x y 0 x.length 1 with | k :: _ => (k : Int) | [] => -1) t) _
    rw [e]; exact h2 a e' h2'.1 _ _
theorem nin_str (hn : (Builtin.Str.occurrences x y 0 x.length 1).isEmpty = false) (h : Q (.bool false) s) : wpAny (model prog w) A (compareOp .NotIn (.str y u) (.str x t)) Q E s :=
  notIn_str (by rw [hn]; exact h)
theorem split_three {h₀ : Heap} {L : Addr} {m : Str → Option Value} {news : Led} {a b c : Str} (hF : Fr h₀ L s.heap m) (hN : News h₀ L s.heap news) (hy : (y.length == 0) = false) (hs : Txt.split x y = [a, b, c])
    (h : ∀ D t0 t1 t2 h' k, Fr h₀ L h' m → News h₀ L h' ((D, listO [.str a t0, .str b t1, .str c t2] 0) :: news) → (∀ p ∈ news, p.1 < D) → Q (.ref D) { s with heap := h', toks := k })
    (hsz : x.length + 2 ≤ sizeLine) :
    wpAny (model prog w) A (call (.builtin "str.split") [.str x t, .str y u]) Q E s := by
  refine KSpl.split1 hF hN hy (fun D l h' k e _ F N l1 => ?_) hsz
  have e := e.trans hs
  obtain ⟨t0, q0, e1, e⟩ := KSpl.cons_of e
  obtain ⟨t1, q1, e2, e⟩ := KSpl.cons_of e
  obtain ⟨t2, q2, e3, e⟩ := KSpl.cons_of e
  have e4 := KSpl.nil_of e
  rw [e1, e2, e3, e4] at N
  exact h D t0 t1 t2 h' k F N l1
end
variable {w : World} {p : Program} {loose : List Str} {mean : ExcName → Option Value} {mg mb : Str → Option Value}
theorem ell_con (want mm got : Str) (t u : Tok) (news : Led) (hg : got.length ≤ 200) (hw : want.length ≤ 20) (h1 : (Builtin.Str.occurrences want (Str.ofString "...") 0 want.length 1).isEmpty = false)
    (h2 : Txt.split want (Str.ofString "...") = [Str.ofString "", mm, Str.ofString ""]) :
    Con w p loose mean mg mb 70 [.str want t, .str got u] news 4 32 (fun r n' => r = .bool (isIn mm got) ∧ news = n') := by
  unfold Con
  k_fill
  intro dp un gd cn cs a ccd cl outer A₀ base h₀ L m s Q E B F X N T hk hd hu hret
  refine wpAny_call ?_
  k_dflt cell_enter
  w_on
  w_top on
  (try (rename Fr _ _ _ _ => F0z; revert F0z; show (let mKz := ?_; (Fr _ _ _ mKz → _)); intro mKz F0z))
  (try (show (let aKz := ?_; wpAny _ aKz _ _ _ _); intro aKz))
  w_strict (repeat' (first
    | (k_unfold; (try dsimp only))
    | ((with_reducible show wpAny _ _ (exec _ _) _ _ _); k_fold; (try (rename News _ _ _ _ => N0z; revert N0z; show (let lKz := ?_; (News _ _ _ lKz → _)); intro lKz N0z)); (try (rename Fr _ _ _ _ => F0z; revert F0z; show (let mKz := ?_; (Fr _ _ _ mKz → _)); intro mKz F0z))) 
    | ((with_reducible show wpAny _ _ (call (Value.builtin _) _ _) _ _ _); (with_reducible ((k_dflt refine split_three (by k_asm) (by k_asm) (by decide +kernel) (by with_reducible assumption) ?_ (by rw [sizeLine_eq]; lia); intro _ _ _ _ _ _ _ _ l1z; (try k_lt l1z)))))
    | ((with_reducible show wpAny _ _ (compareOp CmpOp.NotIn (Value.str _ _) (Value.str _ _)) _ _ _); (with_reducible ((refine nin_str (by with_reducible assumption) ?_))))
    | ((with_reducible show ListRest ..); (with_reducible (((with_unfolding_all first | (refine ListRest.succ (fun _ h'z tk'z _ F'z N'z => ?_)) | (refine ListRest.zero (fun h'z tk'z F'z N'z => ?_))); try dsimp only))))
    | ((with_reducible show UnrEnd ..); (with_reducible ((k_dflt refine unr_end (by assumption) (by k_asm) (by assumption) (by k_mem) (by intro _ h9z; first | exact h9z | exact .tail _ h9z | exact .tail _ (.tail _ h9z) | exact .tail _ (.tail _ (.tail _ h9z))) ⟨by k_mem, ?_⟩))))
    | ((with_reducible show wpAny _ _ (pyIter ..) _ _ _); (with_reducible (((rename Fr _ _ _ _ => lF'z); (with_unfolding_all refine iter_listUnr (by rfl) lF'z (by k_asm) (by k_mem) (by rfl) (by rfl) ?_); clear lF'z; intro _ _))))
    | ((with_reducible show wpAny _ _ (exec (Stmt.For ..) _) _ _ _); (with_reducible (((rename Fr _ _ _ _ => lF'z); (with_unfolding_all refine For_invVF lF'z (by (exact rfl)) (by (exact rfl)) ?_)))))
    | ((with_reducible show wpAny _ _ (call (Value.builtin _) _ _) _ _ _); ((first | (refine find_nil (by lia) (by rfl) (by lia) (fun t9z k9z => ?_); try dsimp only) | (refine find_mid (by lia) (by rfl) (fun hq9z t9z k9z => ?_) (fun _ hq9z _ t9z k9z => ?_) <;> try dsimp only))))
    | (k_end; wrow_close)
    | walk1
    | (leave1; (try dsimp only))
    | dsimp only))
  all_goals exact hret _ news _ _ (by k_asm) (by (rename News _ _ _ _ => nn9); exact fun q9 hq9 => nn9 q9 (by first | exact .tail _ (.tail _ hq9) | exact .tail _ (.tail _ (.tail _ hq9)) | exact .tail _ hq9 | exact hq9)) ⟨by (rename isIn _ _ = _ => hh9; rw [hh9]), rfl⟩
end Mine
end

section
set_option Elab.async false
set_option maxRecDepth 100000
set_option linter.unusedVariables false
set_option linter.unusedSimpArgs false
namespace Mine
open PySem PySem.Builtin.Int
noncomputable def updT (T : Int → Int → Int) (i j x : Int) : Int → Int → Int := fun a b => if a = i ∧ b = j then x else T a b
noncomputable def stepT (left right : Int → Int) (b : Int → Int → Bool) (i j : Int) (T : Int → Int → Int) : Int → Int → Int :=
  if b i j = true then
    let w := left i * right j
    let T1 := updT T i i (T i i + w)
    let T2 := updT T1 (5 + j) (5 + j) (T1 (5 + j) (5 + j) + w)
    let T3 := updT T2 i (5 + j) (T2 i (5 + j) - w)
    updT T3 (5 + j) i (T3 (5 + j) i - w)
  else T
noncomputable def rowT (left right : Int → Int) (b : Int → Int → Bool) (i : Int) (T : Int → Int → Int) : Nat → Int → Int → Int
  | 0 => T
  | j + 1 => stepT left right b i j (rowT left right b i T j)
noncomputable def initT (left right : Int → Int) (b : Int → Int → Bool) : Nat → Int → Int → Int
  | 0 => fun _ _ => 0
  | i + 1 => rowT left right b i (initT left right b i) 5
noncomputable def barJ (hd bf k i : Int) (T : Int → Int → Int) : Nat → Int → Int → Int
  | 0 => T
  | j + 1 => updT (barJ hd bf k i T j) i (k + 1 + (j : Int)) (Int.fdiv (hd * barJ hd bf k i T j i (k + 1 + (j : Int)) - barJ hd bf k i T j i k * barJ hd bf k i T j k (k + 1 + (j : Int))) bf)
noncomputable def barI (hd bf k : Int) (n : Nat) (T : Int → Int → Int) : Nat → Int → Int → Int
  | 0 => T
  | i + 1 => barJ hd bf k (k + 1 + (i : Int)) (barI hd bf k n T i) n
noncomputable def barK (T : Int → Int → Int) : Nat → (Int → Int → Int) × Int
  | 0 => (T, 1)
  | k + 1 => (barI ((barK T k).1 (0 + (k : Int)) (0 + (k : Int))) (barK T k).2 (0 + (k : Int)) (8 - k) (barK T k).1 (8 - k), (barK T k).1 (0 + (k : Int)) (0 + (k : Int)))

theorem barJ_val (hd bf k i : Int) (T : Int → Int → Int) (hi : k < i) : ∀ (n : Nat) (a b : Int), barJ hd bf k i T n a b = if a = i ∧ k + 1 ≤ b ∧ b < k + 1 + n then Int.fdiv (hd * T a b - T a k * T k b) bf else T a b
  | 0, a, b => by rw [if_neg (by lia)]; rfl
  | n + 1, a, b => by
    show updT _ _ _ _ a b = _
    unfold updT
    by_cases h : a = i ∧ b = k + 1 + (n : Int)
    · obtain ⟨rfl, rfl⟩ := h
      rw [if_pos ⟨rfl, rfl⟩, if_pos (by lia), barJ_val hd bf k a T hi n, barJ_val hd bf k a T hi n, barJ_val hd bf k a T hi n, if_neg (by lia), if_neg (by lia), if_neg (by lia)]
    · rw [if_neg h, barJ_val hd bf k i T hi n]
      by_cases q : a = i ∧ k + 1 ≤ b ∧ b < k + 1 + n
      · rw [if_pos q, if_pos (by lia)]
      · rw [if_neg q, if_neg (by lia)]
theorem barI_val (hd bf k : Int) (n : Nat) (T : Int → Int → Int) : ∀ (m : Nat) (a b : Int), barI hd bf k n T m a b = if k + 1 ≤ a ∧ a < k + 1 + m ∧ k + 1 ≤ b ∧ b < k + 1 + n then Int.fdiv (hd * T a b - T a k * T k b) bf else T a b
  | 0, a, b => by rw [if_neg (by lia)]; rfl
  | m + 1, a, b => by
    show barJ _ _ _ _ _ n a b = _
    rw [barJ_val _ _ _ _ _ (by lia)]
    by_cases h : a = k + 1 + (m : Int) ∧ k + 1 ≤ b ∧ b < k + 1 + n
    · rw [if_pos h, if_pos (by lia), barI_val hd bf k n T m, barI_val hd bf k n T m, barI_val hd bf k n T m, if_neg (by lia), if_neg (by lia), if_neg (by lia)]
    · rw [if_neg h, barI_val hd bf k n T m]
      by_cases q : k + 1 ≤ a ∧ a < k + 1 + m ∧ k + 1 ≤ b ∧ b < k + 1 + n
      · rw [if_pos q, if_pos (by lia)]
      · rw [if_neg q, if_neg (by lia)]
theorem barK_val (T : Int → Int → Int) (k : Nat) (hk : k < 8) (a b : Int) (ha : (k : Int) + 1 ≤ a ∧ a ≤ 8) (hb : (k : Int) + 1 ≤ b ∧ b ≤ 8) :
    (barK T (k + 1)).1 a b = Int.fdiv ((barK T k).1 k k * (barK T k).1 a b - (barK T k).1 a k * (barK T k).1 k b) (barK T k).2 := by
  show barI _ _ _ _ _ _ a b = _
  rw [barI_val, if_pos (by lia), Int.zero_add]
theorem barK_bf (T : Int → Int → Int) (k : Nat) : (barK T (k + 1)).2 = (barK T k).1 k k := by
  show (barK T k).1 (0 + (k : Int)) (0 + (k : Int)) = _
  rw [Int.zero_add]

noncomputable def TBits (n : Nat) (T : Int → Int → Int) : Prop := ∀ a b, intBits (T a b) ≤ n
theorem TBits.mono {m n : Nat} {T : Int → Int → Int} (h : TBits m T) (e : m ≤ n) : TBits n T := fun a b => Nat.le_trans (h a b) e
theorem bits_new {n : Nat} {hd x y z bf : Int} (h1 : intBits hd ≤ n) (h2 : intBits x ≤ n) (h3 : intBits y ≤ n) (h4 : intBits z ≤ n) : intBits (Int.fdiv (hd * x - y * z) bf) ≤ 2 * n + 1 := by
  have := intBits_fdiv_le (y := bf) (intBits_sub_le (intBits_mul_le h1 h2) (intBits_mul_le h3 h4))
  lia
theorem barI_bits {hd bf k : Int} {n m : Nat} {N : Nat} {T : Int → Int → Int} (h1 : intBits hd ≤ N) (h : TBits N T) : TBits (2 * N + 1) (barI hd bf k n T m) := fun a b => by
  rw [barI_val]
  split
  · exact bits_new h1 (h _ _) (h _ _) (h _ _)
  · exact Nat.le_trans (h _ _) (by lia)
theorem barJ_bits {hd bf k i : Int} {n : Nat} {N : Nat} {T : Int → Int → Int} (hi : k < i) (h1 : intBits hd ≤ N) (h : TBits N T) : TBits (2 * N + 1) (barJ hd bf k i T n) := fun a b => by
  rw [barJ_val _ _ _ _ _ hi]
  split
  · exact bits_new h1 (h _ _) (h _ _) (h _ _)
  · exact Nat.le_trans (h _ _) (by lia)
theorem barK_bits {T : Int → Int → Int} (h : TBits 24 T) : ∀ k : Nat, TBits (25 * 2 ^ k - 1) (barK T k).1 ∧ intBits (barK T k).2 ≤ 25 * 2 ^ k - 1
  | 0 => ⟨fun a b => Nat.le_trans (h a b) (by decide), show intBits 1 ≤ _ by decide⟩
  | k + 1 => by
    obtain ⟨h1, _⟩ := barK_bits h k
    have hp : 0 < 2 ^ k := Nat.two_pow_pos k
    have e : 25 * 2 ^ (k + 1) - 1 = 2 * (25 * 2 ^ k - 1) + 1 := by rw [Nat.pow_succ]; lia
    refine ⟨?_, ?_⟩
    · rw [e]; exact barI_bits (h1 _ _) h1
    · show intBits ((barK T k).1 _ _) ≤ _
      exact Nat.le_trans (h1 _ _) (by lia)

noncomputable def U (left right : Int → Int) (b : Int → Int → Bool) (i j : Int) : Int := if b i j = true then left i * right j else 0
noncomputable def sN (f : Int → Int) : Nat → Int
  | 0 => 0
  | n + 1 => sN f n + f n
theorem updT_add (T : Int → Int → Int) (a c d x y : Int) : updT T a c (T a c + d) x y = T x y + (if x = a ∧ y = c then d else 0) := by
  unfold updT
  by_cases h : x = a ∧ y = c
  · rw [if_pos h, if_pos h, h.1, h.2]
  · rw [if_neg h, if_neg h, Int.add_zero]
theorem updT_sub (T : Int → Int → Int) (a c d x y : Int) : updT T a c (T a c - d) x y = T x y - (if x = a ∧ y = c then d else 0) := by
  unfold updT
  by_cases h : x = a ∧ y = c
  · rw [if_pos h, if_pos h, h.1, h.2]
  · rw [if_neg h, if_neg h, Int.sub_zero]
theorem stepT_val (left right : Int → Int) (b : Int → Int → Bool) (i j : Int) (T : Int → Int → Int) (hi : 0 ≤ i ∧ i < 5) (hj : 0 ≤ j) (x y : Int) :
    stepT left right b i j T x y = T x y + (if x = i ∧ y = i then U left right b i j else 0) + (if x = 5 + j ∧ y = 5 + j then U left right b i j else 0) - (if x = i ∧ y = 5 + j then U left right b i j else 0) - (if x = 5 + j ∧ y = i then U left right b i j else 0) := by
  unfold stepT U
  by_cases hb : b i j = true
  · simp only [hb, if_true]
    rw [updT_sub, updT_sub, updT_add, updT_add]
  · simp [hb]
end Mine
end

section
set_option Elab.async false
set_option maxRecDepth 100000
set_option linter.unusedVariables false
set_option linter.unusedSimpArgs false
namespace Mine
open PySem PySem.Builtin.Int
theorem ite_join {p q r : Prop} [Decidable p] [Decidable q] [Decidable r] {u v : Int} (h1 : r ↔ p ∨ q) (h2 : p → ¬ q) (h3 : q → v = u) : (if p then u else 0) + (if q then v else 0) = if r then u else 0 := by
  by_cases hp : p
  · rw [if_pos hp, if_neg (h2 hp), if_pos (h1.mpr (.inl hp)), Int.add_zero]
  · by_cases hq : q
    · rw [if_neg hp, if_pos hq, if_pos (h1.mpr (.inr hq)), Int.zero_add, h3 hq]
    · rw [if_neg hp, if_neg hq, if_neg fun hr => (h1.mp hr).elim hp hq, Int.add_zero]
theorem ite_plus {p q : Prop} [Decidable p] [Decidable q] {u v : Int} (h : q ↔ p) : (if p then u else 0) + (if q then v else 0) = if p then u + v else 0 := by
  by_cases hp : p
  · rw [if_pos hp, if_pos (h.mpr hp), if_pos hp]
  · rw [if_neg hp, if_neg fun hq => hp (h.mp hq), if_neg hp, Int.add_zero]
theorem comb4 {t a b c d a' b' c' d' A B C D : Int} (hA : a + a' = A) (hB : b + b' = B) (hC : c + c' = C) (hD : d + d' = D) : t + a + b - c - d + a' + b' - c' - d' = t + A + B - C - D := by lia
theorem comb4' {a b c d a' b' c' d' A B C D : Int} (hA : a + a' = A) (hB : b + b' = B) (hC : c + c' = C) (hD : d + d' = D) : a + b - c - d + a' + b' - c' - d' = A + B - C - D := by lia
theorem jB1 (x y : Int) (n : Nat) : (x = y ∧ 5 ≤ x ∧ x < 5 + ((n + 1 : Nat) : Int)) ↔ (x = y ∧ 5 ≤ x ∧ x < 5 + (n : Int)) ∨ (x = 5 + (n : Int) ∧ y = 5 + (n : Int)) := by omega
theorem jC1 (y : Int) (n : Nat) : (5 ≤ y ∧ y < 5 + ((n + 1 : Nat) : Int)) ↔ (5 ≤ y ∧ y < 5 + (n : Int)) ∨ y = 5 + (n : Int) := by omega
theorem jN (y : Int) (n : Nat) (h : y < 5 + (n : Int)) : ¬ y = 5 + (n : Int) := by lia
theorem uAt (u : Int → Int) {x : Int} {n : Nat} (h : x = 5 + (n : Int)) : u n = u (x - 5) := by
  rw [h, Int.add_comm, Int.add_sub_cancel]
theorem rowT_val (left right : Int → Int) (b : Int → Int → Bool) (i : Int) (T : Int → Int → Int) (hi : 0 ≤ i ∧ i < 5) (x y : Int) : ∀ n : Nat,
    rowT left right b i T n x y = T x y + (if x = i ∧ y = i then sN (U left right b i) n else 0) + (if x = y ∧ 5 ≤ x ∧ x < 5 + n then U left right b i (x - 5) else 0) - (if x = i ∧ 5 ≤ y ∧ y < 5 + n then U left right b i (y - 5) else 0) - (if y = i ∧ 5 ≤ x ∧ x < 5 + n then U left right b i (x - 5) else 0)
  | 0 => by
    have hz : ∀ z : Int, ¬ (5 ≤ z ∧ z < 5 + ((0 : Nat) : Int)) := fun z => by lia
    rw [if_neg (show ¬ (x = y ∧ 5 ≤ x ∧ x < 5 + ((0 : Nat) : Int)) from fun h => hz x h.2), if_neg (show ¬ (x = i ∧ 5 ≤ y ∧ y < 5 + ((0 : Nat) : Int)) from fun h => hz y h.2), if_neg (show ¬ (y = i ∧ 5 ≤ x ∧ x < 5 + ((0 : Nat) : Int)) from fun h => hz x h.2)]
    show T x y = T x y + (if _ then 0 else 0) + 0 - 0 - 0
    rw [ite_self, Int.add_zero, Int.add_zero, Int.sub_zero, Int.sub_zero]
  | n + 1 => by
    show stepT left right b i n _ x y = _
    rw [stepT_val _ _ _ _ _ _ hi (Int.natCast_nonneg n), rowT_val left right b i T hi x y n]
    show _ = T x y + (if x = i ∧ y = i then sN (U left right b i) n + U left right b i n else 0) + _ - _ - _
    exact comb4 (ite_plus Iff.rfl) (ite_join (jB1 x y n) (fun h h' => jN x n h.2.2 h'.1) fun h => uAt _ h.1)
      (ite_join (by rw [jC1, and_or_left]) (fun h h' => jN y n h.2.2 h'.2) fun h => uAt _ h.2)
      (ite_join (by rw [jC1, and_or_left, and_comm (a := x = 5 + (n : Int))]) (fun h h' => jN x n h.2.2 h'.1) fun h => uAt _ h.1)
theorem jI1 (x y : Int) (n : Nat) : (x = y ∧ x < ((n + 1 : Nat) : Int)) ↔ (x = y ∧ x < (n : Int)) ∨ (x = (n : Int) ∧ y = (n : Int)) := by lia
theorem jI2 {x y : Int} (hx : x < 10) : (x = y ∧ 5 ≤ x ∧ x < 5 + ((5 : Nat) : Int)) ↔ (x = y ∧ 5 ≤ x) := by omega
theorem jI3 {x y : Int} (n : Nat) (hy : y < 10) : (x < ((n + 1 : Nat) : Int) ∧ 5 ≤ y) ↔ (x < (n : Int) ∧ 5 ≤ y) ∨ (x = (n : Int) ∧ 5 ≤ y ∧ y < 5 + ((5 : Nat) : Int)) := by omega
theorem jM (y : Int) (n : Nat) (h : y < (n : Int)) : ¬ y = (n : Int) := by lia
theorem initT_val (left right : Int → Int) (b : Int → Int → Bool) (x y : Int) (hx : 0 ≤ x ∧ x < 10) (hy : 0 ≤ y ∧ y < 10) : ∀ n : Nat, n ≤ 5 →
    initT left right b n x y = (if x = y ∧ x < n then sN (U left right b x) 5 else 0) + (if x = y ∧ 5 ≤ x then sN (fun i => U left right b i (x - 5)) n else 0) - (if x < n ∧ 5 ≤ y then U left right b x (y - 5) else 0) - (if y < n ∧ 5 ≤ x then U left right b y (x - 5) else 0)
  | 0, _ => by
    have hz : ∀ z : Int, 0 ≤ z → ¬ z < ((0 : Nat) : Int) := fun z h => Int.not_lt.mpr h
    rw [if_neg (show ¬ (x = y ∧ x < ((0 : Nat) : Int)) from fun h => hz x hx.1 h.2), if_neg (show ¬ (x < ((0 : Nat) : Int) ∧ 5 ≤ y) from fun h => hz x hx.1 h.1), if_neg (show ¬ (y < ((0 : Nat) : Int) ∧ 5 ≤ x) from fun h => hz y hy.1 h.1)]
    show (0 : Int) = 0 + (if _ then 0 else 0) - 0 - 0
    rw [ite_self]; rfl
  | n + 1, hn => by
    show rowT left right b n _ 5 x y = _
    rw [rowT_val _ _ _ _ _ ⟨Int.natCast_nonneg n, by lia⟩, initT_val left right b x y hx hy n (Nat.le_of_succ_le hn)]
    show _ = _ + (if x = y ∧ 5 ≤ x then sN (fun i => U left right b i (x - 5)) n + U left right b n (x - 5) else 0) - _ - _
    exact comb4' (ite_join (jI1 x y n) (fun h h' => jM x n h.2 h'.1) fun h => by rw [h.1]) (ite_plus (jI2 hx.2))
      (ite_join (jI3 n hy.2) (fun h h' => jM x n h.1 h'.1) fun h => by rw [h.1])
      (ite_join (jI3 n hx.2) (fun h h' => jM y n h.1 h'.1) fun h => by rw [h.1])
end Mine
end

section
set_option Elab.async false
set_option maxRecDepth 100000
set_option linter.unusedVariables false
set_option linter.unusedSimpArgs false
namespace Mine
open PySem PySem.Builtin.Int
section
variable (u : Int → Int → Int)
noncomputable def pV (i : Int) : Int := sN (u i) 5
noncomputable def qV (j : Int) : Int := sN (fun i => u i j) 5
noncomputable def pN : Nat → Int
  | 0 => 1
  | k + 1 => pN k * pV u k
noncomputable def Wt : Nat → Int → Int → Int
  | 0, x, y => if x = y then qV u x else 0
  | k + 1, x, y => pV u k * Wt k x y - pN u k * (u k x * u k y)
noncomputable def Ft (k : Nat) (a b : Int) : Int :=
  if a < 5 then (if b < 5 then (if a = b then pN u k * pV u a else 0) else -(pN u k * u a (b - 5)))
  else (if b < 5 then -(pN u k * u b (a - 5)) else Wt u k (a - 5) (b - 5))
end
theorem fdiv_mul {P x y : Int} (hP : P ≠ 0) (h : x = P * y) : Int.fdiv x P = y := by
  rw [h, Int.mul_comm]; exact Int.mul_fdiv_cancel _ hP
theorem init_Ft (left right : Int → Int) (b : Int → Int → Bool) (x y : Int) (hx : 0 ≤ x ∧ x ≤ 8) (hy : 0 ≤ y ∧ y ≤ 8) : initT left right b 5 x y = Ft (U left right b) 0 x y := by
  rw [initT_val left right b x y (by lia) (by lia) 5 (Nat.le_refl _)]
  unfold Ft pN Wt
  by_cases h1 : x < 5
  · rw [if_pos h1]
    by_cases h2 : y < 5
    · rw [if_pos h2, if_neg (show ¬ (x = y ∧ 5 ≤ x) by lia), if_neg (show ¬ (x < ((5 : Nat) : Int) ∧ 5 ≤ y) by lia), if_neg (show ¬ (y < ((5 : Nat) : Int) ∧ 5 ≤ x) by lia)]
      by_cases h3 : x = y
      · rw [if_pos (by lia), if_pos h3]; unfold pV; lia
      · rw [if_neg (by lia), if_neg h3]; lia
    · rw [if_neg h2, if_neg (show ¬ (x = y ∧ x < ((5 : Nat) : Int)) by lia), if_neg (show ¬ (x = y ∧ 5 ≤ x) by lia), if_pos (show (x < ((5 : Nat) : Int) ∧ 5 ≤ y) by lia), if_neg (show ¬ (y < ((5 : Nat) : Int) ∧ 5 ≤ x) by lia)]
      lia
  · rw [if_neg h1]
    by_cases h2 : y < 5
    · rw [if_pos h2, if_neg (show ¬ (x = y ∧ x < ((5 : Nat) : Int)) by lia), if_neg (show ¬ (x = y ∧ 5 ≤ x) by lia), if_neg (show ¬ (x < ((5 : Nat) : Int) ∧ 5 ≤ y) by lia), if_pos (show (y < ((5 : Nat) : Int) ∧ 5 ≤ x) by lia)]
      lia
    · rw [if_neg h2, if_neg (show ¬ (x = y ∧ x < ((5 : Nat) : Int)) by lia), if_neg (show ¬ (x < ((5 : Nat) : Int) ∧ 5 ≤ y) by lia), if_neg (show ¬ (y < ((5 : Nat) : Int) ∧ 5 ≤ x) by lia)]
      by_cases h3 : x = y
      · rw [if_pos (by lia), if_pos (by lia)]; unfold qV; lia
      · rw [if_neg (by lia), if_neg (by lia)]; lia
theorem barK_Ft (left right : Int → Int) (b : Int → Int → Bool) (hp : ∀ k : Nat, k ≤ 5 → pN (U left right b) k ≠ 0) : ∀ k : Nat, k ≤ 5 →
    (barK (initT left right b 5) k).2 = pN (U left right b) k ∧ ∀ x y : Int, (k : Int) ≤ x ∧ x ≤ 8 → (k : Int) ≤ y ∧ y ≤ 8 → (barK (initT left right b 5) k).1 x y = Ft (U left right b) k x y
  | 0, _ => ⟨rfl, fun x y hx hy => init_Ft left right b x y (by lia) (by lia)⟩
  | k + 1, hk => by
    obtain ⟨h1, h2⟩ := barK_Ft left right b hp k (by lia)
    have hd : (barK (initT left right b 5) k).1 k k = pN (U left right b) k * pV (U left right b) k := by
      rw [h2 k k (by lia) (by lia)]; unfold Ft
      rw [if_pos (by lia), if_pos (by lia), if_pos rfl]
    have hP := hp k (by lia)
    refine ⟨(barK_bf _ k).trans hd, fun x y hx hy => ?_⟩
    rw [barK_val _ k (by lia) x y (by lia) (by lia), hd, h1, h2 x y (by lia) (by lia), h2 x k (by lia) (by lia), h2 k y (by lia) (by lia)]
    refine fdiv_mul hP ?_
    generalize U left right b = u at *
    unfold Ft
    simp only [Wt, pN]
    by_cases c1 : x < 5
    · by_cases c2 : y < 5
      · simp only [c1, c2, if_true, show (k : Int) < 5 by lia, show ¬ (x = (k : Int)) by lia, show ¬ ((k : Int) = y) by lia, if_false]
        by_cases c3 : x = y
        · simp only [c3, if_true]; grind
        · simp only [c3, if_false]; grind
      · simp only [c1, c2, if_true, if_false, show (k : Int) < 5 by lia, show ¬ (x = (k : Int)) by lia]
        grind
    · by_cases c2 : y < 5
      · simp only [c1, c2, if_true, if_false, show (k : Int) < 5 by lia, show ¬ ((k : Int) = y) by lia]
        grind
      · simp only [c1, c2, if_true, if_false, show (k : Int) < 5 by lia]
        grind
end Mine
end

section
set_option Elab.async false
set_option maxRecDepth 100000
set_option linter.unusedVariables false
set_option linter.unusedSimpArgs false
namespace Mine
open PySem PySem.Builtin.Int
noncomputable def rho (r : Int → Int) (m : Int) : Int := if m = 1 then r 0 else if m = 2 then r 0 + r 1 else if m = 3 then r 0 + r 1 + r 2 else if m = 4 then r 0 + r 1 + r 2 + r 3 else r 0 + r 1 + r 2 + r 3 + r 4
section
variable (u : Int → Int → Int) (l s : Int → Int)
noncomputable def Qs : Nat → Int → Int
  | 0, _ => 1
  | k + 1, m => if s k = m then Qs k m * pV u k else Qs k m
noncomputable def Ks : Nat → Int → Int
  | 0, _ => 0
  | k + 1, m => if s k = m then Ks k m * pV u k + Qs u s k m * (l k * l k) else Ks k m
noncomputable def Ls : Nat → Int → Int
  | 0, _ => 0
  | k + 1, m => if s k = m then Ls k m + l k else Ls k m
end
noncomputable def Gx (Q K : Int → Int) (m : Int) : Int := (if m < 1 then K 1 * (Q 2 * Q 3 * Q 4 * Q 5) else 0) + (if m < 2 then K 2 * (Q 1 * Q 3 * Q 4 * Q 5) else 0) + (if m < 3 then K 3 * (Q 1 * Q 2 * Q 4 * Q 5) else 0) + (if m < 4 then K 4 * (Q 1 * Q 2 * Q 3 * Q 5) else 0) + (if m < 5 then K 5 * (Q 1 * Q 2 * Q 3 * Q 4) else 0)
noncomputable def Cx (L : Int → Int) (m : Int) : Int := (if m < 1 then L 1 else 0) + (if m < 2 then L 2 else 0) + (if m < 3 then L 3 else 0) + (if m < 4 then L 4 else 0) + (if m < 5 then L 5 else 0)
theorem add_if {c : Prop} [Decidable c] (a x : Int) : (if c then a + x else 0) = (if c then a else 0) + if c then x else 0 := by
  by_cases h : c
  · rw [if_pos h, if_pos h, if_pos h]
  · rw [if_neg h, if_neg h, if_neg h]; rfl
theorem mv (a b c : Int) : a + b + c = a + c + b := Int.add_right_comm a b c
theorem cx_step (l s : Int → Int) (n : Nat) (j : Int) (h : 1 ≤ s n ∧ s n ≤ 5) : Cx (Ls l s (n + 1)) j = Cx (Ls l s n) j + if s n > j then l n else 0 := by
  have e : ∀ m, Ls l s (n + 1) m = if s n = m then Ls l s n m + l n else Ls l s n m := fun m => rfl
  unfold Cx
  rw [e, e, e, e, e]
  generalize Ls l s n 1 = a1
  generalize Ls l s n 2 = a2
  generalize Ls l s n 3 = a3
  generalize Ls l s n 4 = a4
  generalize Ls l s n 5 = a5
  generalize l n = x
  have h5 : s n = 1 ∨ s n = 2 ∨ s n = 3 ∨ s n = 4 ∨ s n = 5 := by clear e; lia
  clear e h
  rcases h5 with q | q | q | q | q <;> rw [q]
  · rw [if_pos (rfl : (1 : Int) = 1), if_neg (show ¬ (1 : Int) = 2 by decide), if_neg (show ¬ (1 : Int) = 3 by decide), if_neg (show ¬ (1 : Int) = 4 by decide), if_neg (show ¬ (1 : Int) = 5 by decide), add_if]
    simp only [gt_iff_lt, mv _ (if j < 1 then x else 0)]
  · rw [if_neg (show ¬ (2 : Int) = 1 by decide), if_pos (rfl : (2 : Int) = 2), if_neg (show ¬ (2 : Int) = 3 by decide), if_neg (show ¬ (2 : Int) = 4 by decide), if_neg (show ¬ (2 : Int) = 5 by decide), add_if, ← Int.add_assoc]
    simp only [gt_iff_lt, mv _ (if j < 2 then x else 0)]
  · rw [if_neg (show ¬ (3 : Int) = 1 by decide), if_neg (show ¬ (3 : Int) = 2 by decide), if_pos (rfl : (3 : Int) = 3), if_neg (show ¬ (3 : Int) = 4 by decide), if_neg (show ¬ (3 : Int) = 5 by decide), add_if, ← Int.add_assoc]
    simp only [gt_iff_lt, mv _ (if j < 3 then x else 0)]
  · rw [if_neg (show ¬ (4 : Int) = 1 by decide), if_neg (show ¬ (4 : Int) = 2 by decide), if_neg (show ¬ (4 : Int) = 3 by decide), if_pos (rfl : (4 : Int) = 4), if_neg (show ¬ (4 : Int) = 5 by decide), add_if, ← Int.add_assoc]
    simp only [gt_iff_lt, mv _ (if j < 4 then x else 0)]
  · rw [if_neg (show ¬ (5 : Int) = 1 by decide), if_neg (show ¬ (5 : Int) = 2 by decide), if_neg (show ¬ (5 : Int) = 3 by decide), if_neg (show ¬ (5 : Int) = 4 by decide), if_pos (rfl : (5 : Int) = 5), add_if, ← Int.add_assoc]
section
variable {u : Int → Int → Int} {l r s : Int → Int} (hs : ∀ i, 0 ≤ i → i < 5 → 1 ≤ s i ∧ s i ≤ 5) (hu : ∀ i j, 0 ≤ i → i < 5 → 0 ≤ j → j < 5 → u i j = if j < s i then l i * r j else 0)
include hs hu
theorem pV_is (i : Int) (h0 : 0 ≤ i) (h1 : i < 5) : pV u i = l i * rho r (s i) := by
  unfold pV sN sN sN sN sN sN rho
  rw [hu i _ h0 h1 (by decide) (by decide), hu i _ h0 h1 (by decide) (by decide), hu i _ h0 h1 (by decide) (by decide), hu i _ h0 h1 (by decide) (by decide), hu i _ h0 h1 (by decide) (by decide)]
  have h := hs i h0 h1
  rcases (show s i = 1 ∨ s i = 2 ∨ s i = 3 ∨ s i = 4 ∨ s i = 5 by lia) with e | e | e | e | e <;> rw [e] <;> simp <;> grind
theorem pN_is (k : Nat) (hk : k ≤ 5) : pN u k = Qs u s k 1 * Qs u s k 2 * Qs u s k 3 * Qs u s k 4 * Qs u s k 5 := by
  induction k with
  | zero => rfl
  | succ k ih =>
    have h := hs k (by lia) (by lia)
    simp only [pN, Qs, ih (by lia)]
    rcases (show s k = 1 ∨ s k = 2 ∨ s k = 3 ∨ s k = 4 ∨ s k = 5 by lia) with e | e | e | e | e <;> simp [e] <;> grind
theorem Ks_is (k : Nat) (hk : k ≤ 5) (m : Int) : Ks u l s k m * rho r m = Qs u s k m * Ls l s k m := by
  induction k with
  | zero => simp [Ks, Ls]
  | succ k ih =>
    have ih := ih (by lia)
    have hp := pV_is hs hu k (by lia) (by lia)
    simp only [Ks, Qs, Ls]
    by_cases e : s k = m
    · simp only [if_pos e]
      rw [e] at hp
      rw [hp]
      grind
    · simp only [if_neg e]; exact ih
theorem qN_is (k : Nat) (hk : k ≤ 5) (j : Int) (j0 : 0 ≤ j) (j1 : j < 5) : sN (fun i => u i j) k = r j * Cx (Ls l s k) j := by
  induction k with
  | zero => simp [sN, Cx, Ls]
  | succ k ih =>
    have h := hs k (by lia) (by lia)
    show sN (fun i => u i j) k + u k j = _
    rw [ih (by lia), hu k j (by lia) (by lia) j0 j1]
    rw [cx_step l s k j h, Int.mul_add, Int.mul_comm (l k) (r j)]
    by_cases c : j < s k
    · rw [if_pos c, if_pos (show s k > j from c)]
    · rw [if_neg c, if_neg (show ¬ s k > j from c), Int.mul_zero]
theorem Gx_next (k : Nat) (hk : k < 5) (m : Int) (m0 : 0 ≤ m) (m1 : m < 5) : Gx (Qs u s (k + 1)) (Ks u l s (k + 1)) m = pV u k * Gx (Qs u s k) (Ks u l s k) m + (if m < s k then pN u k * (l k * l k) else 0) := by
  have h := hs k (by lia) (by lia)
  rw [pN_is hs hu k (by lia)]
  unfold Gx
  simp only [Ks, Qs]
  rcases (show s k = 1 ∨ s k = 2 ∨ s k = 3 ∨ s k = 4 ∨ s k = 5 by lia) with e | e | e | e | e <;>
    rcases (show m = 0 ∨ m = 1 ∨ m = 2 ∨ m = 3 ∨ m = 4 by lia) with f | f | f | f | f <;> simp [e, f] <;> grind
theorem Wt_is (k : Nat) (hk : k ≤ 5) (x y : Int) (x0 : 0 ≤ x) (x1 : x < 5) (y0 : 0 ≤ y) (y1 : y < 5) : Wt u k x y = (if x = y then pN u k * qV u x else 0) - r x * r y * Gx (Qs u s k) (Ks u l s k) (max x y) := by
  induction k with
  | zero =>
    have : Gx (Qs u s 0) (Ks u l s 0) (max x y) = 0 := by unfold Gx; simp [Ks]
    rw [this]; simp [Wt, pN]
  | succ k ih =>
    rw [Gx_next hs hu k (by lia) _ (by lia) (by lia)]
    simp only [Wt, pN]
    rw [ih (by lia), hu k x (by lia) (by lia) x0 x1, hu k y (by lia) (by lia) y0 y1]
    generalize Gx (Qs u s k) (Ks u l s k) (max x y) = G
    by_cases c1 : x < s k
    · by_cases c2 : y < s k
      · simp only [c1, c2, show max x y < s k by lia, if_true]
        by_cases c3 : x = y
        · simp only [c3, if_true]; grind
        · simp only [c3, if_false]; grind
      · simp only [c1, c2, show ¬ (max x y < s k) by lia, if_true, if_false, show ¬ (x = y) by lia]; grind
    · simp only [c1, show ¬ (max x y < s k) by lia, if_false]
      by_cases c3 : x = y
      · simp only [c3, if_true]; grind
      · simp only [c3, if_false]; grind
end
end Mine
end

section
set_option Elab.async false
set_option maxRecDepth 100000
set_option linter.unusedVariables false
set_option linter.unusedSimpArgs false
set_option linter.unusedSectionVars false
namespace Mine
open PySem PySem.Builtin.Int
section
variable {P g0 g1 g2 g3 g4 X2 X3 Xa Xb c0 c1 c2 c3 r0 r1 r2 r3 r4 : Int}
theorem cancelP (hP : P ≠ 0) {x y : Int} (h : P * x = P * y) : x = y := Int.eq_of_mul_eq_mul_left hP h
theorem A00_is (k0 : P * c0 = r0 * g0 + r1 * g1 + r2 * g2 + r3 * g3 + r4 * g4) : P * (r0 * c0) - r0 * r0 * g0 = r0 * (r1 * g1 + r2 * g2 + r3 * g3 + r4 * g4) := by
  rw [show P * (r0 * c0) = r0 * (P * c0) by grind, k0]; grind
theorem N11_is (k1 : P * c1 = (r0 + r1) * g1 + r2 * g2 + r3 * g3 + r4 * g4) : (r0 * (r1 * g1 + r2 * g2 + r3 * g3 + r4 * g4)) * (P * (r1 * c1) - r1 * r1 * g1) - -(r0 * r1 * g1) * -(r0 * r1 * g1) = P * (r0 * r1 * c1 * (r2 * g2 + r3 * g3 + r4 * g4)) := by
  rw [show P * (r1 * c1) = r1 * (P * c1) by grind, show P * (r0 * r1 * c1 * (r2 * g2 + r3 * g3 + r4 * g4)) = r0 * r1 * (P * c1) * (r2 * g2 + r3 * g3 + r4 * g4) by grind, k1]; grind
theorem N12_is (k1 : P * c1 = (r0 + r1) * g1 + r2 * g2 + r3 * g3 + r4 * g4) : (r0 * (r1 * g1 + r2 * g2 + r3 * g3 + r4 * g4)) * (-(r1 * r2 * g2)) - -(r0 * r1 * g1) * -(r0 * r2 * g2) = P * (-(r0 * r1 * r2 * g2 * c1)) := by
  rw [show P * (-(r0 * r1 * r2 * g2 * c1)) = -(r0 * r1 * r2 * g2 * (P * c1)) by grind, k1]; grind
theorem N13_is (k1 : P * c1 = (r0 + r1) * g1 + r2 * g2 + r3 * g3 + r4 * g4) : (r0 * (r1 * g1 + r2 * g2 + r3 * g3 + r4 * g4)) * (-(r1 * r3 * g3)) - -(r0 * r1 * g1) * -(r0 * r3 * g3) = P * (-(r0 * r1 * r3 * g3 * c1)) := by
  rw [show P * (-(r0 * r1 * r3 * g3 * c1)) = -(r0 * r1 * r3 * g3 * (P * c1)) by grind, k1]; grind
theorem N22_is (k2 : P * c2 = (r0 + r1 + r2) * g2 + r3 * g3 + r4 * g4) (x2 : P * X2 = g2 * (g1 - g2)) : (r0 * (r1 * g1 + r2 * g2 + r3 * g3 + r4 * g4)) * (P * (r2 * c2) - r2 * r2 * g2) - -(r0 * r2 * g2) * -(r0 * r2 * g2) = P * (r0 * r2 * ((r1 * g1 + r2 * g2 + r3 * g3 + r4 * g4) * c2 - r2 * (g2 * c2 + r1 * X2))) := by
  rw [show P * (r2 * c2) = r2 * (P * c2) by grind, show P * (r0 * r2 * ((r1 * g1 + r2 * g2 + r3 * g3 + r4 * g4) * c2 - r2 * (g2 * c2 + r1 * X2))) = r0 * r2 * ((r1 * g1 + r2 * g2 + r3 * g3 + r4 * g4) * (P * c2) - r2 * (g2 * (P * c2) + r1 * (P * X2))) by grind, k2, x2]; grind
theorem N23_is (k2 : P * c2 = (r0 + r1 + r2) * g2 + r3 * g3 + r4 * g4) (x3 : P * X3 = g3 * (g1 - g2)) : (r0 * (r1 * g1 + r2 * g2 + r3 * g3 + r4 * g4)) * (-(r2 * r3 * g3)) - -(r0 * r2 * g2) * -(r0 * r3 * g3) = P * (-(r0 * r2 * r3 * (g3 * c2 + r1 * X3))) := by
  rw [show P * (-(r0 * r2 * r3 * (g3 * c2 + r1 * X3))) = -(r0 * r2 * r3 * (g3 * (P * c2) + r1 * (P * X3))) by grind, k2, x3]; grind
theorem N33_is (k3 : P * c3 = (r0 + r1 + r2 + r3) * g3 + r4 * g4) (xa : P * Xa = g3 * (g1 - g3)) (xb : P * Xb = g3 * (g2 - g3)) : (r0 * (r1 * g1 + r2 * g2 + r3 * g3 + r4 * g4)) * (P * (r3 * c3) - r3 * r3 * g3) - -(r0 * r3 * g3) * -(r0 * r3 * g3) = P * (r0 * r3 * ((r1 * g1 + r2 * g2 + r3 * g3 + r4 * g4) * c3 - r3 * (g3 * c3 + r1 * Xa + r2 * Xb))) := by
  rw [show P * (r3 * c3) = r3 * (P * c3) by grind, show P * (r0 * r3 * ((r1 * g1 + r2 * g2 + r3 * g3 + r4 * g4) * c3 - r3 * (g3 * c3 + r1 * Xa + r2 * Xb))) = r0 * r3 * ((r1 * g1 + r2 * g2 + r3 * g3 + r4 * g4) * (P * c3) - r3 * (g3 * (P * c3) + r1 * (P * Xa) + r2 * (P * Xb))) by grind, k3, xa, xb]; grind
theorem in22 (hP : P ≠ 0) (k1 : P * c1 = (r0 + r1) * g1 + r2 * g2 + r3 * g3 + r4 * g4) (k2 : P * c2 = (r0 + r1 + r2) * g2 + r3 * g3 + r4 * g4) (x2 : P * X2 = g2 * (g1 - g2)) :
    (r2 * g2 + r3 * g3 + r4 * g4) * ((r1 * g1 + r2 * g2 + r3 * g3 + r4 * g4) * c2 - r2 * (g2 * c2 + r1 * X2)) - r1 * r2 * g2 * g2 * c1 = (r1 * g1 + r2 * g2 + r3 * g3 + r4 * g4) * c2 * (r3 * g3 + r4 * g4) := by
  apply cancelP hP
  rw [show P * ((r2 * g2 + r3 * g3 + r4 * g4) * ((r1 * g1 + r2 * g2 + r3 * g3 + r4 * g4) * c2 - r2 * (g2 * c2 + r1 * X2)) - r1 * r2 * g2 * g2 * c1) = (r2 * g2 + r3 * g3 + r4 * g4) * ((r1 * g1 + r2 * g2 + r3 * g3 + r4 * g4) * (P * c2) - r2 * (g2 * (P * c2) + r1 * (P * X2))) - r1 * r2 * g2 * g2 * (P * c1) by grind,
    show P * ((r1 * g1 + r2 * g2 + r3 * g3 + r4 * g4) * c2 * (r3 * g3 + r4 * g4)) = (r1 * g1 + r2 * g2 + r3 * g3 + r4 * g4) * (P * c2) * (r3 * g3 + r4 * g4) by grind, k1, k2, x2]; grind
theorem in23 (hP : P ≠ 0) (k1 : P * c1 = (r0 + r1) * g1 + r2 * g2 + r3 * g3 + r4 * g4) (k2 : P * c2 = (r0 + r1 + r2) * g2 + r3 * g3 + r4 * g4) (x3 : P * X3 = g3 * (g1 - g2)) :
    (r2 * g2 + r3 * g3 + r4 * g4) * (g3 * c2 + r1 * X3) + r1 * g2 * g3 * c1 = (r1 * g1 + r2 * g2 + r3 * g3 + r4 * g4) * c2 * g3 := by
  apply cancelP hP
  rw [show P * ((r2 * g2 + r3 * g3 + r4 * g4) * (g3 * c2 + r1 * X3) + r1 * g2 * g3 * c1) = (r2 * g2 + r3 * g3 + r4 * g4) * (g3 * (P * c2) + r1 * (P * X3)) + r1 * g2 * g3 * (P * c1) by grind,
    show P * ((r1 * g1 + r2 * g2 + r3 * g3 + r4 * g4) * c2 * g3) = (r1 * g1 + r2 * g2 + r3 * g3 + r4 * g4) * (P * c2) * g3 by grind, k1, k2, x3]; grind
theorem in33 (hP : P ≠ 0) (k1 : P * c1 = (r0 + r1) * g1 + r2 * g2 + r3 * g3 + r4 * g4) (k3 : P * c3 = (r0 + r1 + r2 + r3) * g3 + r4 * g4) (xa : P * Xa = g3 * (g1 - g3)) (xb : P * Xb = g3 * (g2 - g3)) :
    (r2 * g2 + r3 * g3 + r4 * g4) * ((r1 * g1 + r2 * g2 + r3 * g3 + r4 * g4) * c3 - r3 * (g3 * c3 + r1 * Xa + r2 * Xb)) - r1 * r3 * g3 * g3 * c1 = (r1 * g1 + r2 * g2 + r3 * g3 + r4 * g4) * ((r2 * g2 + r3 * g3 + r4 * g4) * c3 - r3 * (g3 * c3 + r2 * Xb)) := by
  apply cancelP hP
  rw [show P * ((r2 * g2 + r3 * g3 + r4 * g4) * ((r1 * g1 + r2 * g2 + r3 * g3 + r4 * g4) * c3 - r3 * (g3 * c3 + r1 * Xa + r2 * Xb)) - r1 * r3 * g3 * g3 * c1) = (r2 * g2 + r3 * g3 + r4 * g4) * ((r1 * g1 + r2 * g2 + r3 * g3 + r4 * g4) * (P * c3) - r3 * (g3 * (P * c3) + r1 * (P * Xa) + r2 * (P * Xb))) - r1 * r3 * g3 * g3 * (P * c1) by grind,
    show P * ((r1 * g1 + r2 * g2 + r3 * g3 + r4 * g4) * ((r2 * g2 + r3 * g3 + r4 * g4) * c3 - r3 * (g3 * c3 + r2 * Xb))) = (r1 * g1 + r2 * g2 + r3 * g3 + r4 * g4) * ((r2 * g2 + r3 * g3 + r4 * g4) * (P * c3) - r3 * (g3 * (P * c3) + r2 * (P * Xb))) by grind, k1, k3, xa, xb]; grind
theorem in44 (hP : P ≠ 0) (k2 : P * c2 = (r0 + r1 + r2) * g2 + r3 * g3 + r4 * g4) (k3 : P * c3 = (r0 + r1 + r2 + r3) * g3 + r4 * g4) (xb : P * Xb = g3 * (g2 - g3)) :
    (r3 * g3 + r4 * g4) * ((r2 * g2 + r3 * g3 + r4 * g4) * c3 - r3 * (g3 * c3 + r2 * Xb)) - c2 * r2 * r3 * g3 * g3 = (r2 * g2 + r3 * g3 + r4 * g4) * r4 * c3 * g4 := by
  apply cancelP hP
  rw [show P * ((r3 * g3 + r4 * g4) * ((r2 * g2 + r3 * g3 + r4 * g4) * c3 - r3 * (g3 * c3 + r2 * Xb)) - c2 * r2 * r3 * g3 * g3) = (r3 * g3 + r4 * g4) * ((r2 * g2 + r3 * g3 + r4 * g4) * (P * c3) - r3 * (g3 * (P * c3) + r2 * (P * Xb))) - (P * c2) * r2 * r3 * g3 * g3 by grind,
    show P * ((r2 * g2 + r3 * g3 + r4 * g4) * r4 * c3 * g4) = (r2 * g2 + r3 * g3 + r4 * g4) * r4 * (P * c3) * g4 by grind, k2, k3, xb]; grind
variable {H1 H2 H3 Y2 Y3 Y33 Z33 : Int}
theorem M22_is (i : H2 * Y2 - r1 * r2 * g2 * g2 * c1 = H1 * c2 * H3) : (r0 * r1 * c1 * H2) * (r0 * r2 * Y2) - -(r0 * r1 * r2 * g2 * c1) * -(r0 * r1 * r2 * g2 * c1) = r0 * H1 * (r0 * r1 * r2 * c1 * c2 * H3) := by
  rw [show (r0 * r1 * c1 * H2) * (r0 * r2 * Y2) - -(r0 * r1 * r2 * g2 * c1) * -(r0 * r1 * r2 * g2 * c1) = r0 * r0 * r1 * r2 * c1 * (H2 * Y2 - r1 * r2 * g2 * g2 * c1) by grind, i]; grind
theorem M23_is (i : H2 * Y3 + r1 * g2 * g3 * c1 = H1 * c2 * g3) : (r0 * r1 * c1 * H2) * (-(r0 * r2 * r3 * Y3)) - -(r0 * r1 * r2 * g2 * c1) * -(r0 * r1 * r3 * g3 * c1) = r0 * H1 * (-(r0 * r1 * r2 * r3 * c1 * c2 * g3)) := by
  rw [show (r0 * r1 * c1 * H2) * (-(r0 * r2 * r3 * Y3)) - -(r0 * r1 * r2 * g2 * c1) * -(r0 * r1 * r3 * g3 * c1) = -(r0 * r0 * r1 * r2 * r3 * c1 * (H2 * Y3 + r1 * g2 * g3 * c1)) by grind, i]; grind
theorem M33_is (i : H2 * Y33 - r1 * r3 * g3 * g3 * c1 = H1 * Z33) : (r0 * r1 * c1 * H2) * (r0 * r3 * Y33) - -(r0 * r1 * r3 * g3 * c1) * -(r0 * r1 * r3 * g3 * c1) = r0 * H1 * (r0 * r1 * r3 * c1 * Z33) := by
  rw [show (r0 * r1 * c1 * H2) * (r0 * r3 * Y33) - -(r0 * r1 * r3 * g3 * c1) * -(r0 * r1 * r3 * g3 * c1) = r0 * r0 * r1 * r3 * c1 * (H2 * Y33 - r1 * r3 * g3 * g3 * c1) by grind, i]; grind
theorem F4_is (i : H3 * Z33 - c2 * r2 * r3 * g3 * g3 = H2 * r4 * c3 * g4) : (r0 * r1 * r2 * c1 * c2 * H3) * (r0 * r1 * r3 * c1 * Z33) - -(r0 * r1 * r2 * r3 * c1 * c2 * g3) * -(r0 * r1 * r2 * r3 * c1 * c2 * g3) = r0 * r1 * c1 * H2 * (r0 * r1 * r2 * r3 * r4 * c1 * c2 * c3 * g4) := by
  rw [show (r0 * r1 * r2 * c1 * c2 * H3) * (r0 * r1 * r3 * c1 * Z33) - -(r0 * r1 * r2 * r3 * c1 * c2 * g3) * -(r0 * r1 * r2 * r3 * c1 * c2 * g3) = r0 * r0 * r1 * r1 * r2 * r3 * c1 * c1 * c2 * (H3 * Z33 - c2 * r2 * r3 * g3 * g3) by grind, i]; grind
end
end Mine
end

section
set_option Elab.async false
set_option maxRecDepth 100000
set_option linter.unusedVariables false
set_option linter.unusedSimpArgs false
set_option linter.unusedSectionVars false
namespace Mine
open PySem PySem.Builtin.Int
theorem rho_pos {r : Int → Int} (hr : ∀ i, 0 ≤ i → i < 5 → 0 < r i) (m : Int) : 0 < rho r m := by
  have := hr 0 (by decide) (by decide)
  have := hr 1 (by decide) (by decide)
  have := hr 2 (by decide) (by decide)
  have := hr 3 (by decide) (by decide)
  have := hr 4 (by decide) (by decide)
  unfold rho
  (repeat' split) <;> lia
section
variable {u : Int → Int → Int} {l r s : Int → Int} (hs : ∀ i, 0 ≤ i → i < 5 → 1 ≤ s i ∧ s i ≤ 5) (hu : ∀ i j, 0 ≤ i → i < 5 → 0 ≤ j → j < 5 → u i j = if j < s i then l i * r j else 0)
  (hl : ∀ i, 0 ≤ i → i < 5 → 0 < l i) (hr : ∀ i, 0 ≤ i → i < 5 → 0 < r i)
include hs hu hl hr
theorem pV_pos (i : Int) (h0 : 0 ≤ i) (h1 : i < 5) : 0 < pV u i := by
  rw [pV_is hs hu i h0 h1]; exact Int.mul_pos (hl i h0 h1) (rho_pos hr _)
theorem pN_pos (k : Nat) (hk : k ≤ 5) : 0 < pN u k := by
  induction k with
  | zero => exact Int.one_pos
  | succ k ih => exact Int.mul_pos (ih (by lia)) (pV_pos hs hu hl hr k (by lia) (by lia))
theorem Qs_pos (k : Nat) (hk : k ≤ 5) (m : Int) : 0 < Qs u s k m := by
  induction k with
  | zero => exact Int.one_pos
  | succ k ih =>
    simp only [Qs]
    split
    · exact Int.mul_pos (ih (by lia)) (pV_pos hs hu hl hr k (by lia) (by lia))
    · exact ih (by lia)
theorem Ks_nn (k : Nat) (hk : k ≤ 5) (m : Int) : 0 ≤ Ks u l s k m := by
  induction k with
  | zero => exact Int.le_refl _
  | succ k ih =>
    simp only [Ks]
    split
    · exact Int.add_nonneg (Int.mul_nonneg (ih (by lia)) (Int.le_of_lt (pV_pos hs hu hl hr k (by lia) (by lia)))) (Int.mul_nonneg (Int.le_of_lt (Qs_pos hs hu hl hr k (by lia) m)) (Int.mul_nonneg (Int.le_of_lt (hl k (by lia) (by lia))) (Int.le_of_lt (hl k (by lia) (by lia)))))
    · exact ih (by lia)
theorem Ks_pos (h0 : s 0 = 5) (k : Nat) (hk : k < 5) : 0 < Ks u l s (k + 1) 5 := by
  induction k with
  | zero =>
    simp only [Ks, Qs]
    rw [if_pos (by exact h0)]
    have := hl 0 (by decide) (by decide)
    have := Int.mul_pos this this
    simp; lia
  | succ k ih =>
    have ih := ih (by lia)
    rw [Ks]
    split
    · have a := Int.mul_pos ih (pV_pos hs hu hl hr ((k + 1 : Nat) : Int) (by lia) (by lia))
      have b := Int.mul_nonneg (Int.le_of_lt (Qs_pos hs hu hl hr (k + 1) (by lia) 5)) (Int.mul_nonneg (Int.le_of_lt (hl ((k + 1 : Nat) : Int) (by lia) (by lia))) (Int.le_of_lt (hl ((k + 1 : Nat) : Int) (by lia) (by lia))))
      lia
    · exact ih
end
theorem mul4 {a b c d : Int} (h1 : 0 < a) (h2 : 0 < b) (h3 : 0 < c) (h4 : 0 < d) : 0 < a * b * c * d := Int.mul_pos (Int.mul_pos (Int.mul_pos h1 h2) h3) h4
structure Fa (P g0 g1 g2 g3 g4 c0 c1 c2 c3 c4 X2 X3 Xa Xb r0 r1 r2 r3 r4 : Int) : Prop where
  hP : 0 < P
  h1 : 0 < g1
  h2 : 0 < g2
  h3 : 0 < g3
  h4 : 0 < g4
  k0 : P * c0 = r0 * g0 + r1 * g1 + r2 * g2 + r3 * g3 + r4 * g4
  k1 : P * c1 = (r0 + r1) * g1 + r2 * g2 + r3 * g3 + r4 * g4
  k2 : P * c2 = (r0 + r1 + r2) * g2 + r3 * g3 + r4 * g4
  k3 : P * c3 = (r0 + r1 + r2 + r3) * g3 + r4 * g4
  k4 : P * c4 = (r0 + r1 + r2 + r3 + r4) * g4
  x2 : P * X2 = g2 * (g1 - g2)
  x3 : P * X3 = g3 * (g1 - g2)
  xa : P * Xa = g3 * (g1 - g3)
  xb : P * Xb = g3 * (g2 - g3)
theorem fa_of {P Q1 Q2 Q3 Q4 Q5 K1 K2 K3 K4 K5 L1 L2 L3 L4 L5 r0 r1 r2 r3 r4 : Int} (hP : P = Q1 * Q2 * Q3 * Q4 * Q5) (q1 : 0 < Q1) (q2 : 0 < Q2) (q3 : 0 < Q3) (q4 : 0 < Q4) (q5 : 0 < Q5)
    (p1 : 0 ≤ K1) (p2 : 0 ≤ K2) (p3 : 0 ≤ K3) (p4 : 0 ≤ K4) (p5 : 0 < K5)
    (e1 : K1 * r0 = Q1 * L1) (e2 : K2 * (r0 + r1) = Q2 * L2) (e3 : K3 * (r0 + r1 + r2) = Q3 * L3) (e4 : K4 * (r0 + r1 + r2 + r3) = Q4 * L4) (e5 : K5 * (r0 + r1 + r2 + r3 + r4) = Q5 * L5) :
    Fa P (K1 * (Q2 * Q3 * Q4 * Q5) + K2 * (Q1 * Q3 * Q4 * Q5) + K3 * (Q1 * Q2 * Q4 * Q5) + K4 * (Q1 * Q2 * Q3 * Q5) + K5 * (Q1 * Q2 * Q3 * Q4)) (K2 * (Q1 * Q3 * Q4 * Q5) + K3 * (Q1 * Q2 * Q4 * Q5) + K4 * (Q1 * Q2 * Q3 * Q5) + K5 * (Q1 * Q2 * Q3 * Q4))
      (K3 * (Q1 * Q2 * Q4 * Q5) + K4 * (Q1 * Q2 * Q3 * Q5) + K5 * (Q1 * Q2 * Q3 * Q4)) (K4 * (Q1 * Q2 * Q3 * Q5) + K5 * (Q1 * Q2 * Q3 * Q4)) (K5 * (Q1 * Q2 * Q3 * Q4)) (L1 + L2 + L3 + L4 + L5) (L2 + L3 + L4 + L5) (L3 + L4 + L5) (L4 + L5) L5
      (K3 * K2 * (Q1 * Q4 * Q5) + K4 * K2 * (Q1 * Q3 * Q5) + K5 * K2 * (Q1 * Q3 * Q4)) (K4 * K2 * (Q1 * Q3 * Q5) + K5 * K2 * (Q1 * Q3 * Q4)) (K4 * K2 * (Q1 * Q3 * Q5) + K5 * K2 * (Q1 * Q3 * Q4) + K4 * K3 * (Q1 * Q2 * Q5) + K5 * K3 * (Q1 * Q2 * Q4)) (K4 * K3 * (Q1 * Q2 * Q5) + K5 * K3 * (Q1 * Q2 * Q4)) r0 r1 r2 r3 r4 := by
  have m1 := mul4 q2 q3 q4 q5
  have m2 := mul4 q1 q3 q4 q5
  have m3 := mul4 q1 q2 q4 q5
  have m4 := mul4 q1 q2 q3 q5
  have m5 := mul4 q1 q2 q3 q4
  have n2 := Int.mul_nonneg p2 (Int.le_of_lt m2)
  have n3 := Int.mul_nonneg p3 (Int.le_of_lt m3)
  have n4 := Int.mul_nonneg p4 (Int.le_of_lt m4)
  have n5 := Int.mul_pos p5 m5
  have t1 : P * L1 = r0 * (K1 * (Q2 * Q3 * Q4 * Q5)) := by rw [hP, show Q1 * Q2 * Q3 * Q4 * Q5 * L1 = (Q2 * Q3 * Q4 * Q5) * (Q1 * L1) by grind, ← e1]; grind
  have t2 : P * L2 = (r0 + r1) * (K2 * (Q1 * Q3 * Q4 * Q5)) := by rw [hP, show Q1 * Q2 * Q3 * Q4 * Q5 * L2 = (Q1 * Q3 * Q4 * Q5) * (Q2 * L2) by grind, ← e2]; grind
  have t3 : P * L3 = (r0 + r1 + r2) * (K3 * (Q1 * Q2 * Q4 * Q5)) := by rw [hP, show Q1 * Q2 * Q3 * Q4 * Q5 * L3 = (Q1 * Q2 * Q4 * Q5) * (Q3 * L3) by grind, ← e3]; grind
  have t4 : P * L4 = (r0 + r1 + r2 + r3) * (K4 * (Q1 * Q2 * Q3 * Q5)) := by rw [hP, show Q1 * Q2 * Q3 * Q4 * Q5 * L4 = (Q1 * Q2 * Q3 * Q5) * (Q4 * L4) by grind, ← e4]; grind
  have t5 : P * L5 = (r0 + r1 + r2 + r3 + r4) * (K5 * (Q1 * Q2 * Q3 * Q4)) := by rw [hP, show Q1 * Q2 * Q3 * Q4 * Q5 * L5 = (Q1 * Q2 * Q3 * Q4) * (Q5 * L5) by grind, ← e5]; grind
  refine ⟨by rw [hP]; exact Int.mul_pos m5 q5, by lia, by lia, by lia, by lia, ?_, ?_, ?_, ?_, t5, ?_, ?_, ?_, ?_⟩
  · rw [show P * (L1 + L2 + L3 + L4 + L5) = P * L1 + P * L2 + P * L3 + P * L4 + P * L5 by grind, t1, t2, t3, t4, t5]
    clear hP q1 q2 q3 q4 q5 p1 p2 p3 p4 p5 e1 e2 e3 e4 e5 m1 m2 m3 m4 m5 n2 n3 n4 n5 t1 t2 t3 t4 t5
    generalize K1 * (Q2 * Q3 * Q4 * Q5) = a1, K2 * (Q1 * Q3 * Q4 * Q5) = a2, K3 * (Q1 * Q2 * Q4 * Q5) = a3, K4 * (Q1 * Q2 * Q3 * Q5) = a4, K5 * (Q1 * Q2 * Q3 * Q4) = a5
    grind
  · rw [show P * (L2 + L3 + L4 + L5) = P * L2 + P * L3 + P * L4 + P * L5 by grind, t2, t3, t4, t5]
    clear hP q1 q2 q3 q4 q5 p1 p2 p3 p4 p5 e1 e2 e3 e4 e5 m1 m2 m3 m4 m5 n2 n3 n4 n5 t1 t2 t3 t4 t5
    generalize K2 * (Q1 * Q3 * Q4 * Q5) = a2, K3 * (Q1 * Q2 * Q4 * Q5) = a3, K4 * (Q1 * Q2 * Q3 * Q5) = a4, K5 * (Q1 * Q2 * Q3 * Q4) = a5
    grind
  · rw [show P * (L3 + L4 + L5) = P * L3 + P * L4 + P * L5 by grind, t3, t4, t5]
    clear hP q1 q2 q3 q4 q5 p1 p2 p3 p4 p5 e1 e2 e3 e4 e5 m1 m2 m3 m4 m5 n2 n3 n4 n5 t1 t2 t3 t4 t5
    generalize K3 * (Q1 * Q2 * Q4 * Q5) = a3, K4 * (Q1 * Q2 * Q3 * Q5) = a4, K5 * (Q1 * Q2 * Q3 * Q4) = a5
    grind
  · rw [show P * (L4 + L5) = P * L4 + P * L5 by grind, t4, t5]
    clear hP q1 q2 q3 q4 q5 p1 p2 p3 p4 p5 e1 e2 e3 e4 e5 m1 m2 m3 m4 m5 n2 n3 n4 n5 t1 t2 t3 t4 t5
    generalize K4 * (Q1 * Q2 * Q3 * Q5) = a4, K5 * (Q1 * Q2 * Q3 * Q4) = a5
    grind
  all_goals (rw [hP]; clear hP q1 q2 q3 q4 q5 p1 p2 p3 p4 p5 e1 e2 e3 e4 e5 m1 m2 m3 m4 m5 n2 n3 n4 n5 t1 t2 t3 t4 t5; grind)
end Mine
end

section
set_option Elab.async false
set_option maxRecDepth 100000
set_option linter.unusedVariables false
set_option linter.unusedSimpArgs false
set_option linter.unusedSectionVars false
namespace Mine
open PySem PySem.Builtin.Int
theorem Gx_0 (Q K : Int → Int) : Gx Q K 0 = K 1 * (Q 2 * Q 3 * Q 4 * Q 5) + K 2 * (Q 1 * Q 3 * Q 4 * Q 5) + K 3 * (Q 1 * Q 2 * Q 4 * Q 5) + K 4 * (Q 1 * Q 2 * Q 3 * Q 5) + K 5 * (Q 1 * Q 2 * Q 3 * Q 4) := by simp [Gx]
theorem Gx_1 (Q K : Int → Int) : Gx Q K 1 = K 2 * (Q 1 * Q 3 * Q 4 * Q 5) + K 3 * (Q 1 * Q 2 * Q 4 * Q 5) + K 4 * (Q 1 * Q 2 * Q 3 * Q 5) + K 5 * (Q 1 * Q 2 * Q 3 * Q 4) := by simp [Gx]
theorem Gx_2 (Q K : Int → Int) : Gx Q K 2 = K 3 * (Q 1 * Q 2 * Q 4 * Q 5) + K 4 * (Q 1 * Q 2 * Q 3 * Q 5) + K 5 * (Q 1 * Q 2 * Q 3 * Q 4) := by simp [Gx]
theorem Gx_3 (Q K : Int → Int) : Gx Q K 3 = K 4 * (Q 1 * Q 2 * Q 3 * Q 5) + K 5 * (Q 1 * Q 2 * Q 3 * Q 4) := by simp [Gx]
theorem Gx_4 (Q K : Int → Int) : Gx Q K 4 = K 5 * (Q 1 * Q 2 * Q 3 * Q 4) := by simp [Gx]
theorem Cx_0 (L : Int → Int) : Cx L 0 = L 1 + L 2 + L 3 + L 4 + L 5 := by simp [Cx]
theorem Cx_1 (L : Int → Int) : Cx L 1 = L 2 + L 3 + L 4 + L 5 := by simp [Cx]
theorem Cx_2 (L : Int → Int) : Cx L 2 = L 3 + L 4 + L 5 := by simp [Cx]
theorem Cx_3 (L : Int → Int) : Cx L 3 = L 4 + L 5 := by simp [Cx]
theorem Cx_4 (L : Int → Int) : Cx L 4 = L 5 := by simp [Cx]
theorem rho_5 (r : Int → Int) : rho r 5 = r 0 + r 1 + r 2 + r 3 + r 4 := by simp [rho]
section
variable {l r s : Int → Int} {b : Int → Int → Bool} (hs : ∀ i, 0 ≤ i → i < 5 → 1 ≤ s i ∧ s i ≤ 5) (hb : ∀ i j, 0 ≤ i → i < 5 → 0 ≤ j → j < 5 → b i j = decide (j < s i)) (h0 : s 0 = 5)
  (hl : ∀ i, 0 ≤ i → i < 5 → 0 < l i) (hr : ∀ i, 0 ≤ i → i < 5 → 0 < r i)
include hs hb h0 hl hr
theorem fa_all : ∃ X2 X3 Xa Xb, Fa (pN (U l r b) 5) (Gx (Qs (U l r b) s 5) (Ks (U l r b) l s 5) 0) (Gx (Qs (U l r b) s 5) (Ks (U l r b) l s 5) 1) (Gx (Qs (U l r b) s 5) (Ks (U l r b) l s 5) 2) (Gx (Qs (U l r b) s 5) (Ks (U l r b) l s 5) 3) (Gx (Qs (U l r b) s 5) (Ks (U l r b) l s 5) 4)
    (Cx (Ls l s 5) 0) (Cx (Ls l s 5) 1) (Cx (Ls l s 5) 2) (Cx (Ls l s 5) 3) (Cx (Ls l s 5) 4) X2 X3 Xa Xb (r 0) (r 1) (r 2) (r 3) (r 4) := by
  have hu : ∀ i j, 0 ≤ i → i < 5 → 0 ≤ j → j < 5 → U l r b i j = if j < s i then l i * r j else 0 := fun i j i0 i1 j0 j1 => by
    unfold U; rw [hb i j i0 i1 j0 j1]; simp
  have e := Ks_is hs hu 5 (Nat.le_refl _)
  rw [Gx_0, Gx_1, Gx_2, Gx_3, Gx_4, Cx_0, Cx_1, Cx_2, Cx_3, Cx_4]
  refine ⟨_, _, _, _, fa_of (pN_is hs hu 5 (Nat.le_refl _)) (Qs_pos hs hu hl hr 5 (Nat.le_refl _) _) (Qs_pos hs hu hl hr 5 (Nat.le_refl _) _) (Qs_pos hs hu hl hr 5 (Nat.le_refl _) _) (Qs_pos hs hu hl hr 5 (Nat.le_refl _) _) (Qs_pos hs hu hl hr 5 (Nat.le_refl _) _)
    (Ks_nn hs hu hl hr 5 (Nat.le_refl _) _) (Ks_nn hs hu hl hr 5 (Nat.le_refl _) _) (Ks_nn hs hu hl hr 5 (Nat.le_refl _) _) (Ks_nn hs hu hl hr 5 (Nat.le_refl _) _) (Ks_pos hs hu hl hr h0 4 (by decide)) (e 1) (e 2) (e 3) (e 4) (e 5)⟩
end
structure Fin3 (T : Int → Int → Int) (P g0 g1 g2 g3 g4 c0 c1 c2 c3 r0 r1 r2 r3 r4 : Int) : Prop where
  bf : (barK T 5).2 = P
  t00 : (barK T 5).1 5 5 = P * (r0 * c0) - r0 * r0 * g0
  t01 : (barK T 5).1 5 6 = -(r0 * r1 * g1)
  t02 : (barK T 5).1 5 7 = -(r0 * r2 * g2)
  t03 : (barK T 5).1 5 8 = -(r0 * r3 * g3)
  t10 : (barK T 5).1 6 5 = -(r0 * r1 * g1)
  t20 : (barK T 5).1 7 5 = -(r0 * r2 * g2)
  t30 : (barK T 5).1 8 5 = -(r0 * r3 * g3)
  t11 : (barK T 5).1 6 6 = P * (r1 * c1) - r1 * r1 * g1
  t12 : (barK T 5).1 6 7 = -(r1 * r2 * g2)
  t13 : (barK T 5).1 6 8 = -(r1 * r3 * g3)
  t21 : (barK T 5).1 7 6 = -(r1 * r2 * g2)
  t31 : (barK T 5).1 8 6 = -(r1 * r3 * g3)
  t22 : (barK T 5).1 7 7 = P * (r2 * c2) - r2 * r2 * g2
  t23 : (barK T 5).1 7 8 = -(r2 * r3 * g3)
  t32 : (barK T 5).1 8 7 = -(r2 * r3 * g3)
  t33 : (barK T 5).1 8 8 = P * (r3 * c3) - r3 * r3 * g3
theorem fin3 {T : Int → Int → Int} {P g0 g1 g2 g3 g4 c0 c1 c2 c3 c4 X2 X3 Xa Xb r0 r1 r2 r3 r4 : Int} (f : Fin3 T P g0 g1 g2 g3 g4 c0 c1 c2 c3 r0 r1 r2 r3 r4) (a : Fa P g0 g1 g2 g3 g4 c0 c1 c2 c3 c4 X2 X3 Xa Xb r0 r1 r2 r3 r4)
    (p0 : 0 < r0) (p1 : 0 < r1) (p2 : 0 < r2) (p3 : 0 < r3) (p4 : 0 < r4) :
    0 < (barK T 5).1 5 5 ∧ 0 < (barK T 6).1 6 6 ∧ 0 < (barK T 7).1 7 7 ∧ (barK T 8).1 8 8 = r0 * r1 * r2 * r3 * r4 * c1 * c2 * c3 * g4 := by
  have hP := a.hP
  have hPn : P ≠ 0 := Int.ne_of_gt hP
  have q1 := Int.mul_pos p1 a.h1
  have q2 := Int.mul_pos p2 a.h2
  have q3 := Int.mul_pos p3 a.h3
  have q4 := Int.mul_pos p4 a.h4
  have k1 := a.k1
  have k2 := a.k2
  have k3 := a.k3
  have z0 := Int.mul_pos p0 a.h1
  have z1 : 0 < c1 := by
    have : 0 < P * c1 := by rw [k1, Int.add_mul]; lia
    exact Int.pos_of_mul_pos_right this hP
  have z2 : 0 < c2 := by
    have : 0 < P * c2 := by
      rw [k2, Int.add_mul, Int.add_mul]
      have := Int.mul_pos p0 a.h2
      have := Int.mul_pos p1 a.h2
      lia
    exact Int.pos_of_mul_pos_right this hP
  have a00 : (barK T 5).1 5 5 = r0 * (r1 * g1 + r2 * g2 + r3 * g3 + r4 * g4) := by rw [f.t00]; exact A00_is a.k0
  have n00 : 0 < (barK T 5).1 5 5 := by rw [a00]; exact Int.mul_pos p0 (by lia)
  have s6 : ∀ x y : Int, 6 ≤ x ∧ x ≤ 8 → 6 ≤ y ∧ y ≤ 8 → (barK T 6).1 x y = Int.fdiv ((barK T 5).1 5 5 * (barK T 5).1 x y - (barK T 5).1 x 5 * (barK T 5).1 5 y) P := fun x y hx hy => by
    rw [barK_val T 5 (by decide) x y (by lia) (by lia), f.bf]; rfl
  have e11 : (barK T 6).1 6 6 = r0 * r1 * c1 * (r2 * g2 + r3 * g3 + r4 * g4) := by
    rw [s6 6 6 (by decide) (by decide), a00, f.t11, f.t10, f.t01]; exact fdiv_mul hPn (N11_is k1)
  have e12 : (barK T 6).1 6 7 = -(r0 * r1 * r2 * g2 * c1) := by
    rw [s6 6 7 (by decide) (by decide), a00, f.t12, f.t10, f.t02]; exact fdiv_mul hPn (N12_is k1)
  have e21 : (barK T 6).1 7 6 = -(r0 * r1 * r2 * g2 * c1) := by
    rw [s6 7 6 (by decide) (by decide), a00, f.t21, f.t20, f.t01, Int.mul_comm (-(r0 * r2 * g2))]; exact fdiv_mul hPn (N12_is k1)
  have e13 : (barK T 6).1 6 8 = -(r0 * r1 * r3 * g3 * c1) := by
    rw [s6 6 8 (by decide) (by decide), a00, f.t13, f.t10, f.t03]; exact fdiv_mul hPn (N13_is k1)
  have e31 : (barK T 6).1 8 6 = -(r0 * r1 * r3 * g3 * c1) := by
    rw [s6 8 6 (by decide) (by decide), a00, f.t31, f.t30, f.t01, Int.mul_comm (-(r0 * r3 * g3))]; exact fdiv_mul hPn (N13_is k1)
  have e22 : (barK T 6).1 7 7 = r0 * r2 * ((r1 * g1 + r2 * g2 + r3 * g3 + r4 * g4) * c2 - r2 * (g2 * c2 + r1 * X2)) := by
    rw [s6 7 7 (by decide) (by decide), a00, f.t22, f.t20, f.t02]; exact fdiv_mul hPn (N22_is k2 a.x2)
  have e23 : (barK T 6).1 7 8 = -(r0 * r2 * r3 * (g3 * c2 + r1 * X3)) := by
    rw [s6 7 8 (by decide) (by decide), a00, f.t23, f.t20, f.t03]; exact fdiv_mul hPn (N23_is k2 a.x3)
  have e32 : (barK T 6).1 8 7 = -(r0 * r2 * r3 * (g3 * c2 + r1 * X3)) := by
    rw [s6 8 7 (by decide) (by decide), a00, f.t32, f.t30, f.t02, Int.mul_comm (-(r0 * r3 * g3))]; exact fdiv_mul hPn (N23_is k2 a.x3)
  have e33 : (barK T 6).1 8 8 = r0 * r3 * ((r1 * g1 + r2 * g2 + r3 * g3 + r4 * g4) * c3 - r3 * (g3 * c3 + r1 * Xa + r2 * Xb)) := by
    rw [s6 8 8 (by decide) (by decide), a00, f.t33, f.t30, f.t03]; exact fdiv_mul hPn (N33_is k3 a.xa a.xb)
  have n11 : 0 < (barK T 6).1 6 6 := by rw [e11]; exact Int.mul_pos (Int.mul_pos (Int.mul_pos p0 p1) z1) (by lia)
  have s7 : ∀ x y : Int, 7 ≤ x ∧ x ≤ 8 → 7 ≤ y ∧ y ≤ 8 → (barK T 7).1 x y = Int.fdiv ((barK T 6).1 6 6 * (barK T 6).1 x y - (barK T 6).1 x 6 * (barK T 6).1 6 y) ((barK T 5).1 5 5) := fun x y hx hy => by
    rw [barK_val T 6 (by decide) x y (by lia) (by lia), barK_bf]; rfl
  have n00' : (barK T 5).1 5 5 ≠ 0 := Int.ne_of_gt n00
  have d22 : (barK T 7).1 7 7 = r0 * r1 * r2 * c1 * c2 * (r3 * g3 + r4 * g4) := by
    rw [s7 7 7 (by decide) (by decide)]
    refine fdiv_mul n00' ?_
    rw [e11, e22, e21, e12, a00]; exact M22_is (in22 hPn k1 k2 a.x2)
  have d23 : (barK T 7).1 7 8 = -(r0 * r1 * r2 * r3 * c1 * c2 * g3) := by
    rw [s7 7 8 (by decide) (by decide)]
    refine fdiv_mul n00' ?_
    rw [e11, e23, e21, e13, a00]; exact M23_is (in23 hPn k1 k2 a.x3)
  have d32 : (barK T 7).1 8 7 = -(r0 * r1 * r2 * r3 * c1 * c2 * g3) := by
    rw [s7 8 7 (by decide) (by decide)]
    refine fdiv_mul n00' ?_
    rw [e11, e32, e31, e12, a00, Int.mul_comm (-(r0 * r1 * r3 * g3 * c1))]; exact M23_is (in23 hPn k1 k2 a.x3)
  have d33 : (barK T 7).1 8 8 = r0 * r1 * r3 * c1 * ((r2 * g2 + r3 * g3 + r4 * g4) * c3 - r3 * (g3 * c3 + r2 * Xb)) := by
    rw [s7 8 8 (by decide) (by decide)]
    refine fdiv_mul n00' ?_
    rw [e11, e33, e31, e13, a00]; exact M33_is (in33 hPn k1 k3 a.xa a.xb)
  have n22 : 0 < (barK T 7).1 7 7 := by rw [d22]; exact Int.mul_pos (Int.mul_pos (Int.mul_pos (Int.mul_pos (Int.mul_pos p0 p1) p2) z1) z2) (by lia)
  refine ⟨n00, n11, n22, ?_⟩
  rw [barK_val T 7 (by decide) 8 8 (by decide) (by decide), barK_bf]
  refine fdiv_mul (Int.ne_of_gt n11) ?_
  show (barK T 7).1 7 7 * (barK T 7).1 8 8 - (barK T 7).1 8 7 * (barK T 7).1 7 8 = (barK T 6).1 6 6 * _
  rw [d22, d33, d32, d23, e11]; exact F4_is (in44 hPn k2 k3 a.xb)
end Mine
end

section
set_option Elab.async false
set_option maxRecDepth 100000
set_option linter.unusedVariables false
set_option linter.unusedSimpArgs false
set_option linter.unusedSectionVars false
namespace Mine
open PySem PySem.Builtin.Int
theorem U_bound {l r : Int → Int} {b : Int → Int → Bool} (hl : ∀ i, 0 ≤ l i ∧ l i ≤ 320) (hr : ∀ i, 0 ≤ r i ∧ r i ≤ 320) (i j : Int) : 0 ≤ U l r b i j ∧ U l r b i j ≤ 102400 := by
  unfold U
  split
  · exact ⟨Int.mul_nonneg (hl i).1 (hr j).1, Int.mul_le_mul (hl i).2 (hr j).2 (hr j).1 (by decide)⟩
  · exact ⟨Int.le_refl _, by decide⟩
theorem sN_bound {f : Int → Int} {M : Int} (h : ∀ i, 0 ≤ f i ∧ f i ≤ M) : ∀ n : Nat, 0 ≤ sN f n ∧ sN f n ≤ n * M
  | 0 => ⟨Int.le_refl _, by show (0 : Int) ≤ _; simp⟩
  | n + 1 => by
    have a := sN_bound h n
    have b := h n
    show 0 ≤ sN f n + f n ∧ sN f n + f n ≤ ((n + 1 : Nat) : Int) * M
    rw [show ((n + 1 : Nat) : Int) * M = n * M + M by rw [Int.natCast_add, Int.add_mul]; simp]
    lia
theorem ite_bd {p : Prop} [Decidable p] {u M : Int} (hM : 0 ≤ M) (h : 0 ≤ u ∧ u ≤ M) : 0 ≤ (if p then u else 0) ∧ (if p then u else 0) ≤ M := by
  split
  · exact h
  · exact ⟨Int.le_refl _, hM⟩
theorem fin_bd {t a b c d : Int} {n : Nat} (ht : t.natAbs ≤ n * 819200) (ha : 0 ≤ a ∧ a ≤ 512000) (hb : 0 ≤ b ∧ b ≤ 102400) (hc : 0 ≤ c ∧ c ≤ 102400) (hd : 0 ≤ d ∧ d ≤ 102400) : (t + a + b - c - d).natAbs ≤ (n + 1) * 819200 := by omega
theorem initT_bound {l r : Int → Int} {b : Int → Int → Bool} (hl : ∀ i, 0 ≤ l i ∧ l i ≤ 320) (hr : ∀ i, 0 ≤ r i ∧ r i ≤ 320) (x y : Int) : ∀ n : Nat, n ≤ 5 → (initT l r b n x y).natAbs ≤ n * 819200
  | 0, _ => by show (0 : Int).natAbs ≤ _; simp
  | n + 1, hn => by
    show (rowT l r b n _ 5 x y).natAbs ≤ _
    rw [rowT_val _ _ _ _ _ ⟨Int.natCast_nonneg n, by lia⟩]
    exact fin_bd (initT_bound (b := b) hl hr x y n (Nat.le_of_succ_le hn)) (ite_bd (by decide) (sN_bound (fun j => U_bound (b := b) hl hr n j) 5)) (ite_bd (by decide) (U_bound (b := b) hl hr n (x - 5)))
      (ite_bd (by decide) (U_bound (b := b) hl hr n (y - 5))) (ite_bd (by decide) (U_bound (b := b) hl hr n (x - 5)))
theorem initT_bits {l r : Int → Int} {b : Int → Int → Bool} (hl : ∀ i, 0 ≤ l i ∧ l i ≤ 320) (hr : ∀ i, 0 ≤ r i ∧ r i ≤ 320) : TBits 24 (initT l r b 5) := fun x y => by
  have := initT_bound (b := b) hl hr x y 5 (Nat.le_refl _)
  exact intBits_le_iff.mpr (by lia)
theorem mul_ok {l r : Int → Int} (hl : ∀ i, 0 ≤ l i ∧ l i ≤ 320) (i j : Int) : IntMulOk (l i) (r j) :=
  IntMulOk.of_left (intBits_le_64 (by have := hl i; lia) (by have := hl i; lia))
theorem barK_log {T : Int → Int → Int} (h : TBits 24 T) (k : Nat) (hk : k ≤ 8) : (barK T k).2.natAbs.log2 < 9000 := by
  have h1 := (barK_bits h k).2
  have h2 : 25 * 2 ^ k - 1 ≤ 6399 := by
    have : 2 ^ k ≤ 2 ^ 8 := Nat.pow_le_pow_right (by decide) hk
    lia
  have h3 := intBits_le_iff.mp (Nat.le_trans h1 h2)
  by_cases q : (barK T k).2.natAbs = 0
  · rw [q]; decide
  · exact Nat.lt_trans ((Nat.log2_lt q).mpr h3) (by decide)
theorem barK_mul {T : Int → Int → Int} (h : TBits 24 T) (k : Nat) (hk : k < 8) (i j n : Nat) (a b c d : Int) :
    IntMulOk ((barK T k).1 a b) (barJ ((barK T k).1 (0 + (k : Int)) (0 + (k : Int))) (barK T k).2 (0 + (k : Int)) (0 + (k : Int) + 1 + (i : Int)) (barI ((barK T k).1 (0 + (k : Int)) (0 + (k : Int))) (barK T k).2 (0 + (k : Int)) n (barK T k).1 i) j c d)
      ∧ IntMulOk (barJ ((barK T k).1 (0 + (k : Int)) (0 + (k : Int))) (barK T k).2 (0 + (k : Int)) (0 + (k : Int) + 1 + (i : Int)) (barI ((barK T k).1 (0 + (k : Int)) (0 + (k : Int))) (barK T k).2 (0 + (k : Int)) n (barK T k).1 i) j a b) (barJ ((barK T k).1 (0 + (k : Int)) (0 + (k : Int))) (barK T k).2 (0 + (k : Int)) (0 + (k : Int) + 1 + (i : Int)) (barI ((barK T k).1 (0 + (k : Int)) (0 + (k : Int))) (barK T k).2 (0 + (k : Int)) n (barK T k).1 i) j c d) := by
  obtain ⟨h1, _⟩ := barK_bits h k
  have hp : 25 * 2 ^ k - 1 ≤ 6399 := by
    have : 2 ^ k ≤ 2 ^ 8 := Nat.pow_le_pow_right (by decide) (Nat.le_of_lt hk)
    lia
  have h2 := h1.mono hp
  have h3 : TBits (2 * 6399 + 1) _ := barI_bits (hd := (barK T k).1 (0 + (k : Int)) (0 + (k : Int))) (bf := (barK T k).2) (k := 0 + (k : Int)) (n := n) (m := i) (h2 _ _) h2
  have h4 : TBits (2 * (2 * 6399 + 1) + 1) _ := barJ_bits (hd := (barK T k).1 (0 + (k : Int)) (0 + (k : Int))) (bf := (barK T k).2) (k := 0 + (k : Int)) (i := 0 + (k : Int) + 1 + (i : Int)) (n := j) (by lia) (Nat.le_trans (h2 _ _) (by lia)) h3
  exact ⟨IntMulOk.of_le (h2 _ _) (h4 _ _) (by decide), IntMulOk.of_le (h4 _ _) (h4 _ _) (by decide)⟩
theorem last_step {P g4 p0 p1 p2 p3 p4 c4 l0 l1 l2 l3 l4 : Int} (h0 : 0 < p0) (hP : P = (l0 * p0) * (l1 * p1) * (l2 * p2) * (l3 * p3) * (l4 * p4)) (k4 : P * c4 = p0 * g4) : g4 = l0 * l1 * l2 * l3 * l4 * (p1 * p2 * p3 * p4) * c4 := by
  refine Int.eq_of_mul_eq_mul_left (Int.ne_of_gt h0) (k4.symm.trans ?_)
  rw [hP]; grind
section
variable {l r s : Int → Int} {b : Int → Int → Bool} (hs : ∀ i, 0 ≤ i → i < 5 → 1 ≤ s i ∧ s i ≤ 5) (hb : ∀ i j, 0 ≤ i → i < 5 → 0 ≤ j → j < 5 → b i j = decide (j < s i)) (h0 : s 0 = 5)
  (hl : ∀ i, 0 ≤ i → i < 5 → 0 < l i) (hr : ∀ i, 0 ≤ i → i < 5 → 0 < r i)
include hs hb h0 hl hr
theorem trees_math : (∀ k : Nat, k < 8 → (barK (initT l r b 5) k).1 (0 + (k : Int)) (0 + (k : Int)) ≠ 0) ∧ (∀ k : Nat, k ≤ 8 → (barK (initT l r b 5) k).2 ≠ 0) ∧
    (barK (initT l r b 5) 8).1 (5 + 5 - 2) (5 + 5 - 2) = (r 0 * r 1 * r 2 * r 3 * r 4) * (l 0 * l 1 * l 2 * l 3 * l 4) * (rho r (s 1) * rho r (s 2) * rho r (s 3) * rho r (s 4)) * (Cx (Ls l s 5) 1 * Cx (Ls l s 5) 2 * Cx (Ls l s 5) 3 * Cx (Ls l s 5) 4) := by
  have hu : ∀ i j, 0 ≤ i → i < 5 → 0 ≤ j → j < 5 → U l r b i j = if j < s i then l i * r j else 0 := fun i j i0 i1 j0 j1 => by
    unfold U; rw [hb i j i0 i1 j0 j1]; simp
  obtain ⟨X2, X3, Xa, Xb, fa⟩ := fa_all hs hb h0 hl hr
  have hpn : ∀ k : Nat, k ≤ 5 → pN (U l r b) k ≠ 0 := fun k hk => Int.ne_of_gt (pN_pos hs hu hl hr k hk)
  have hF := barK_Ft l r b hpn
  have h5 : ∀ x y : Int, 0 ≤ x → x ≤ 3 → 0 ≤ y → y ≤ 3 → (barK (initT l r b 5) 5).1 (x + 5) (y + 5) = (if x = y then pN (U l r b) 5 * (r x * Cx (Ls l s 5) x) else 0) - r x * r y * Gx (Qs (U l r b) s 5) (Ks (U l r b) l s 5) (max x y) := fun x y x0 x1 y0 y1 => by
    rw [(hF 5 (Nat.le_refl _)).2 (x + 5) (y + 5) (by lia) (by lia)]
    unfold Ft
    rw [if_neg (by lia), if_neg (by lia), show x + 5 - 5 = x by lia, show y + 5 - 5 = y by lia, Wt_is hs hu 5 (Nat.le_refl _) x y x0 (by lia) y0 (by lia)]
    have hq : qV (U l r b) x = r x * Cx (Ls l s 5) x := qN_is hs hu 5 (Nat.le_refl _) x x0 (by lia)
    rw [hq]
  have h6 : ∀ x y : Int, 0 ≤ x → x < y → y ≤ 3 → (barK (initT l r b 5) 5).1 (x + 5) (y + 5) = -(r x * r y * Gx (Qs (U l r b) s 5) (Ks (U l r b) l s 5) y) := fun x y x0 x1 y1 => by
    rw [h5 x y (by lia) (by lia) (by lia) (by lia), if_neg (by lia), show max x y = y by lia, Int.zero_sub]
  have h7 : ∀ x y : Int, 0 ≤ y → y < x → x ≤ 3 → (barK (initT l r b 5) 5).1 (x + 5) (y + 5) = -(r y * r x * Gx (Qs (U l r b) s 5) (Ks (U l r b) l s 5) x) := fun x y x0 x1 y1 => by
    rw [h5 x y (by lia) (by lia) (by lia) (by lia), if_neg (by lia), show max x y = x by lia, Int.zero_sub, Int.mul_comm (r x)]
  have f : Fin3 (initT l r b 5) (pN (U l r b) 5) (Gx (Qs (U l r b) s 5) (Ks (U l r b) l s 5) 0) (Gx (Qs (U l r b) s 5) (Ks (U l r b) l s 5) 1) (Gx (Qs (U l r b) s 5) (Ks (U l r b) l s 5) 2) (Gx (Qs (U l r b) s 5) (Ks (U l r b) l s 5) 3) (Gx (Qs (U l r b) s 5) (Ks (U l r b) l s 5) 4)
      (Cx (Ls l s 5) 0) (Cx (Ls l s 5) 1) (Cx (Ls l s 5) 2) (Cx (Ls l s 5) 3) (r 0) (r 1) (r 2) (r 3) (r 4) := by
    refine ⟨(hF 5 (Nat.le_refl _)).1, ?_, ?_, ?_, ?_, ?_, ?_, ?_, ?_, ?_, ?_, ?_, ?_, ?_, ?_, ?_, ?_⟩
    · exact h5 0 0 (by decide) (by decide) (by decide) (by decide)
    · exact h6 0 1 (by decide) (by decide) (by decide)
    · exact h6 0 2 (by decide) (by decide) (by decide)
    · exact h6 0 3 (by decide) (by decide) (by decide)
    · exact h7 1 0 (by decide) (by decide) (by decide)
    · exact h7 2 0 (by decide) (by decide) (by decide)
    · exact h7 3 0 (by decide) (by decide) (by decide)
    · exact h5 1 1 (by decide) (by decide) (by decide) (by decide)
    · exact h6 1 2 (by decide) (by decide) (by decide)
    · exact h6 1 3 (by decide) (by decide) (by decide)
    · exact h7 2 1 (by decide) (by decide) (by decide)
    · exact h7 3 1 (by decide) (by decide) (by decide)
    · exact h5 2 2 (by decide) (by decide) (by decide) (by decide)
    · exact h6 2 3 (by decide) (by decide) (by decide)
    · exact h7 3 2 (by decide) (by decide) (by decide)
    · exact h5 3 3 (by decide) (by decide) (by decide) (by decide)
  obtain ⟨z5, z6, z7, z8⟩ := fin3 f fa (hr 0 (by decide) (by decide)) (hr 1 (by decide) (by decide)) (hr 2 (by decide) (by decide)) (hr 3 (by decide) (by decide)) (hr 4 (by decide) (by decide))
  have hz : ∀ k : Nat, k < 8 → (barK (initT l r b 5) k).1 k k ≠ 0 := fun k hk => by
    by_cases q : k < 5
    · rw [(hF k (by lia)).2 k k (by lia) (by lia)]
      unfold Ft
      rw [if_pos (by lia), if_pos (by lia), if_pos rfl]
      exact Int.mul_ne_zero (hpn k (by lia)) (Int.ne_of_gt (pV_pos hs hu hl hr k (by lia) (by lia)))
    · rcases (show k = 5 ∨ k = 6 ∨ k = 7 by lia) with rfl | rfl | rfl
      · exact Int.ne_of_gt z5
      · exact Int.ne_of_gt z6
      · exact Int.ne_of_gt z7
  refine ⟨fun k hk => by rw [Int.zero_add]; exact hz k hk, fun k hk => ?_, ?_⟩
  · cases k with
    | zero => exact (by decide : (1 : Int) ≠ 0)
    | succ k => rw [barK_bf]; exact hz k (by lia)
  · show (barK (initT l r b 5) 8).1 8 8 = _
    rw [z8]
    have hp : ∀ i : Int, 0 ≤ i → i < 5 → pV (U l r b) i = l i * rho r (s i) := fun i i0 i1 => pV_is hs hu i i0 i1
    have e : pN (U l r b) 5 = (l 0 * rho r (s 0)) * (l 1 * rho r (s 1)) * (l 2 * rho r (s 2)) * (l 3 * rho r (s 3)) * (l 4 * rho r (s 4)) := by
      show 1 * pV (U l r b) ((0 : Nat) : Int) * pV (U l r b) ((1 : Nat) : Int) * pV (U l r b) ((2 : Nat) : Int) * pV (U l r b) ((3 : Nat) : Int) * pV (U l r b) ((4 : Nat) : Int) = _
      rw [hp _ (by decide) (by decide), hp _ (by decide) (by decide), hp _ (by decide) (by decide), hp _ (by decide) (by decide), hp _ (by decide) (by decide), Int.one_mul]
      rfl
    have k4 := fa.k4
    rw [← rho_5, ← h0] at k4
    have g := last_step (rho_pos hr (s 0)) e k4
    rw [g]
    generalize Cx (Ls l s 5) 1 = c1, Cx (Ls l s 5) 2 = c2, Cx (Ls l s 5) 3 = c3, Cx (Ls l s 5) 4 = c4, rho r (s 1) = p1, rho r (s 2) = p2, rho r (s 3) = p3, rho r (s 4) = p4
    generalize r 0 = r0, r 1 = r1, r 2 = r2, r 3 = r3, r 4 = r4, l 0 = l0, l 1 = l1, l 2 = l2, l 3 = l3, l 4 = l4
    grind
end
end Mine
end

section
open PySem PySem.W PyProof.Rows PySem.Calls
set_option Elab.async false
set_option maxRecDepth 100000
set_option maxHeartbeats 8000000
namespace Mine
structure TB (base news : Led) (rs : Int → Addr) (T : Int → Int → Int) : Prop where
  keep : ∀ p ∈ base, p ∈ news
  off : ∀ p ∈ base, ∀ i : Int, 0 ≤ i → i < 10 → p.1 ≠ rs i
  dis : ∀ i j : Int, 0 ≤ i → i < 10 → 0 ≤ j → j < 10 → rs i = rs j → i = j
  row : ∀ i : Int, 0 ≤ i → i < 10 → ∃ vs c, (rs i, listO vs c) ∈ news ∧ vs.length = 10 ∧ ∀ j : Int, 0 ≤ j → j < 10 → ∃ t, vs[j.toNat]? = some (.int (T i j) t)
noncomputable def TRow (base : Led) (tbl : Addr) (rs : Int → Addr) : Prop := ∃ vs c, (tbl, listO vs c) ∈ base ∧ vs.length = 10 ∧ ∀ i : Int, 0 ≤ i → i < 10 → vs[i.toNat]? = some (.ref (rs i))
theorem TRow.up {base base' : Led} {tbl : Addr} {rs : Int → Addr} (h : TRow base tbl rs) (s : ∀ p ∈ base, p ∈ base') : TRow base' tbl rs := by
  obtain ⟨vs, c, h1, h2⟩ := h; exact ⟨vs, c, s _ h1, h2⟩
theorem TB.up {base news news' : Led} {rs : Int → Addr} {T : Int → Int → Int} (h : TB base news rs T) (s : ∀ p ∈ news, p ∈ news') : TB base news' rs T :=
  ⟨fun p hp => s p (h.keep p hp), h.off, h.dis, fun i h0 h1 => by obtain ⟨vs, c, e1, e2⟩ := h.row i h0 h1; exact ⟨vs, c, s _ e1, e2⟩⟩

section
variable {prog : Program} {w : World} {A : Around} {E : Value → Shared → Prop} {s : Shared} {h₀ : Heap} {L : Addr} {m : Str → Option Value} {news news0 base : Led} {tbl : Addr} {rs : Int → Addr} {T : Int → Int → Int} {i j x : Int} {t u : Tok}
theorem store_T {Q : Unit → Shared → Prop} (F : Fr h₀ L s.heap m) (N : News h₀ L s.heap news) (tb : TB base news0 rs T) (sub : ∀ p ∈ news0, p ∈ news) (i0 : 0 ≤ i) (i1 : i < 10) (j0 : 0 ≤ j) (j1 : j < 10)
    (h : ∀ h' news', Fr h₀ L h' m → News h₀ L h' news' → TB base news' rs (updT T i j x) → Q () { s with heap := h' }) :
    wpAny (model prog w) A (setItem (.ref (rs i)) (.int j t) (.int x u)) Q E s := by
  have tb := tb.up sub
  obtain ⟨vs, c, hm, hl, hv⟩ := tb.row i i0 i1
  have hN := N _ hm
  refine ki_setAt hN.1 j0 (by lia) (by simp [hl]; lia) ?_
  have hs : Heap.SameBut (rs i) s.heap (s.heap.update (rs i) (Obj.mapSeq (·.setIfInBounds j.toNat (.int x u)))) := Heap.SameBut.update ..
  obtain ⟨nn, ho'⟩ : ∃ nn, (s.heap.update (rs i) (Obj.mapSeq (·.setIfInBounds j.toNat (.int x u)))).get? (rs i) = some (listO (vs.set j.toNat (.int x u)) nn) := by
    have q := PySem.IsL.update (show s.heap.get? (rs i) = some (listOf vs.toArray c) from hN.1) (·.setIfInBounds j.toNat (.int x u))
    rw [List.setIfInBounds_toArray] at q
    exact ⟨_, q⟩
  have hN' : News h₀ L (s.heap.update (rs i) (Obj.mapSeq (·.setIfInBounds j.toNat (.int x u)))) ((rs i, listO (vs.set j.toNat (.int x u)) nn) :: news.filter (fun p => p.1 != rs i)) := by
    intro p hp
    rcases List.mem_cons.mp hp with rfl | hp
    · exact ⟨ho', hN.2⟩
    · have hp' := List.mem_filter.mp hp
      have := N p hp'.1
      exact ⟨hs.extBut _ _ (by simpa using hp'.2) this.1, this.2⟩
  have ke : ∀ p ∈ news, p.1 ≠ rs i → p ∈ (rs i, listO (vs.set j.toNat (.int x u)) nn) :: news.filter (fun p => p.1 != rs i) := fun p hp hne => .tail _ (List.mem_filter.mpr ⟨hp, by simpa using hne⟩)
  refine h _ _ (F.change hs hN.2.1 hN.2.2) hN' ⟨fun p hp => ke p (tb.keep p hp) (tb.off p hp i i0 i1), tb.off, tb.dis, fun a a0 a1 => ?_⟩
  by_cases hai : a = i
  · subst hai
    refine ⟨vs.set j.toNat (.int x u), nn, ?_, by simp [hl], fun b b0 b1 => ?_⟩
    · exact .head _
    · unfold updT
      by_cases hb : b = j
      · subst hb
        exact ⟨u, by rw [List.getElem?_set_self (by rw [hl]; lia), if_pos ⟨rfl, rfl⟩]⟩
      · obtain ⟨t', ht'⟩ := hv b b0 b1
        exact ⟨t', by rw [List.getElem?_set_ne (by lia), ht', if_neg (by lia)]⟩
  · obtain ⟨vs', c', hm', hl', hv'⟩ := tb.row a a0 a1
    refine ⟨vs', c', ke _ hm' (fun e => hai (tb.dis a i a0 a1 i0 i1 e)), hl', fun b b0 b1 => ?_⟩
    obtain ⟨t', ht'⟩ := hv' b b0 b1
    exact ⟨t', by rw [ht']; unfold updT; rw [if_neg (by lia)]⟩
theorem row_T {value slice : PySem.Expr} {Q : Value → Shared → Prop} (N : News h₀ L s.heap news) (tr : TRow base tbl rs) (tb : TB base news0 rs T) (sub : ∀ p ∈ news0, p ∈ news) (i0 : 0 ≤ i) (i1 : i < 10) (h : Q (.ref (rs i)) s)
    (hs : subscripted slice false (.ref tbl) (.int i u) = operate [.ref tbl, .int i u] (getItem (.ref tbl) (.int i u)) := by with_unfolding_all rfl) :
    wpAny (model prog w) A (subscriptTail value slice (.ref tbl) (.int i u)) Q E s := by
  obtain ⟨vs, c, hm, hl, hv⟩ := tr
  have hL : s.heap.IsList tbl vs.toArray := ⟨_, (N _ (sub _ (tb.keep _ hm))).1, rfl, c, rfl⟩
  exact tail_any hL.typeIs slot_list_getitem.lookup (wpAny_getItem_list hL i0 (by lia) (by simpa using hv i i0 i1) h) hs
theorem cell_T {value slice : PySem.Expr} {Q : Value → Shared → Prop} (N : News h₀ L s.heap news) (tb : TB base news0 rs T) (sub : ∀ p ∈ news0, p ∈ news) (i0 : 0 ≤ i) (i1 : i < 10) (j0 : 0 ≤ j) (j1 : j < 10) (h : ∀ t, Q (.int (T i j) t) s)
    (hs : subscripted slice false (.ref (rs i)) (.int j u) = operate [.ref (rs i), .int j u] (getItem (.ref (rs i)) (.int j u)) := by with_unfolding_all rfl) :
    wpAny (model prog w) A (subscriptTail value slice (.ref (rs i)) (.int j u)) Q E s := by
  obtain ⟨vs, c, hm, hl, hv⟩ := tb.row i i0 i1
  obtain ⟨t, ht⟩ := hv j j0 j1
  have hL : s.heap.IsList (rs i) vs.toArray := ⟨_, (N _ (sub _ hm)).1, rfl, c, rfl⟩
  exact tail_any hL.typeIs slot_list_getitem.lookup (wpAny_getItem_list hL j0 (by lia) (by simpa using ht) (h t)) hs
noncomputable def IntsIn (base : Led) (l : Addr) (n : Int) (v : Int → Int) : Prop := ∃ vs c, (l, listO vs c) ∈ base ∧ (vs.length : Int) = n ∧ ∀ i : Int, 0 ≤ i → i < n → ∃ t, vs[i.toNat]? = some (.int (v i) t)
noncomputable def BoolsIn (base : Led) (l : Addr) (b : Int → Int → Bool) : Prop := ∃ vs c, (l, listO vs c) ∈ base ∧ vs.length = 5 ∧ ∀ i : Int, 0 ≤ i → i < 5 → ∃ a ws d, vs[i.toNat]? = some (.ref a) ∧ (a, listO ws d) ∈ base ∧ ws.length = 5 ∧ ∀ j : Int, 0 ≤ j → j < 5 → ws[j.toNat]? = some (.bool (b i j))
theorem len_I {l : Addr} {n : Int} {v : Int → Int} {Q : Value → Shared → Prop} (N : News h₀ L s.heap news) (hl : IntsIn base l n v) (sub : ∀ p ∈ base, p ∈ news) (hn : n < 1000) (h : ∀ t tk, Q (.int n t) { s with toks := tk }) :
    wpAny (model prog w) A (call (.builtin "len") [.ref l]) Q E s := by
  obtain ⟨vs, c, hm, e, _⟩ := hl
  have hL : s.heap.IsList l vs.toArray := ⟨_, (N _ (sub _ hm)).1, rfl, c, rfl⟩
  refine len_list hL (by rw [List.size_toArray]; lia) ?_
  rw [List.size_toArray, e]; exact h _ _
theorem item_I {value slice : PySem.Expr} {l : Addr} {n : Int} {v : Int → Int} {Q : Value → Shared → Prop} (N : News h₀ L s.heap news) (hl : IntsIn base l n v) (sub : ∀ p ∈ base, p ∈ news) (hn : n < 1000) (i0 : 0 ≤ i) (i1 : i < n) (h : ∀ t, Q (.int (v i) t) s)
    (hs : subscripted slice false (.ref l) (.int i u) = operate [.ref l, .int i u] (getItem (.ref l) (.int i u)) := by with_unfolding_all rfl) :
    wpAny (model prog w) A (subscriptTail value slice (.ref l) (.int i u)) Q E s := by
  obtain ⟨vs, c, hm, e, hv⟩ := hl
  obtain ⟨t, ht⟩ := hv i i0 i1
  have hL : s.heap.IsList l vs.toArray := ⟨_, (N _ (sub _ hm)).1, rfl, c, rfl⟩
  exact tail_any hL.typeIs slot_list_getitem.lookup (wpAny_getItem_list hL i0 (by lia) (by simpa using ht) (h t)) hs
theorem brow_T {value slice : PySem.Expr} {l : Addr} {b : Int → Int → Bool} {Q : Value → Shared → Prop} (N : News h₀ L s.heap news) (hl : BoolsIn base l b) (sub : ∀ p ∈ base, p ∈ news) (i0 : 0 ≤ i) (i1 : i < 5)
    (h : ∀ a ws d, (a, listO ws d) ∈ base → ws.length = 5 → (∀ j : Int, 0 ≤ j → j < 5 → ws[j.toNat]? = some (.bool (b i j))) → Q (.ref a) s)
    (hs : subscripted slice false (.ref l) (.int i u) = operate [.ref l, .int i u] (getItem (.ref l) (.int i u)) := by with_unfolding_all rfl) :
    wpAny (model prog w) A (subscriptTail value slice (.ref l) (.int i u)) Q E s := by
  obtain ⟨vs, c, hm, e, hv⟩ := hl
  obtain ⟨a, ws, d, h1, h2, h3, h4⟩ := hv i i0 i1
  have hL : s.heap.IsList l vs.toArray := ⟨_, (N _ (sub _ hm)).1, rfl, c, rfl⟩
  exact tail_any hL.typeIs slot_list_getitem.lookup (wpAny_getItem_list hL i0 (by lia) (by simpa using h1) (h a ws d h2 h3 h4)) hs
theorem bcell_T {value slice : PySem.Expr} {a : Addr} {ws : List Value} {d : Nat} {b : Int → Int → Bool} {Q : Value → Shared → Prop} (N : News h₀ L s.heap news) (hm : (a, listO ws d) ∈ base) (sub : ∀ p ∈ base, p ∈ news) (hl : ws.length = 5)
    (hb : ∀ j : Int, 0 ≤ j → j < 5 → ws[j.toNat]? = some (.bool (b i j))) (j0 : 0 ≤ j) (j1 : j < 5) (h : Q (.bool (b i j)) s)
    (hs : subscripted slice false (.ref a) (.int j u) = operate [.ref a, .int j u] (getItem (.ref a) (.int j u)) := by with_unfolding_all rfl) :
    wpAny (model prog w) A (subscriptTail value slice (.ref a) (.int j u)) Q E s := by
  have hL : s.heap.IsList a ws.toArray := ⟨_, (N _ (sub _ hm)).1, rfl, d, rfl⟩
  exact tail_any hL.typeIs slot_list_getitem.lookup (wpAny_getItem_list hL j0 (by lia) (by simpa using hb j j0 j1) h) hs
end
section
variable {prog : Program} {w : World} {A : Around} {E : Value → Shared → Prop} {s : Shared} {env : Env} {h₀ : Heap} {x : Str} {body : List Stmt} {Q : Flow → Shared → Prop} {base : Led} {rs : Int → Addr}
theorem range_rest {I : Addr} {a : Int} {n : Nat} (MI : Nat → (Str → Option Value) → Prop) (G : Nat → Int → Int → Int) (hI : ∀ i : Int, 0 ≤ i → i < 10 → rs i ≠ I)
    (step : ∀ i m t h tk nw it, i < n → MI i m → Fr h₀ env.locals h (fun y => if y = x then some (.int (a + (i : Int)) t) else m y) → News h₀ env.locals h nw → TB ((I, it) :: base) nw rs (G i) →
      wpAny (model prog w) A (execs body env) (UnrPost h₀ env.locals { s with heap := h, toks := tk } I it (fun m' n' => MI (i + 1) m' ∧ TB base n' rs (G (i + 1))) Q) E { s with heap := h, toks := tk })
    (done : ∀ h tk m nw, MI n m → Fr h₀ env.locals h m → News h₀ env.locals h nw → TB base nw rs (G n) → Q .next { s with heap := h, toks := tk }) :
    ∀ (k i : Nat) (m : Str → Option Value) (nw : Led), i + k = n → MI i m → TB base nw rs (G i) → RangeRest prog w A E h₀ env x body Q s I a n k i m nw := by
  intro k
  induction k with
  | zero =>
    intro i m nw e hm tb
    obtain rfl : i = n := by lia
    exact RangeRest.zero fun h tk F N => done h tk m nw hm F N tb
  | succ k ih =>
    intro i m nw e hm tb
    refine RangeRest.succ fun t h tk F N => ?_
    have tb' : TB ((I, itR (a + ((i + 1 : Nat) : Int)) ((n : Int) - ((i + 1 : Nat) : Int))) :: base) ((I, itR (a + ((i + 1 : Nat) : Int)) ((n : Int) - ((i + 1 : Nat) : Int))) :: nw) rs (G i) :=
      ⟨fun p hp => by
        rcases List.mem_cons.mp hp with rfl | hp
        · exact .head _
        · exact .tail _ (tb.keep p hp), fun p hp b b0 b1 => by
        rcases List.mem_cons.mp hp with rfl | hp
        · exact Ne.symm (hI b b0 b1)
        · exact tb.off p hp b b0 b1, tb.dis, (tb.up fun p hp => .tail _ hp).row⟩
    refine wpAny_mono (step i m t h tk _ _ (by lia) hm F N tb') (fun f s₂ p => ?_) (fun _ _ e => e)
    have fin : UnrEnd h₀ env.locals { s with heap := h, toks := tk } I (itR (a + ((i + 1 : Nat) : Int)) ((n : Int) - ((i + 1 : Nat) : Int))) (fun m' n' => MI (i + 1) m' ∧ TB base n' rs (G (i + 1))) s₂ →
        UnrEnd h₀ env.locals { s with heap := h, toks := tk } I (itR (a + ((i + 1 : Nat) : Int)) ((n : Int) - ((i + 1 : Nat) : Int))) (RangeRest prog w A E h₀ env x body Q s I a n k (i + 1)) s₂ := by
      rintro ⟨h', tk', m', news', e', F', N', o', r1, r2⟩
      exact ⟨h', tk', m', news', e', F', N', o', ih (i + 1) m' news' (by lia) r1 r2⟩
    cases f with
    | ret v => exact p
    | brk => exact p
    | next => exact fin p
    | cont => exact fin p
theorem range_T {r : Addr} {a₀ b₀ : Int} {t₀ u₀ v₀ : Tok} {n : Nat} {m₀ : Str → Option Value} {news news0 : Led} (MI : Nat → (Str → Option Value) → Prop) (G : Nat → Int → Int → Int)
    (hh : A.handled = none) (hr : IsRange s.heap r a₀ b₀ 1 t₀ u₀ v₀) (hsmall : Builtin.Range.small a₀ b₀ 1 = true) (hn : Builtin.Range.rangeSize a₀ b₀ 1 = (n : Int)) (F : Fr h₀ env.locals s.heap m₀) (N : News h₀ env.locals s.heap news)
    (tb : TB base news0 rs (G 0)) (sub : ∀ p ∈ news0, p ∈ news) (h0 : MI 0 m₀)
    (step : ∀ I i m t h tk nw it, (∀ p ∈ base, p.1 ≠ I) → (∀ i : Int, 0 ≤ i → i < 10 → rs i ≠ I) → i < n → MI i m → Fr h₀ env.locals h (fun y => if y = x then some (.int (a₀ + (i : Int)) t) else m y) → News h₀ env.locals h nw → TB ((I, it) :: base) nw rs (G i) →
      wpAny (model prog w) A (execs body env) (UnrPost h₀ env.locals { s with heap := h, toks := tk } I it (fun m' n' => MI (i + 1) m' ∧ TB base n' rs (G (i + 1))) Q) E { s with heap := h, toks := tk })
    (done : ∀ h tk m nw, MI n m → Fr h₀ env.locals h m → News h₀ env.locals h nw → TB base nw rs (G n) → Q .next { s with heap := h, toks := tk }) :
    wpAny (model prog w) A (pyIter (.ref r)) (fun it s₂ => LoopAtV prog w A h₀ env x body Q E it s₂) E s := by
  have tb := tb.up sub
  refine iter_rangeUnr hh hr hsmall hn F N fun I hI => ?_
  have hb : ∀ p ∈ base, p.1 ≠ I := fun p hp => Nat.ne_of_lt (hI p (tb.keep p hp))
  have hrs : ∀ i : Int, 0 ≤ i → i < 10 → rs i ≠ I := fun i i0 i1 => by
    obtain ⟨vs, c, hm, _⟩ := tb.row i i0 i1
    exact Nat.ne_of_lt (hI _ hm)
  exact range_rest MI G hrs (fun i m t h tk nw it hi hm F N tb => step I i m t h tk nw it hb hrs hi hm F N tb) done n 0 m₀ news (by lia) h0 tb
theorem turn_end {L I : Addr} {it : Obj} {MI : (Str → Option Value) → Prop} {T T' : Int → Int → Int} {s₁ : Shared} {h' : Heap} {tk : Nat} {m' : Str → Option Value} {all news0 : Led} (F : Fr h₀ L h' m') (N : News h₀ L h' all) (tb : TB ((I, it) :: base) news0 rs T) (sub : ∀ p ∈ news0, p ∈ all)
    (hb : ∀ p ∈ base, p.1 ≠ I) (hm : MI m') (hT : T = T') : UnrEnd h₀ L s₁ I it (fun m' n' => MI m' ∧ TB base n' rs T') { s₁ with heap := h', toks := tk } := by
  subst hT
  have tb := tb.up sub
  have hf : ∀ p ∈ all, p.1 ≠ I → p ∈ all.filter (fun p => p.1 != I) := fun p hp hne => List.mem_filter.mpr ⟨hp, by simpa using hne⟩
  refine UnrEnd.intro F N (all.filter (fun p => p.1 != I)) (fun p hp => ?_) (fun p hp => by simpa using (List.mem_filter.mp hp).2) ⟨hm, fun p hp => hf p (tb.keep p (.tail _ hp)) (hb p hp), fun p hp => tb.off p (.tail _ hp), tb.dis, fun i i0 i1 => ?_⟩
  · rcases List.mem_cons.mp hp with rfl | hp
    · exact tb.keep _ (.head _)
    · exact (List.mem_filter.mp hp).1
  · obtain ⟨vs, c, e1, e2⟩ := tb.row i i0 i1
    exact ⟨vs, c, hf _ e1 (Ne.symm (tb.off _ (.head _) i i0 i1)), e2⟩
end
end Mine
end

section
open PySem PySem.W PyProof.Rows PySem.Calls
set_option Elab.async false
set_option maxRecDepth 100000
set_option maxHeartbeats 8000000
namespace Mine
section
variable {prog : Program} {w : World} {A : Around} {h₀ : Heap} {L : Addr} {m : Str → Option Value} {env : Env}
theorem comp_rest {elt : Expr} {x : Str} {scope : Scope} {cl : List (Str × Addr)} {s : Shared} {S : Led → Prop} {P : Nat → Value → Prop} {Fin : List Value → Led → Prop} {n : Nat} (J : Nat → List Value → Led → Prop)
    (step : ∀ i ys nw v I oI C oC D m₂ h tk (E' : Value → Shared → Prop), i < n → J i ys nw → P i v → LCg.NsObj oC m₂ → m₂ x = some v → Fr h₀ L h m → News h₀ L h ((I, oI) :: (C, oC) :: (D, LCg.lst ys) :: nw) → LCg.Off3 I C D nw → ((@Ne Nat I C) ∧ (@Ne Nat I D) ∧ (@Ne Nat C D)) →
      wpAny (model prog w) A (eval elt (compEnvC scope cl C env)) (LCg.CompEnd h₀ L m { s with heap := h, toks := tk } I oI C oC D (LCg.lst ys) S (fun y nw' => J (i + 1) (ys ++ [y]) nw')) E' { s with heap := h, toks := tk })
    (done : ∀ ys nw, J n ys nw → Fin ys nw) : ∀ (k i : Nat) (ys : List Value) (nw : Led), i + k = n → J i ys nw → LCg.CompRest prog w A h₀ L m env elt x scope cl s S P Fin k i ys nw := by
  intro k
  induction k with
  | zero =>
    intro i ys nw e hj
    obtain rfl : i = n := by lia
    exact LCg.CompRest.zero (done ys nw hj)
  | succ k ih =>
    intro i ys nw e hj
    refine LCg.CompRest.succ fun v I oI C oC D m₂ h tk E' hP hC hx F N off ne => ?_
    refine wpAny_mono (step i ys nw v I oI C oC D m₂ h tk E' (by lia) hj hP hC hx F N off ne) (fun y s₂ p => ?_) (fun _ _ e => e)
    obtain ⟨h', tk', nw', e1, F', N', o', hS, r⟩ := p
    exact ⟨h', tk', nw', e1, F', N', o', hS, ih (i + 1) _ nw' (by lia) r⟩
end
section
variable {M : Model} {A : Around} {E : Value → Shared → Prop} {s : Shared} {h₀ : Heap} {L a : Addr} {m : Str → Option Value} {cn : Str} {cs : Scope} {ccd : Value} {cl : List (Str × Addr)}
  {x : Str} {v : Value} {Q : Unit → Shared → Prop} {news : Led} {c B : Addr} {o : Obj} {v₀ : Option Value}
theorem storeC_head (F : Fr h₀ L s.heap m) (N : News h₀ L s.heap ((c, o) :: news)) (hc : cl.lookup x = some c) (hlt : ∀ p ∈ news, p.1 < B) (hB : B ≤ c) (hd : o.data = .cell v₀)
    (h : ∀ h' o', Fr h₀ L h' m → News h₀ L h' ((c, o') :: news) → o'.data = .cell (some v) → Q () { s with heap := h' })
    (hk : cs.kind = .function) (hx : (envX cn cs L a ccd cl).kindOf x = some .cell) : wpAny M A (storeName (envX cn cs L a ccd cl) x v) Q E s :=
  storeX_C F N hc (UpdF.head fun p hp => Nat.ne_of_lt (Nat.lt_of_lt_of_le (hlt p hp) hB)) hd h hk hx
end
section
variable {prog : Program} {w : World} {A : Around} {E : Value → Shared → Prop} {s : Shared} {h₀ : Heap} {L : Addr} {m : Str → Option Value} {news : Led}
theorem mul_ten {l : Addr} {c : Nat} {x : Int} {t u : Tok} {Q : Value → Shared → Prop} (F : Fr h₀ L s.heap m) (N : News h₀ L s.heap news) (hm : (l, listO [.int 0 t] c) ∈ news) (hx : x = 10)
    (h : ∀ a h', Fr h₀ L h' m → News h₀ L h' ((a, listO (List.replicate 10 (.int 0 t)) 0) :: news) → (∀ q ∈ news, q.1 < a) → Q (.ref a) { s with heap := h' }) :
    wpAny (model prog w) A (binaryOp .Mult (.ref l) (.int x u)) Q E s := by
  subst hx
  refine mul_list (k := c) (items := #[.int 0 t]) F N (N _ hm).1 (by decide) (by decide) (by show 1 * 10 ≤ 2 ^ 24; decide) fun h' F' N' => ?_
  exact h _ h' F' N' fun q hq => Heap.lt_size (N q hq).1
end
theorem newList_one {M : Model} {A : Around} {E : Value → Shared → Prop} {s : Shared} {h₀ : Heap} {L : Addr} {m : Str → Option Value} {news : Led} {v0 : Value} {Q : Value → Shared → Prop} (F : Fr h₀ L s.heap m) (N : News h₀ L s.heap news)
    (h : ∀ l h', Fr h₀ L h' m → News h₀ L h' ((l, listO [v0] 0) :: news) → (∀ q ∈ news, q.1 < l) → Q (.ref l) { s with heap := h' }) : wpAny M A (newList [v0]) Q E s :=
  newList_N F N (fun h' F' N' => h _ h' F' N' fun q hq => Heap.lt_size (N q hq).1) (by rw [sizeLine_eq]; simp)
noncomputable def JZ (base : Led) (i : Nat) (ys : List Value) (nw : Led) : Prop :=
  ∃ as : List Addr, ys = as.map .ref ∧ as.length = i ∧ as.Nodup ∧ (∀ a ∈ as, (∃ c t, (a, listO (List.replicate 10 (.int 0 t)) c) ∈ nw) ∧ ∀ p ∈ base, p.1 ≠ a) ∧ ∀ p ∈ base, p ∈ nw
theorem JZ.next {base nw nw' : Led} {i c : Nat} {ys : List Value} {a : Addr} {t : Tok} (h : JZ base i ys nw) (ha : (a, listO (List.replicate 10 (.int 0 t)) c) ∈ nw') (sub : ∀ p ∈ nw, p ∈ nw') (hlt : ∀ p ∈ nw, p.1 < a) : JZ base (i + 1) (ys ++ [.ref a]) nw' := by
  obtain ⟨as, rfl, rfl, nd, h1, h2⟩ := h
  refine ⟨as ++ [a], by simp, by simp, ?_, fun b hb => ?_, fun p hp => sub _ (h2 p hp)⟩
  · rw [List.nodup_append]
    refine ⟨nd, by simp, fun x hx y hy e => ?_⟩
    obtain ⟨⟨c', t', hm⟩, _⟩ := h1 x hx
    rw [List.mem_singleton.mp hy] at e
    exact absurd (e ▸ hlt _ hm) (Nat.lt_irrefl _)
  · rcases List.mem_append.mp hb with hb | hb
    · obtain ⟨⟨c', t', hm⟩, h3⟩ := h1 b hb
      exact ⟨⟨c', t', sub _ hm⟩, h3⟩
    · rw [List.mem_singleton.mp hb]
      exact ⟨⟨c, t, ha⟩, fun p hp => Nat.ne_of_lt (hlt p (h2 p hp))⟩
theorem JZ.tb {base nw : Led} {ys : List Value} {D : Addr} {c : Nat} (h : JZ base 10 ys nw) (hD : ∀ p ∈ nw, p.1 ≠ D) : ∃ rs, TRow ((D, listO ys c) :: base) D rs ∧ TB ((D, listO ys c) :: base) ((D, listO ys c) :: nw) rs (fun _ _ => 0) := by
  obtain ⟨as, rfl, hl, nd, h1, h2⟩ := h
  have hg : ∀ i : Int, 0 ≤ i → i < 10 → ∃ a, as[i.toNat]? = some a ∧ a ∈ as ∧ as.getD i.toNat 0 = a := fun i i0 i1 => by
    have hi : i.toNat < as.length := by lia
    exact ⟨as[i.toNat], List.getElem?_eq_getElem hi, List.getElem_mem hi, by simp [List.getD, List.getElem?_eq_getElem hi]⟩
  refine ⟨fun i => as.getD i.toNat 0, ⟨_, c, .head _, by simp [hl], fun i i0 i1 => ?_⟩, fun p hp => ?_, fun p hp i i0 i1 => ?_, fun i j i0 i1 j0 j1 e => ?_, fun i i0 i1 => ?_⟩
  · obtain ⟨a, e1, e2, e3⟩ := hg i i0 i1
    show (as.map Value.ref)[i.toNat]? = some (.ref (as.getD i.toNat 0))
    rw [List.getElem?_map, e1, e3]; rfl
  · rcases List.mem_cons.mp hp with rfl | hp
    · exact .head _
    · exact .tail _ (h2 p hp)
  · obtain ⟨a, e1, e2, e3⟩ := hg i i0 i1
    show p.1 ≠ as.getD i.toNat 0
    rw [e3]
    rcases List.mem_cons.mp hp with rfl | hp
    · obtain ⟨⟨c', t', hm⟩, _⟩ := h1 a e2
      exact Ne.symm (hD _ hm)
    · exact (h1 a e2).2 p hp
  · obtain ⟨a, e1, e2, e3⟩ := hg i i0 i1
    obtain ⟨b, f1, f2, f3⟩ := hg j j0 j1
    have e : a = b := by rw [← e3, ← f3]; exact e
    subst e
    have := (List.getElem?_inj (j := j.toNat) (by lia : i.toNat < as.length) nd).mp (e1.trans f1.symm)
    lia
  · obtain ⟨a, e1, e2, e3⟩ := hg i i0 i1
    obtain ⟨⟨c', t, hm⟩, _⟩ := h1 a e2
    refine ⟨List.replicate 10 (.int 0 t), c', .tail _ ?_, by simp, fun j j0 j1 => ⟨t, ?_⟩⟩
    · have : (as.getD i.toNat 0, listO (List.replicate 10 (.int 0 t)) c') = (a, listO (List.replicate 10 (.int 0 t)) c') := by rw [e3]
      exact this ▸ hm
    · rw [List.getElem?_replicate, if_pos (by lia)]
theorem comp_turn {h₀ h' : Heap} {L I C D a : Addr} {m : Str → Option Value} {s₁ : Shared} {oI oC oD : Obj} {X : Addr × Obj} {tk c : Nat} {t : Tok} {base nw : Led} {i : Nat} {ys : List Value} (F : Fr h₀ L h' m)
    (N : News h₀ L h' ((a, listO (List.replicate 10 (.int 0 t)) c) :: X :: (I, oI) :: (C, oC) :: (D, oD) :: nw)) (l1 : ∀ q ∈ X :: (I, oI) :: (C, oC) :: (D, oD) :: nw, q.1 < a) (off : LCg.Off3 I C D nw) (hj : JZ base i ys nw) :
    LCg.CompEnd h₀ L m s₁ I oI C oC D oD (fun _ => True) (fun y nw' => JZ base (i + 1) (ys ++ [y]) nw') (.ref a) { s₁ with heap := h', toks := tk } := by
  refine LCg.CompEnd.intro F N ((a, listO (List.replicate 10 (.int 0 t)) c) :: nw) (fun p hp => ?_) ⟨⟨?_, ?_, ?_⟩, off⟩ trivial (hj.next (.head _) (fun p hp => .tail _ hp) fun p hp => l1 p (.tail _ (.tail _ (.tail _ (.tail _ hp)))))
  · rcases List.mem_cons.mp hp with rfl | hp
    · exact .tail _ (.tail _ (.head _))
    · rcases List.mem_cons.mp hp with rfl | hp
      · exact .tail _ (.tail _ (.tail _ (.head _)))
      · rcases List.mem_cons.mp hp with rfl | hp
        · exact .tail _ (.tail _ (.tail _ (.tail _ (.head _))))
        · rcases List.mem_cons.mp hp with rfl | hp
          · exact .head _
          · exact .tail _ (.tail _ (.tail _ (.tail _ (.tail _ hp))))
  · exact Ne.symm (Nat.ne_of_lt (l1 (I, oI) (.tail _ (.head _))))
  · exact Ne.symm (Nat.ne_of_lt (l1 (C, oC) (.tail _ (.tail _ (.head _)))))
  · exact Ne.symm (Nat.ne_of_lt (l1 (D, oD) (.tail _ (.tail _ (.tail _ (.head _))))))
theorem JZ.tb' {base nw : Led} {ys : List Value} {D : Addr} {c : Nat} (h : JZ base 10 ys nw) (hD : ∀ p ∈ nw, p.1 ≠ D) : ∃ base9 rs, (∀ p ∈ base, p ∈ base9) ∧ TRow base9 D rs ∧ TB base9 ((D, listO ys c) :: nw) rs (fun _ _ => 0) := by
  obtain ⟨rs, h1, h2⟩ := h.tb (c := c) hD
  exact ⟨_, rs, fun p hp => .tail _ hp, h1, h2⟩
theorem IntsIn.up {base base' : Led} {l : Addr} {n : Int} {v : Int → Int} (h : IntsIn base l n v) (s : ∀ p ∈ base, p ∈ base') : IntsIn base' l n v := by
  obtain ⟨vs, c, h1, h2⟩ := h; exact ⟨vs, c, s _ h1, h2⟩
theorem BoolsIn.up {base base' : Led} {l : Addr} {b : Int → Int → Bool} (h : BoolsIn base l b) (s : ∀ p ∈ base, p ∈ base') : BoolsIn base' l b := by
  obtain ⟨vs, c, h1, h2, h3⟩ := h
  exact ⟨vs, c, s _ h1, h2, fun i i0 i1 => by obtain ⟨a, ws, d, e1, e2, e3⟩ := h3 i i0 i1; exact ⟨a, ws, d, e1, s _ e2, e3⟩⟩
theorem off1_mem {D : Addr} : ∀ {l : Led}, LCg.Off1 D l → ∀ p ∈ l, p.1 ≠ D
  | [], _, _, h => nomatch h
  | _ :: _, x, p, h => by
    rcases List.mem_cons.mp h with rfl | h
    · exact x.1
    · exact off1_mem x.2 p h
theorem cellG_T {prog : Program} {w : World} {A : Around} {E : Value → Shared → Prop} {s : Shared} {h₀ : Heap} {L : Addr} {news news0 base : Led} {rs : Int → Addr} {T : Int → Int → Int} {i j : Int} {u : Tok} {Q : Value → Shared → Prop} (N : News h₀ L s.heap news) (tb : TB base news0 rs T) (sub : ∀ p ∈ news0, p ∈ news) (i0 : 0 ≤ i) (i1 : i < 10) (j0 : 0 ≤ j) (j1 : j < 10) (h : ∀ t, Q (.int (T i j) t) s) :
    wpAny (model prog w) A (getItem (.ref (rs i)) (.int j u)) Q E s := by
  obtain ⟨vs, c, hm, hl, hv⟩ := tb.row i i0 i1
  obtain ⟨t, ht⟩ := hv j j0 j1
  have hL : s.heap.IsList (rs i) vs.toArray := ⟨_, (N _ (sub _ hm)).1, rfl, c, rfl⟩
  exact wpAny_getItem_list hL j0 (by lia) (by simpa using ht) (h t)
noncomputable def Agree (S : List Str) (m m₀ : Str → Option Value) : Prop := ∀ y, y ∉ S → m y = m₀ y
theorem Agree.form3 {a b c : Str} {m m₀ : Str → Option Value} (h : Agree [a, b, c] m m₀) : ∃ x y z, m = fun q => if q = a then x else if q = b then y else if q = c then z else m₀ q :=
  ⟨m a, m b, m c, funext fun q => by
    by_cases h1 : q = a
    · rw [if_pos h1, h1]
    · rw [if_neg h1]
      by_cases h2 : q = b
      · rw [if_pos h2, h2]
      · rw [if_neg h2]
        by_cases h3 : q = c
        · rw [if_pos h3, h3]
        · rw [if_neg h3]; exact h q (by simp [h1, h2, h3])⟩
theorem Agree.form4 {a b c d : Str} {m m₀ : Str → Option Value} (h : Agree [a, b, c, d] m m₀) : ∃ x y z u, m = fun q => if q = a then x else if q = b then y else if q = c then z else if q = d then u else m₀ q := by
  have h' : Agree [a, b, c] m (fun q => if q = d then m d else m₀ q) := fun q hq => by
    show m q = if q = d then m d else m₀ q
    by_cases h4 : q = d
    · rw [if_pos h4, h4]
    · rw [if_neg h4]; exact h q (by simp at hq; simp [hq, h4])
  obtain ⟨x, y, z, e⟩ := h'.form3
  exact ⟨x, y, z, m d, e⟩
theorem Agree.refl {S : List Str} (m : Str → Option Value) : Agree S m m := fun _ _ => rfl
theorem stepT_pos {left right : Int → Int} {b : Int → Int → Bool} {i : Int} {T : Int → Int → Int} {j : Nat} (h : b i (0 + (j : Int)) = true) : rowT left right b i T (j + 1) =
    updT (updT (updT (updT (rowT left right b i T j) i i (rowT left right b i T j i i + left i * right (0 + (j : Int)))) (5 + (0 + (j : Int))) (5 + (0 + (j : Int)))
      (updT (rowT left right b i T j) i i (rowT left right b i T j i i + left i * right (0 + (j : Int))) (5 + (0 + (j : Int))) (5 + (0 + (j : Int))) + left i * right (0 + (j : Int)))) i (5 + (0 + (j : Int)))
      (updT (updT (rowT left right b i T j) i i (rowT left right b i T j i i + left i * right (0 + (j : Int)))) (5 + (0 + (j : Int))) (5 + (0 + (j : Int)))
      (updT (rowT left right b i T j) i i (rowT left right b i T j i i + left i * right (0 + (j : Int))) (5 + (0 + (j : Int))) (5 + (0 + (j : Int))) + left i * right (0 + (j : Int))) i (5 + (0 + (j : Int))) - left i * right (0 + (j : Int)))) (5 + (0 + (j : Int))) i
      (updT (updT (updT (rowT left right b i T j) i i (rowT left right b i T j i i + left i * right (0 + (j : Int)))) (5 + (0 + (j : Int))) (5 + (0 + (j : Int)))
      (updT (rowT left right b i T j) i i (rowT left right b i T j i i + left i * right (0 + (j : Int))) (5 + (0 + (j : Int))) (5 + (0 + (j : Int))) + left i * right (0 + (j : Int)))) i (5 + (0 + (j : Int)))
      (updT (updT (rowT left right b i T j) i i (rowT left right b i T j i i + left i * right (0 + (j : Int)))) (5 + (0 + (j : Int))) (5 + (0 + (j : Int)))
      (updT (rowT left right b i T j) i i (rowT left right b i T j i i + left i * right (0 + (j : Int))) (5 + (0 + (j : Int))) (5 + (0 + (j : Int))) + left i * right (0 + (j : Int))) i (5 + (0 + (j : Int))) - left i * right (0 + (j : Int))) (5 + (0 + (j : Int))) i - left i * right (0 + (j : Int))) := by
  rw [Int.zero_add] at h ⊢
  show stepT left right b i j (rowT left right b i T j) = _
  unfold stepT
  rw [if_pos h]
theorem stepT_neg {left right : Int → Int} {b : Int → Int → Bool} {i : Int} {T : Int → Int → Int} {j : Nat} (h : b i (0 + (j : Int)) = false) : rowT left right b i T (j + 1) = rowT left right b i T j := by
  rw [Int.zero_add] at h
  show stepT left right b i j (rowT left right b i T j) = _
  unfold stepT
  rw [if_neg (by rw [h]; decide)]
theorem initT_next {left right : Int → Int} {b : Int → Int → Bool} {i : Nat} : rowT left right b (0 + (i : Int)) (initT left right b i) 5 = initT left right b (i + 1) := by
  rw [Int.zero_add]; rfl
theorem Agree.form5 {a b c d e : Str} {v : Value} {m m₀ : Str → Option Value} (h : Agree [a, b, c, d, e] m m₀) (he : m e = some v) : ∃ x y z u, m = fun q => if q = a then x else if q = b then y else if q = c then z else if q = d then u else if q = e then some v else m₀ q := by
  have h' : Agree [a, b, c, d] m (fun q => if q = e then some v else m₀ q) := fun q hq => by
    show m q = if q = e then some v else m₀ q
    by_cases h4 : q = e
    · rw [if_pos h4, h4, he]
    · rw [if_neg h4]; exact h q (by simp at hq; simp [hq, h4])
  exact h'.form4
theorem Agree.form2 {a b : Str} {m m₀ : Str → Option Value} (h : Agree [a, b] m m₀) : ∃ x y, m = fun q => if q = a then x else if q = b then y else m₀ q :=
  ⟨m a, m b, funext fun q => by
    by_cases h1 : q = a
    · rw [if_pos h1, h1]
    · rw [if_neg h1]
      by_cases h2 : q = b
      · rw [if_pos h2, h2]
      · rw [if_neg h2]; exact h q (by simp [h1, h2])⟩
theorem Agree.form1 {a : Str} {m m₀ : Str → Option Value} (h : Agree [a] m m₀) : ∃ x, m = fun q => if q = a then x else m₀ q :=
  ⟨m a, funext fun q => by
    by_cases h1 : q = a
    · rw [if_pos h1, h1]
    · rw [if_neg h1]; exact h q (by simp [h1])⟩
theorem rg_small (k : Nat) (h : k < 8) : Builtin.Range.small (0 + (k : Int) + 1) (5 + 5 - 1) 1 = true := by
  have : ∀ k : Fin 8, Builtin.Range.small (0 + ((k : Nat) : Int) + 1) (5 + 5 - 1) 1 = true := by decide
  exact this ⟨k, h⟩
theorem rg_size (k : Nat) (h : k < 8) : Builtin.Range.rangeSize (0 + (k : Int) + 1) (5 + 5 - 1) 1 = ((8 - k : Nat) : Int) := by
  have : ∀ k : Fin 8, Builtin.Range.rangeSize (0 + ((k : Nat) : Int) + 1) (5 + 5 - 1) 1 = ((8 - (k : Nat) : Nat) : Int) := by decide
  exact this ⟨k, h⟩
theorem eqI_f {prog : Program} {w : World} {A : Around} {E : Value → Shared → Prop} {s : Shared} {x y : Int} {t u : Tok} {Q : Value → Shared → Prop} (hne : x ≠ y) (h : Q (.bool false) s) : wpAny (model prog w) A (compareOp .Eq (.int x t) (.int y u)) Q E s :=
  eq_int (by rw [beq_eq_false_iff_ne.mpr hne]; exact h)
end Mine
end

section
open PySem PySem.W PyProof.Rows PySem.Calls
set_option Elab.async false
set_option maxRecDepth 100000
set_option maxHeartbeats 8000000
namespace Mine
variable {w : World} {p : Program} {loose : List Str} {mean : ExcName → Option Value} {mg mb : Str → Option Value}
theorem tr_con (l r jn : Addr) (left right : Int → Int) (b : Int → Int → Bool) (news : Led) (hl : IntsIn news l 5 left) (hr : IntsIn news r 5 right) (hb : BoolsIn news jn b) (hmo : ∀ i j, IntMulOk (left i) (right j))
    (T5 : Int → Int → Int) (hT5 : initT left right b 5 = T5)
    (hz : ∀ k : Nat, k < 8 → (barK T5 k).1 (0 + (k : Int)) (0 + (k : Int)) ≠ 0) (hdv : ∀ k : Nat, k ≤ 8 → (barK T5 k).2 ≠ 0 ∧ (barK T5 k).2.natAbs.log2 < 9000)
    (hbd : ∀ k : Nat, k < 8 → ∀ i j n : Nat, i ≤ 8 → j ≤ 8 → n ≤ 8 → ∀ a b' c d, IntMulOk ((barK T5 k).1 a b') (barJ ((barK T5 k).1 (0 + (k : Int)) (0 + (k : Int))) (barK T5 k).2 (0 + (k : Int)) (0 + (k : Int) + 1 + (i : Int)) (barI ((barK T5 k).1 (0 + (k : Int)) (0 + (k : Int))) (barK T5 k).2 (0 + (k : Int)) n (barK T5 k).1 i) j c d)
      ∧ IntMulOk (barJ ((barK T5 k).1 (0 + (k : Int)) (0 + (k : Int))) (barK T5 k).2 (0 + (k : Int)) (0 + (k : Int) + 1 + (i : Int)) (barI ((barK T5 k).1 (0 + (k : Int)) (0 + (k : Int))) (barK T5 k).2 (0 + (k : Int)) n (barK T5 k).1 i) j a b') (barJ ((barK T5 k).1 (0 + (k : Int)) (0 + (k : Int))) (barK T5 k).2 (0 + (k : Int)) (0 + (k : Int) + 1 + (i : Int)) (barI ((barK T5 k).1 (0 + (k : Int)) (0 + (k : Int))) (barK T5 k).2 (0 + (k : Int)) n (barK T5 k).1 i) j c d)) :
    Con w p loose mean mg mb 127 [.ref l, .ref r, .ref jn] news 4 32 (fun r n' => ∃ t, r = .int ((barK T5 8).1 (5 + 5 - 2) (5 + 5 - 2)) t ∧ news = n') := by
  unfold Con
  k_fill
  intro dp un gd cn cs a ccd cl outer A₀ base h₀ L m s Q E B F X N T hk hd hu hret
  refine wpAny_call ?_
  k_dflt ((refine code_defC (by (k_asm)) (by (k_asm)) (by (k_asm)) (by (k_asm)) (by (k_asm)) (by (exact rfl)) (by (exact rfl)) (by (assumption)) (by (k_is)) (by (k_is)) (by (ktr_room)) (by (exact BindsTo.of_eq rfl)) (by (exact rfl)) (by (decide +kernel)) ?_ (by (exact rfl)) (by (exact rfl)) (by (exact rfl)); intro _ _ _ _ _ _ _ N'z Y'z B'z _ _ _; k_cells Y'z; (try simp only [List.cons_append, List.nil_append] at N'z); (try dsimp only); (try k_lift B'z); (try k_fold)))
  w_on
  w_top off
  (try (rename Fr _ _ _ _ => F0z; revert F0z; show (let mKz := ?_; (Fr _ _ _ mKz → _)); intro mKz F0z))
  (try (show (let aKz := ?_; wpAny _ aKz _ _ _ _); intro aKz))
  w_strict (repeat' (first
    | (k_unfold; (try dsimp only))
    | ((with_reducible show wpAny _ _ (exec _ _) _ _ _); k_fold) 
    | ((with_reducible show wpAny _ _ (storeName ..) _ _ _); (with_reducible ((k_here; k_dflt (refine storeC_head (by (k_asm)) (by (k_asm)) (by (rfl)) (by (with_reducible assumption)) (by (exact Nat.le_succ _)) (by (k_asm)) ?_ (by (rfl)) (by (rfl)); intro _ _ _ N'z _; (try dsimp only at N'z); (try k_sweep))))))
    | ((with_reducible show wpAny _ _ (exec (Stmt.Assign ..) _) _ _ _); (with_reducible ((k_here; lcf_look; k_dflt (refine LCg.Assign_ListComp_U (F₀ := by k_asm) (by rfl) (by with_unfolding_all rfl) (by with_unfolding_all rfl) (by decide) (by rfl) (by decide) (by rfl) (by rfl) (by rfl) ?_)))))
    | ((with_reducible show LCg.CompSrc ..); ((with_reducible refine unstop ?_)))
    | ((with_reducible show wpAny _ _ (call (Value.builtin _) _ _) _ _ _); ((refine len_I (by k_asm) (by with_reducible assumption) (by ((intro _ h9z; first | exact h9z | ((repeat apply List.Mem.tail); first | exact h9z | ((rename TB _ _ _ _ => tb8z); first | exact tb8z.keep _ h9z | exact tb8z.keep _ (.tail _ h9z) | exact tb8z.keep _ (.tail _ (.tail _ h9z)) | exact tb8z.keep _ (.tail _ (.tail _ (.tail _ h9z)))))))) (by decide) ?_; intro _ _; try dsimp only)))
    | (k_end; wrow_close)
    | walk1
    | (leave1; (try dsimp only))
    | dsimp only))
  delta Stop
  k_dflt refine LCg.CompSrc.range (n := 10) rfl (by k_asm) (by k_asm) (by assumption) (by decide) (by decide) (by decide) fun g => ?_
  rename News _ _ _ _ => nw0
  refine comp_rest (JZ _) ?_ ?_ 10 0 [] _ rfl ⟨[], rfl, rfl, List.nodup_nil, (fun a ha => by simp at ha), fun p hp => hp⟩
  · intro i ys nw v I oI C oC D m₂ h tk E' hi9 hj9 hP hC hx F9 N9 off9 ne9
    have hcel := hj9
    obtain ⟨as9, _, _, _, _, kp9⟩ := hcel
    have hcl9 := kp9 _ (.head _)
    clear nw0 kp9
    w_strict (repeat' (first
      | (k_unfold; (try dsimp only))
      | ((with_reducible show wpAny _ _ (exec _ _) _ _ _); k_fold) 
      | ((with_reducible (((with_reducible show wpAny _ _ (eval (Expr.Name _ _) (compEnvC _ _ _ _)) _ _ _); k_dflt (refine lcf_cell (by (k_asm)) (by (rfl)) (by (((repeat apply List.Mem.tail); assumption))) (by (k_asm)) ?_ (by (rfl)) (by (rfl)))))))
      | ((with_reducible show wpAny _ _ (newList ..) _ _ _); (with_reducible ((k_dflt refine newList_one (by k_asm) (by k_asm) ?_; intro _ _ _ _ _; try dsimp only))))
      | ((with_reducible show wpAny _ _ (binaryOp Operator.Mult (Value.ref _) (Value.int _ _)) _ _ _); (with_reducible ((k_dflt refine mul_ten (by k_asm) (by k_asm) (by k_mem) (by rfl) ?_; intro _ _ _ _ _; try dsimp only))))
      | ((with_reducible show LCg.CompEnd ..); ((with_reducible refine unstop ?_)))
      | (k_end; wrow_close)
      | walk1
      | (leave1; (try dsimp only))
      | dsimp only))
    delta Stop
    k_dflt exact comp_turn (by k_asm) (by k_asm) (by with_reducible assumption) off9 hj9
  · intro ys nw hj9 D h tk F9 N9 off9
    obtain ⟨base9, rs, kp9, tr, tb⟩ := JZ.tb' (c := ys.length) hj9 (off1_mem off9)
    have hcm := kp9 _ (.head _)
    have hl9 := hl.up fun p hp => kp9 p (.tail _ hp)
    have hr9 := hr.up fun p hp => kp9 p (.tail _ hp)
    have hb9 := hb.up fun p hp => kp9 p (.tail _ hp)
    clear hj9 off9 nw0
    dsimp only
    w_strict (repeat' (first
      | (k_unfold; (try dsimp only))
      | ((with_reducible show wpAny _ _ (exec _ _) _ _ _); k_fold) 
      | ((with_reducible show wpAny _ _ (exec (Stmt.For ..) _) _ _ _); (with_reducible (((rename Fr _ _ _ _ => lF'z); (with_unfolding_all refine For_invVF lF'z (by (exact rfl)) (by (exact rfl)) ?_)))))
      | ((with_reducible show wpAny _ _ (call (Value.builtin _) _ _) _ _ _); (with_reducible ((refine len_I (by k_asm) (by with_reducible assumption) (by ((intro _ h9z; first | exact h9z | ((repeat apply List.Mem.tail); first | exact h9z | ((rename TB _ _ _ _ => tb8z); first | exact tb8z.keep _ h9z | exact tb8z.keep _ (.tail _ h9z) | exact tb8z.keep _ (.tail _ (.tail _ h9z)) | exact tb8z.keep _ (.tail _ (.tail _ (.tail _ h9z)))))))) (by decide) ?_; intro _ _; try dsimp only))))
      | ((with_reducible show wpAny _ _ (pyIter ..) _ _ _); ((with_reducible refine unstop ?_)))
      | (k_end; wrow_close)
      | walk1
      | (leave1; (try dsimp only))
      | dsimp only))
    delta Stop
    k_dflt refine range_T (n := 5) (fun _ m => Agree [Str.ofString "i", Str.ofString "j", Str.ofString "k", Str.ofString "weight"] m _) (initT left right b) rfl (by assumption) (by decide) (by decide) (by k_asm) (by k_asm) tb (fun p hp => hp) (Agree.refl _) ?_ ?_
    · intro I1 i1 m1 ti h1 tk1 nw1 it1 hb1 hrs1 hi1 hm1 F1 N1 tb1
      obtain ⟨vi, vj, vk, vw, rfl⟩ := hm1.form4
      w_strict (repeat' (first
        | (k_unfold; (try dsimp only))
        | ((with_reducible show wpAny _ _ (exec _ _) _ _ _); k_fold) 
        | ((with_reducible show wpAny _ _ (exec (Stmt.For ..) _) _ _ _); (with_reducible (((rename Fr _ _ _ _ => lF'z); (with_unfolding_all refine For_invVF lF'z (by (exact rfl)) (by (exact rfl)) ?_)))))
        | ((with_reducible show wpAny _ _ (pyIter ..) _ _ _); ((with_reducible refine unstop ?_)))
        | ((with_reducible show wpAny _ _ (call (Value.builtin _) _ _) _ _ _); ((refine len_I (by k_asm) (by with_reducible assumption) (by ((intro _ h9z; first | exact h9z | ((repeat apply List.Mem.tail); first | exact h9z | ((rename TB _ _ _ _ => tb8z); first | exact tb8z.keep _ h9z | exact tb8z.keep _ (.tail _ h9z) | exact tb8z.keep _ (.tail _ (.tail _ h9z)) | exact tb8z.keep _ (.tail _ (.tail _ (.tail _ h9z)))))))) (by decide) ?_; intro _ _; try dsimp only)))
        | (k_end; wrow_close)
        | walk1
        | (leave1; (try dsimp only))
        | dsimp only))
      delta Stop
      have tr1 : TRow ((I1, it1) :: base9) _ rs := tr.up fun p hp => .tail _ hp
      k_dflt refine range_T (n := 5) (fun _ m => Agree [Str.ofString "j", Str.ofString "k", Str.ofString "weight"] m _) (rowT left right b (0 + (i1 : Int)) (initT left right b i1)) rfl (by assumption) (by decide) (by decide) (by k_asm) (by k_asm) tb1 (by ((intro _ h9z; (repeat apply List.Mem.tail); exact h9z))) (Agree.refl _) ?_ ?_
      · intro I2 j2 m2 tj h2 tk2 nw2 it2 hb2 hrs2 hj2 hm2 F2 N2 tb2
        obtain ⟨vj2, vk2, vw2, rfl⟩ := hm2.form3
        have tr2 : TRow ((I2, it2) :: (I1, it1) :: base9) _ rs := tr1.up fun p hp => .tail _ hp
        dsimp only at F2
        w_strict (repeat' (first
          | (k_unfold; (try dsimp only))
          | ((with_reducible show wpAny _ _ (exec _ _) _ _ _); k_fold) 
          | ((with_reducible show wpAny _ _ (binaryOp Operator.Mult (Value.int _ _) (Value.int _ _)) _ _ _); (with_reducible ((refine mul_int ?_ (by (rename (∀ i j, IntMulOk _ _) => q9z; exact q9z _ _)); try dsimp only))))
          | ((with_reducible show wpAny _ _ (setItem ..) _ _ _); (with_reducible ((refine store_T (by k_asm) (by k_asm) (by with_reducible assumption) (by ((intro _ h9z; (repeat apply List.Mem.tail); exact h9z))) (by lia) (by lia) (by lia) (by lia) (fun _ _ _ _ _ => ?_); try dsimp only))))
          | ((with_reducible show wpAny _ _ (getItem ..) _ _ _); (with_reducible ((refine cellG_T (by k_asm) (by with_reducible assumption) (by ((intro _ h9z; (repeat apply List.Mem.tail); exact h9z))) (by lia) (by lia) (by lia) (by lia) (fun _ => ?_); try dsimp only))))
          | ((with_reducible show wpAny _ _ (subscriptTail ..) _ _ _); (with_reducible (first | (refine row_T (by k_asm) (by with_reducible assumption) (by with_reducible assumption) (by ((intro _ h9z; (repeat apply List.Mem.tail); exact h9z))) (by lia) (by lia) ?_; try dsimp only) | (refine cell_T (by k_asm) (by with_reducible assumption) (by ((intro _ h9z; (repeat apply List.Mem.tail); exact h9z))) (by lia) (by lia) (by lia) (by lia) (fun t9z => ?_); try dsimp only) | (refine item_I (by k_asm) (by with_reducible assumption) (by ((intro _ h9z; first | exact h9z | ((repeat apply List.Mem.tail); first | exact h9z | ((rename TB _ _ _ _ => tb8z); first | exact tb8z.keep _ h9z | exact tb8z.keep _ (.tail _ h9z) | exact tb8z.keep _ (.tail _ (.tail _ h9z)) | exact tb8z.keep _ (.tail _ (.tail _ (.tail _ h9z)))))))) (by decide) (by lia) (by lia) (fun t9z => ?_); try dsimp only) | (refine brow_T (by k_asm) (by with_reducible assumption) (by ((intro _ h9z; first | exact h9z | ((repeat apply List.Mem.tail); first | exact h9z | ((rename TB _ _ _ _ => tb8z); first | exact tb8z.keep _ h9z | exact tb8z.keep _ (.tail _ h9z) | exact tb8z.keep _ (.tail _ (.tail _ h9z)) | exact tb8z.keep _ (.tail _ (.tail _ (.tail _ h9z)))))))) (by lia) (by lia) (fun _ _ _ _ _ _ => ?_); try dsimp only) | (refine bcell_T (by k_asm) (by with_reducible assumption) (by ((intro _ h9z; first | exact h9z | ((repeat apply List.Mem.tail); first | exact h9z | ((rename TB _ _ _ _ => tb8z); first | exact tb8z.keep _ h9z | exact tb8z.keep _ (.tail _ h9z) | exact tb8z.keep _ (.tail _ (.tail _ h9z)) | exact tb8z.keep _ (.tail _ (.tail _ (.tail _ h9z)))))))) (by with_reducible assumption) (by with_reducible assumption) (by lia) (by lia) ?_; try dsimp only))))
          | ((with_reducible show UnrEnd ..); ((with_reducible refine unstop ?_)))
          | ((with_reducible show wpAny _ _ (call (Value.builtin _) _ _) _ _ _); ((refine len_I (by k_asm) (by with_reducible assumption) (by ((intro _ h9z; first | exact h9z | ((repeat apply List.Mem.tail); first | exact h9z | ((rename TB _ _ _ _ => tb8z); first | exact tb8z.keep _ h9z | exact tb8z.keep _ (.tail _ h9z) | exact tb8z.keep _ (.tail _ (.tail _ h9z)) | exact tb8z.keep _ (.tail _ (.tail _ (.tail _ h9z)))))))) (by decide) ?_; intro _ _; try dsimp only)))
          | ((with_reducible show wpAny _ _ (subscriptTail ..) _ _ _); (first | (refine row_T (by k_asm) (by with_reducible assumption) (by with_reducible assumption) (by ((intro _ h9z; (repeat apply List.Mem.tail); exact h9z))) (by lia) (by lia) ?_; try dsimp only) | (refine cell_T (by k_asm) (by with_reducible assumption) (by ((intro _ h9z; (repeat apply List.Mem.tail); exact h9z))) (by lia) (by lia) (by lia) (by lia) (fun t9z => ?_); try dsimp only) | (refine item_I (by k_asm) (by with_reducible assumption) (by ((intro _ h9z; first | exact h9z | ((repeat apply List.Mem.tail); first | exact h9z | ((rename TB _ _ _ _ => tb8z); first | exact tb8z.keep _ h9z | exact tb8z.keep _ (.tail _ h9z) | exact tb8z.keep _ (.tail _ (.tail _ h9z)) | exact tb8z.keep _ (.tail _ (.tail _ (.tail _ h9z)))))))) (by decide) (by lia) (by lia) (fun t9z => ?_); try dsimp only) | (refine brow_T (by k_asm) (by with_reducible assumption) (by ((intro _ h9z; first | exact h9z | ((repeat apply List.Mem.tail); first | exact h9z | ((rename TB _ _ _ _ => tb8z); first | exact tb8z.keep _ h9z | exact tb8z.keep _ (.tail _ h9z) | exact tb8z.keep _ (.tail _ (.tail _ h9z)) | exact tb8z.keep _ (.tail _ (.tail _ (.tail _ h9z)))))))) (by lia) (by lia) (fun _ _ _ _ _ _ => ?_); try dsimp only) | (refine bcell_T (by k_asm) (by with_reducible assumption) (by ((intro _ h9z; first | exact h9z | ((repeat apply List.Mem.tail); first | exact h9z | ((rename TB _ _ _ _ => tb8z); first | exact tb8z.keep _ h9z | exact tb8z.keep _ (.tail _ h9z) | exact tb8z.keep _ (.tail _ (.tail _ h9z)) | exact tb8z.keep _ (.tail _ (.tail _ (.tail _ h9z)))))))) (by with_reducible assumption) (by with_reducible assumption) (by lia) (by lia) ?_; try dsimp only)))
          | (k_end; wrow_close)
          | walk1
          | (leave1; (try dsimp only))
          | dsimp only))
        · delta Stop
          k_dflt refine turn_end (by k_asm) (by k_asm) (by with_reducible assumption) (by ((intro _ h9z; (repeat apply List.Mem.tail); exact h9z))) hb2 ?_ ?_
          · intro y9 hy9
            simp only [List.mem_cons, List.not_mem_nil, or_false, not_or] at hy9
            obtain ⟨q1, q2, q3⟩ := hy9
            repeat (first | (with_reducible exact rfl) | refine (if_neg q1).trans ?_ | refine (if_neg q2).trans ?_ | refine (if_neg q3).trans ?_)
          · rename b _ _ = true => q9
            exact (stepT_pos q9).symm
        · delta Stop
          k_dflt refine turn_end (by k_asm) (by k_asm) (by with_reducible assumption) (by ((intro _ h9z; (repeat apply List.Mem.tail); exact h9z))) hb2 ?_ ?_
          · intro y9 hy9
            simp only [List.mem_cons, List.not_mem_nil, or_false, not_or] at hy9
            obtain ⟨q1, q2, q3⟩ := hy9
            repeat (first | (with_reducible exact rfl) | refine (if_neg q1).trans ?_ | refine (if_neg q2).trans ?_ | refine (if_neg q3).trans ?_)
          · rename b _ _ = false => q9
            exact (stepT_neg q9).symm
      · intro h3 tk3 m3 nw3 hm3 F3 N3 tb3
        clear tb1
        dsimp only
        w_strict (repeat' (first
          | (k_unfold; (try dsimp only))
          | ((with_reducible show wpAny _ _ (exec _ _) _ _ _); k_fold) 
          | ((with_reducible show UnrEnd ..); ((with_reducible refine unstop ?_)))
          | (k_end; wrow_close)
          | walk1
          | (leave1; (try dsimp only))
          | dsimp only))
        delta Stop
        k_dflt refine turn_end (by k_asm) (by k_asm) (by with_reducible assumption) (by ((intro _ h9z; (repeat apply List.Mem.tail); exact h9z))) hb1 ?_ ?_
        · intro y9 hy9
          simp only [List.mem_cons, List.not_mem_nil, or_false, not_or] at hy9
          obtain ⟨q0, q1, q2, q3⟩ := hy9
          rw [hm3 y9 (by simp [q1, q2, q3])]
          repeat (first | (with_reducible exact rfl) | refine (if_neg q0).trans ?_ | refine (if_neg q1).trans ?_ | refine (if_neg q2).trans ?_ | refine (if_neg q3).trans ?_)
        · exact initT_next
    · intro h3 tk3 m3 nw3 hm3 F3 N3 tb3
      obtain ⟨vi, vj, vk, vw, rfl⟩ := hm3.form4
      clear tb
      rw [hT5] at tb3
      have hcn := tb3.keep _ hcm
      dsimp only at F3 ⊢
      w_strict (repeat' (first
        | (k_unfold; (try dsimp only))
        | ((with_reducible show wpAny _ _ (exec _ _) _ _ _); k_fold) 
        | ((with_reducible show wpAny _ _ (exec (Stmt.For ..) _) _ _ _); (with_reducible (((rename Fr _ _ _ _ => lF'z); (with_unfolding_all refine For_invVF lF'z (by (exact rfl)) (by (exact rfl)) ?_)))))
        | ((with_reducible (((with_reducible show wpAny _ _ (eval (Expr.Name (Str.ofString "size") _) (envOfC _ _ _ _ _)) _ _ _); k_dflt (refine nameX_C (by (k_asm)) (by (rfl)) (by (((repeat apply List.Mem.tail); exact hcn))) (by (k_asm)) ?_ (by (rfl)) (by (rfl)))))))
        | ((with_reducible show wpAny _ _ (pyIter ..) _ _ _); ((with_reducible refine unstop ?_)))
        | (k_end; wrow_close)
        | walk1
        | (leave1; (try dsimp only))
        | dsimp only))
      delta Stop
      k_dflt refine range_T (n := 8) (fun k m => Agree [Str.ofString "k", Str.ofString "head", Str.ofString "i", Str.ofString "j", Str.ofString "before"] m _ ∧ ∃ t, m (Str.ofString "before") = some (.int (barK T5 k).2 t)) (fun k => (barK T5 k).1) rfl (by assumption) (by decide) (by decide) (by k_asm) (by k_asm) (show TB base9 nw3 rs (barK T5 0).1 from tb3) (by ((intro _ h9z; (repeat apply List.Mem.tail); exact h9z))) ⟨Agree.refl _, ?_⟩ ?_ ?_
      · exact ⟨_, rfl⟩
      · intro I1 k1 m1 ti h1 tk1 nw1 it1 hb1 hrs1 hk1 hm1 F1 N1 tb1
        obtain ⟨hm1, tbf, hbf⟩ := hm1
        obtain ⟨vk, vh, vi, vj, rfl⟩ := hm1.form5 hbf
        have tr1 : TRow ((I1, it1) :: base9) _ rs := tr.up fun p hp => .tail _ hp
        have hz1 := hz k1 hk1
        have hcn := tb1.keep _ (.tail _ hcm)
        have hd1 := (hdv k1 (Nat.le_of_lt hk1)).1
        have hd2 := (hdv k1 (Nat.le_of_lt hk1)).2
        have hb1' := hbd k1 hk1
        have hnx : barK T5 (k1 + 1) = (barI ((barK T5 k1).1 (0 + (k1 : Int)) (0 + (k1 : Int))) (barK T5 k1).2 (0 + (k1 : Int)) (8 - k1) (barK T5 k1).1 (8 - k1), (barK T5 k1).1 (0 + (k1 : Int)) (0 + (k1 : Int))) := rfl
        generalize barK T5 (k1 + 1) = KN at *
        dsimp only at F1
        clear hz hdv hbd hbf hm1
        generalize barK T5 k1 = KK at *
        obtain ⟨Tk, bf⟩ := KK
        dsimp only at *
        w_strict (repeat' (first
          | (k_unfold; (try dsimp only))
          | ((with_reducible show wpAny _ _ (exec _ _) _ _ _); k_fold) 
          | ((with_reducible show wpAny _ _ (compareOp CmpOp.Eq (Value.int _ _) (Value.int _ _)) _ _ _); (with_reducible ((refine eqI_f (by with_reducible assumption) ?_))))
          | ((with_reducible show wpAny _ _ (exec (Stmt.For ..) _) _ _ _); (with_reducible (((rename Fr _ _ _ _ => lF'z); (with_unfolding_all refine For_invVF lF'z (by (exact rfl)) (by (exact rfl)) ?_)))))
          | ((with_reducible (((with_reducible show wpAny _ _ (eval (Expr.Name (Str.ofString "size") _) (envOfC _ _ _ _ _)) _ _ _); k_dflt (refine nameX_C (by (k_asm)) (by (rfl)) (by (((repeat apply List.Mem.tail); exact hcn))) (by (k_asm)) ?_ (by (rfl)) (by (rfl)))))))
          | ((with_reducible show wpAny _ _ (subscriptTail ..) _ _ _); (with_reducible (first | (refine row_T (by k_asm) (by with_reducible assumption) (by with_reducible assumption) (by ((intro _ h9z; (repeat apply List.Mem.tail); exact h9z))) (by lia) (by lia) ?_; try dsimp only) | (refine cell_T (by k_asm) (by with_reducible assumption) (by ((intro _ h9z; (repeat apply List.Mem.tail); exact h9z))) (by lia) (by lia) (by lia) (by lia) (fun t9z => ?_); try dsimp only) | (refine item_I (by k_asm) (by with_reducible assumption) (by ((intro _ h9z; first | exact h9z | ((repeat apply List.Mem.tail); first | exact h9z | ((rename TB _ _ _ _ => tb8z); first | exact tb8z.keep _ h9z | exact tb8z.keep _ (.tail _ h9z) | exact tb8z.keep _ (.tail _ (.tail _ h9z)) | exact tb8z.keep _ (.tail _ (.tail _ (.tail _ h9z)))))))) (by decide) (by lia) (by lia) (fun t9z => ?_); try dsimp only) | (refine brow_T (by k_asm) (by with_reducible assumption) (by ((intro _ h9z; first | exact h9z | ((repeat apply List.Mem.tail); first | exact h9z | ((rename TB _ _ _ _ => tb8z); first | exact tb8z.keep _ h9z | exact tb8z.keep _ (.tail _ h9z) | exact tb8z.keep _ (.tail _ (.tail _ h9z)) | exact tb8z.keep _ (.tail _ (.tail _ (.tail _ h9z)))))))) (by lia) (by lia) (fun _ _ _ _ _ _ => ?_); try dsimp only) | (refine bcell_T (by k_asm) (by with_reducible assumption) (by ((intro _ h9z; first | exact h9z | ((repeat apply List.Mem.tail); first | exact h9z | ((rename TB _ _ _ _ => tb8z); first | exact tb8z.keep _ h9z | exact tb8z.keep _ (.tail _ h9z) | exact tb8z.keep _ (.tail _ (.tail _ h9z)) | exact tb8z.keep _ (.tail _ (.tail _ (.tail _ h9z)))))))) (by with_reducible assumption) (by with_reducible assumption) (by lia) (by lia) ?_; try dsimp only))))
          | ((with_reducible show wpAny _ _ (pyIter ..) _ _ _); ((with_reducible refine unstop ?_)))
          | (k_end; wrow_close)
          | walk1
          | (leave1; (try dsimp only))
          | dsimp only))
        delta Stop
        k_dflt refine range_T (n := 8 - k1) (fun _ m => Agree [Str.ofString "i", Str.ofString "j"] m _) (barI (Tk (0 + (k1 : Int)) (0 + (k1 : Int))) bf (0 + (k1 : Int)) (8 - k1) Tk) rfl (by assumption) (rg_small k1 hk1) (rg_size k1 hk1) (by k_asm) (by k_asm) (show TB _ _ rs (barI (Tk (0 + (k1 : Int)) (0 + (k1 : Int))) bf (0 + (k1 : Int)) (8 - k1) Tk 0) from tb1) (by ((intro _ h9z; (repeat apply List.Mem.tail); exact h9z))) (Agree.refl _) ?_ ?_
        · intro I2 i2 m2 tj h2 tk2 nw2 it2 hb2 hrs2 hi2 hm2 F2 N2 tb2
          obtain ⟨vi2, vj2, rfl⟩ := hm2.form2
          have tr2 : TRow ((I2, it2) :: (I1, it1) :: base9) _ rs := tr1.up fun p hp => .tail _ hp
          dsimp only at F2
          have hcn := tb2.keep _ (.tail _ (.tail _ hcm))
          w_strict (repeat' (first
            | (k_unfold; (try dsimp only))
            | ((with_reducible show wpAny _ _ (exec _ _) _ _ _); k_fold) 
            | ((with_reducible show wpAny _ _ (exec (Stmt.For ..) _) _ _ _); (with_reducible (((rename Fr _ _ _ _ => lF'z); (with_unfolding_all refine For_invVF lF'z (by (exact rfl)) (by (exact rfl)) ?_)))))
            | ((with_reducible (((with_reducible show wpAny _ _ (eval (Expr.Name (Str.ofString "size") _) (envOfC _ _ _ _ _)) _ _ _); k_dflt (refine nameX_C (by (k_asm)) (by (rfl)) (by (((repeat apply List.Mem.tail); exact hcn))) (by (k_asm)) ?_ (by (rfl)) (by (rfl)))))))
            | ((with_reducible show wpAny _ _ (pyIter ..) _ _ _); ((with_reducible refine unstop ?_)))
            | (k_end; wrow_close)
            | walk1
            | (leave1; (try dsimp only))
            | dsimp only))
          delta Stop
          k_dflt refine range_T (n := 8 - k1) (fun _ m => Agree [Str.ofString "j"] m _) (barJ (Tk (0 + (k1 : Int)) (0 + (k1 : Int))) bf (0 + (k1 : Int)) (0 + (k1 : Int) + 1 + (i2 : Int)) (barI (Tk (0 + (k1 : Int)) (0 + (k1 : Int))) bf (0 + (k1 : Int)) (8 - k1) Tk i2)) rfl (by assumption) (rg_small k1 hk1) (rg_size k1 hk1) (by k_asm) (by k_asm) tb2 (by ((intro _ h9z; (repeat apply List.Mem.tail); exact h9z))) (Agree.refl _) ?_ ?_
          · intro I3 j3 m3 tj3 h3 tk3 nw3 it3 hb3 hrs3 hj3 hm3 F3 N3 tb3
            obtain ⟨vj3, rfl⟩ := hm3.form1
            have tr3 : TRow ((I3, it3) :: (I2, it2) :: (I1, it1) :: base9) _ rs := tr2.up fun p hp => .tail _ hp
            have hmA := hb1' i2 j3 (8 - k1) (by lia) (by lia) (by lia)
            dsimp only at F3
            generalize hG : barJ (Tk (0 + (k1 : Int)) (0 + (k1 : Int))) bf (0 + (k1 : Int)) (0 + (k1 : Int) + 1 + (i2 : Int)) (barI (Tk (0 + (k1 : Int)) (0 + (k1 : Int))) bf (0 + (k1 : Int)) (8 - k1) Tk i2) j3 = G3 at *
            w_strict (repeat' (first
              | (k_unfold; (try dsimp only))
              | ((with_reducible show wpAny _ _ (exec _ _) _ _ _); k_fold) 
              | ((with_reducible show wpAny _ _ (binaryOp Operator.FloorDiv (Value.int _ _) (Value.int _ _)) _ _ _); (with_reducible ((refine floordiv_int (by with_reducible assumption) ?_ (Or.inl (PyProof.noPylong_of_log2 (by with_reducible assumption))); try dsimp only))))
              | ((with_reducible show wpAny _ _ (binaryOp Operator.Mult (Value.int _ _) (Value.int _ _)) _ _ _); (with_reducible ((refine mul_int ?_ (hmA _ _ _ _).2; try dsimp only))))
              | ((with_reducible show wpAny _ _ (binaryOp Operator.Mult (Value.int _ _) (Value.int _ _)) _ _ _); (with_reducible ((refine mul_int ?_ (hmA _ _ _ _).1; try dsimp only))))
              | ((with_reducible show wpAny _ _ (setItem ..) _ _ _); (with_reducible ((refine store_T (by k_asm) (by k_asm) (by with_reducible assumption) (by ((intro _ h9z; (repeat apply List.Mem.tail); exact h9z))) (by lia) (by lia) (by lia) (by lia) (fun _ _ _ _ _ => ?_); try dsimp only))))
              | ((with_reducible show wpAny _ _ (subscriptTail ..) _ _ _); (with_reducible (first | (refine row_T (by k_asm) (by with_reducible assumption) (by with_reducible assumption) (by ((intro _ h9z; (repeat apply List.Mem.tail); exact h9z))) (by lia) (by lia) ?_; try dsimp only) | (refine cell_T (by k_asm) (by with_reducible assumption) (by ((intro _ h9z; (repeat apply List.Mem.tail); exact h9z))) (by lia) (by lia) (by lia) (by lia) (fun t9z => ?_); try dsimp only) | (refine item_I (by k_asm) (by with_reducible assumption) (by ((intro _ h9z; first | exact h9z | ((repeat apply List.Mem.tail); first | exact h9z | ((rename TB _ _ _ _ => tb8z); first | exact tb8z.keep _ h9z | exact tb8z.keep _ (.tail _ h9z) | exact tb8z.keep _ (.tail _ (.tail _ h9z)) | exact tb8z.keep _ (.tail _ (.tail _ (.tail _ h9z)))))))) (by decide) (by lia) (by lia) (fun t9z => ?_); try dsimp only) | (refine brow_T (by k_asm) (by with_reducible assumption) (by ((intro _ h9z; first | exact h9z | ((repeat apply List.Mem.tail); first | exact h9z | ((rename TB _ _ _ _ => tb8z); first | exact tb8z.keep _ h9z | exact tb8z.keep _ (.tail _ h9z) | exact tb8z.keep _ (.tail _ (.tail _ h9z)) | exact tb8z.keep _ (.tail _ (.tail _ (.tail _ h9z)))))))) (by lia) (by lia) (fun _ _ _ _ _ _ => ?_); try dsimp only) | (refine bcell_T (by k_asm) (by with_reducible assumption) (by ((intro _ h9z; first | exact h9z | ((repeat apply List.Mem.tail); first | exact h9z | ((rename TB _ _ _ _ => tb8z); first | exact tb8z.keep _ h9z | exact tb8z.keep _ (.tail _ h9z) | exact tb8z.keep _ (.tail _ (.tail _ h9z)) | exact tb8z.keep _ (.tail _ (.tail _ (.tail _ h9z)))))))) (by with_reducible assumption) (by with_reducible assumption) (by lia) (by lia) ?_; try dsimp only))))
              | ((with_reducible show UnrEnd ..); ((with_reducible refine unstop ?_)))
              | (k_end; wrow_close)
              | walk1
              | (leave1; (try dsimp only))
              | dsimp only))
            delta Stop
            k_dflt refine turn_end (by k_asm) (by k_asm) (by with_reducible assumption) (by ((intro _ h9z; (repeat apply List.Mem.tail); exact h9z))) hb3 ?_ ?_
            · intro y9 hy9
              simp only [List.mem_cons, List.not_mem_nil, or_false, not_or] at hy9
              repeat (first | (with_reducible exact rfl) | refine (if_neg hy9).trans ?_)
            · subst hG; rfl
          · intro h3 tk3 m3 nw3 hm3 F3 N3 tb3
            clear tb2
            dsimp only
            w_strict (repeat' (first
              | (k_unfold; (try dsimp only))
              | ((with_reducible show wpAny _ _ (exec _ _) _ _ _); k_fold) 
              | ((with_reducible show UnrEnd ..); ((with_reducible refine unstop ?_)))
              | (k_end; wrow_close)
              | walk1
              | (leave1; (try dsimp only))
              | dsimp only))
            delta Stop
            k_dflt refine turn_end (by k_asm) (by k_asm) (by with_reducible assumption) (by ((intro _ h9z; (repeat apply List.Mem.tail); exact h9z))) hb2 ?_ ?_
            · intro y9 hy9
              simp only [List.mem_cons, List.not_mem_nil, or_false, not_or] at hy9
              obtain ⟨q0, q1⟩ := hy9
              rw [hm3 y9 (by simp [q1])]
              repeat (first | (with_reducible exact rfl) | refine (if_neg q0).trans ?_ | refine (if_neg q1).trans ?_)
            · rfl
        · intro h3 tk3 m3 nw3 hm3 F3 N3 tb3
          obtain ⟨vi3, vj3, rfl⟩ := hm3.form2
          clear tb1
          dsimp only at F3 ⊢
          w_strict (repeat' (first
            | (k_unfold; (try dsimp only))
            | ((with_reducible show wpAny _ _ (exec _ _) _ _ _); k_fold) 
            | ((with_reducible show UnrEnd ..); ((with_reducible refine unstop ?_)))
            | (k_end; wrow_close)
            | walk1
            | (leave1; (try dsimp only))
            | dsimp only))
          delta Stop
          k_dflt refine turn_end (by k_asm) (by k_asm) (by with_reducible assumption) (by ((intro _ h9z; (repeat apply List.Mem.tail); exact h9z))) hb1 ⟨?_, ?_⟩ ?_
          · intro y9 hy9
            simp only [List.mem_cons, List.not_mem_nil, or_false, not_or] at hy9
            obtain ⟨q0, q1, q2, q3, q4⟩ := hy9
            repeat (first | (with_reducible exact rfl) | refine (if_neg q0).trans ?_ | refine (if_neg q1).trans ?_ | refine (if_neg q2).trans ?_ | refine (if_neg q3).trans ?_ | refine (if_neg q4).trans ?_)
          · rw [hnx]; exact ⟨_, rfl⟩
          · rw [hnx]
      · intro h3 tk3 m3 nw3 hm3 F3 N3 tb3
        obtain ⟨hm3, tbf, hbf⟩ := hm3
        obtain ⟨vk, vh, vi, vj, rfl⟩ := hm3.form5 hbf
        clear hz hdv hbd hbf hm3
        generalize barK T5 8 = KK at *
        have hcn := tb3.keep _ hcm
        dsimp only at *
        w_strict (repeat' (first
          | (k_unfold; (try dsimp only))
          | ((with_reducible show wpAny _ _ (exec _ _) _ _ _); k_fold) 
          | ((with_reducible (((with_reducible show wpAny _ _ (eval (Expr.Name (Str.ofString "size") _) (envOfC _ _ _ _ _)) _ _ _); k_dflt (refine nameX_C (by (k_asm)) (by (rfl)) (by (((repeat apply List.Mem.tail); exact hcn))) (by (k_asm)) ?_ (by (rfl)) (by (rfl)))))))
          | ((with_reducible show wpAny _ _ (subscriptTail ..) _ _ _); (with_reducible (first | (refine row_T (by k_asm) (by with_reducible assumption) (by with_reducible assumption) (by ((intro _ h9z; (repeat apply List.Mem.tail); exact h9z))) (by lia) (by lia) ?_; try dsimp only) | (refine cell_T (by k_asm) (by with_reducible assumption) (by ((intro _ h9z; (repeat apply List.Mem.tail); exact h9z))) (by lia) (by lia) (by lia) (by lia) (fun t9z => ?_); try dsimp only) | (refine item_I (by k_asm) (by with_reducible assumption) (by ((intro _ h9z; first | exact h9z | ((repeat apply List.Mem.tail); first | exact h9z | ((rename TB _ _ _ _ => tb8z); first | exact tb8z.keep _ h9z | exact tb8z.keep _ (.tail _ h9z) | exact tb8z.keep _ (.tail _ (.tail _ h9z)) | exact tb8z.keep _ (.tail _ (.tail _ (.tail _ h9z)))))))) (by decide) (by lia) (by lia) (fun t9z => ?_); try dsimp only) | (refine brow_T (by k_asm) (by with_reducible assumption) (by ((intro _ h9z; first | exact h9z | ((repeat apply List.Mem.tail); first | exact h9z | ((rename TB _ _ _ _ => tb8z); first | exact tb8z.keep _ h9z | exact tb8z.keep _ (.tail _ h9z) | exact tb8z.keep _ (.tail _ (.tail _ h9z)) | exact tb8z.keep _ (.tail _ (.tail _ (.tail _ h9z)))))))) (by lia) (by lia) (fun _ _ _ _ _ _ => ?_); try dsimp only) | (refine bcell_T (by k_asm) (by with_reducible assumption) (by ((intro _ h9z; first | exact h9z | ((repeat apply List.Mem.tail); first | exact h9z | ((rename TB _ _ _ _ => tb8z); first | exact tb8z.keep _ h9z | exact tb8z.keep _ (.tail _ h9z) | exact tb8z.keep _ (.tail _ (.tail _ h9z)) | exact tb8z.keep _ (.tail _ (.tail _ (.tail _ h9z)))))))) (by with_reducible assumption) (by with_reducible assumption) (by lia) (by lia) ?_; try dsimp only))))
          | (k_end; wrow_close)
          | walk1
          | (leave1; (try dsimp only))
          | dsimp only))
        all_goals exact hret _ news _ _ (by k_asm) (fun p9 hp9 => ⟨(N3 p9 (tb3.keep _ (kp9 p9 (.tail _ hp9)))).1, (N p9 hp9).2⟩) ⟨_, rfl, rfl⟩
end Mine
end

section
open PySem PySem.W PyProof.Rows PySem.Calls
set_option Elab.async false
set_option maxRecDepth 100000
set_option maxHeartbeats 8000000
namespace Mine
variable {w : World} {p : Program} {loose : List Str} {mean : ExcName → Option Value} {mg mb : Str → Option Value}
theorem trees_con (l r jn : Addr) (left right sp : Int → Int) (b : Int → Int → Bool) (news : Led) (hl : IntsIn news l 5 left) (hr : IntsIn news r 5 right) (hb : BoolsIn news jn b)
    (hs : ∀ i, 0 ≤ i → i < 5 → 1 ≤ sp i ∧ sp i ≤ 5) (hbs : ∀ i j, 0 ≤ i → i < 5 → 0 ≤ j → j < 5 → b i j = decide (j < sp i)) (h0 : sp 0 = 5)
    (pl : ∀ i, 0 ≤ i → i < 5 → 0 < left i) (pr : ∀ i, 0 ≤ i → i < 5 → 0 < right i) (bl : ∀ i, 0 ≤ left i ∧ left i ≤ 320) (br : ∀ i, 0 ≤ right i ∧ right i ≤ 320) :
    Con w p loose mean mg mb 127 [.ref l, .ref r, .ref jn] news 4 32 (fun x n' => ∃ t, x = .int ((right 0 * right 1 * right 2 * right 3 * right 4) * (left 0 * left 1 * left 2 * left 3 * left 4) * (rho right (sp 1) * rho right (sp 2) * rho right (sp 3) * rho right (sp 4)) *
      (Cx (Ls left sp 5) 1 * Cx (Ls left sp 5) 2 * Cx (Ls left sp 5) 3 * Cx (Ls left sp 5) 4)) t ∧ news = n') := by
  obtain ⟨m1, m2, m3⟩ := trees_math hs hbs h0 pl pr
  have hT := initT_bits (b := b) bl br
  rw [← m3]
  exact tr_con l r jn left right b news hl hr hb (fun i j => mul_ok bl i j) (initT left right b 5) rfl m1 (fun k hk => ⟨m2 k hk, barK_log hT k hk⟩) (fun k hk i j n _ _ _ a b' c d => barK_mul hT k hk i j n a b' c d)
end Mine
end

section
open PySem PySem.W PyProof.Rows PySem.Calls
set_option Elab.async false
set_option maxRecDepth 100000
set_option maxHeartbeats 8000000
namespace Mine
theorem News.sub {h₀ h : Heap} {L : Addr} {l l' : Led} (N : News h₀ L h l) (s : ∀ p ∈ l', p ∈ l) : News h₀ L h l' := fun p hp => N p (s p hp)
noncomputable abbrev Col4 := Int × Int × Int × Int
noncomputable def ColAt (nw : Led) (a : Addr) (c : Col4) : Prop := ∃ t1 t2 t3 t4, (a, tupO [.int c.1 t1, .int c.2.1 t2, .int c.2.2.1 t3, .int c.2.2.2 t4]) ∈ nw
noncomputable def ColOk (c : Col4) : Prop := (0 ≤ c.1 ∧ c.1 < 64) ∧ (0 ≤ c.2.1 ∧ c.2.1 ≤ 4) ∧ (1 ≤ c.2.2.1 ∧ c.2.2.1 ≤ 64) ∧ (0 ≤ c.2.2.2 ∧ c.2.2.2 ≤ 2)
theorem ColAt.up {nw nw' : Led} {a : Addr} {c : Col4} (h : ColAt nw a c) (s : ∀ p ∈ nw, p ∈ nw') : ColAt nw' a c := by
  obtain ⟨t1, t2, t3, t4, h⟩ := h; exact ⟨t1, t2, t3, t4, s _ h⟩
theorem snoc_get {α : Type} {xs : List α} {y z : α} {k : Nat} (h : (xs ++ [y])[k]? = some z) : xs[k]? = some z ∨ (k = xs.length ∧ z = y) := by
  rw [List.getElem?_append] at h
  split at h
  · exact .inl h
  · rename_i hk
    right
    have : k - xs.length = 0 := by
      by_cases q : k - xs.length = 0
      · exact q
      · rw [List.getElem?_eq_none (by simp; lia)] at h; cases h
    rw [this] at h
    simp at h
    exact ⟨by lia, h.symm⟩
noncomputable def JG (R : Led → Nat → Value → Prop) (base : Led) (i : Nat) (ys : List Value) (nw : Led) : Prop := ys.length = i ∧ (∀ (k : Nat) (v : Value), ys[k]? = some v → R nw k v) ∧ ∀ p ∈ base, p ∈ nw
theorem JG.nil (R : Led → Nat → Value → Prop) (base : Led) : JG R base 0 [] base := ⟨rfl, fun k v h => by simp at h, fun p h => h⟩
theorem JG.next {R : Led → Nat → Value → Prop} {base nw nw' : Led} {i : Nat} {ys : List Value} {v : Value} (h : JG R base i ys nw) (hv : R nw' i v) (mono : ∀ k v, R nw k v → R nw' k v) (sub : ∀ p ∈ nw, p ∈ nw') : JG R base (i + 1) (ys ++ [v]) nw' := by
  obtain ⟨h1, h2, h3⟩ := h
  refine ⟨by simp [h1], fun k u e => ?_, fun p hp => sub _ (h3 p hp)⟩
  rcases snoc_get e with e | ⟨rfl, rfl⟩
  · exact mono k u (h2 k u e)
  · rw [h1]; exact hv
noncomputable def IsCol (nw : Led) (_ : Nat) (v : Value) : Prop := ∃ a c, v = .ref a ∧ ColAt nw a c ∧ ColOk c
theorem IsCol.up {nw nw' : Led} (s : ∀ p ∈ nw, p ∈ nw') (k : Nat) (v : Value) (h : IsCol nw k v) : IsCol nw' k v := by
  obtain ⟨a, c, e, h1, h2⟩ := h; exact ⟨a, c, e, h1.up s, h2⟩
theorem comp_end {h₀ h' : Heap} {L I C D : Addr} {m : Str → Option Value} {s₁ : Shared} {oI oC oD : Obj} {tk : Nat} {S : Led → Prop} {R : Value → Led → Prop} {all nw new : Led} {y : Value} (F : Fr h₀ L h' m) (N : News h₀ L h' all)
    (sub : ∀ p ∈ (I, oI) :: (C, oC) :: (D, oD) :: new, p ∈ all) (hoff : LCg.Off3 I C D new) (hS : S new) (hR : R y new) :
    LCg.CompEnd h₀ L m s₁ I oI C oC D oD S R y { s₁ with heap := h', toks := tk } := LCg.CompEnd.intro F N new sub hoff hS hR
theorem len_led {prog : Program} {w : World} {A : Around} {E : Value → Shared → Prop} {s : Shared} {h₀ : Heap} {L : Addr} {news : Led} {l : Addr} {vs : List Value} {c : Nat} {Q : Value → Shared → Prop} (N : News h₀ L s.heap news) (hm : (l, listO vs c) ∈ news) (hfit : vs.length < 1000)
    (h : ∀ t tk, Q (.int (vs.length : Int) t) { s with toks := tk }) : wpAny (model prog w) A (call (.builtin "len") [.ref l]) Q E s := by
  have hL : s.heap.IsList l vs.toArray := ⟨_, (N _ hm).1, rfl, c, rfl⟩
  refine len_list hL (by rw [List.size_toArray]; lia) ?_
  rw [List.size_toArray]; exact h _ _
theorem src_n {prog : Program} {w : World} {A : Around} {h₀ : Heap} {L : Addr} {m : Str → Option Value} {env : Env} {elt : Expr} {x : Str} {scope : Scope} {cl : List (Str × Addr)} {Fin : Shared → List Value → Led → Prop} {ax : Addr} {vs : List Value} {k n : Nat} {news : Led} {s₁ : Shared}
    (hn : vs.length = n) (hfit : n < 1000) (hh : A.handled = none) (F : Fr h₀ L s₁.heap m) (N : News h₀ L s₁.heap news) (hm : (ax, listO vs k) ∈ news)
    (h : ∀ g, LCg.CompRest prog w A h₀ L m env elt x scope cl { s₁ with heap := g } (LCg.SrcAt h₀ ax vs.toArray) (fun i v => vs[i]? = some v) (Fin { s₁ with heap := g }) n 0 [] news) :
    LCg.CompSrc prog w A h₀ L m env elt x scope cl Fin (.ref ax) s₁ := by
  subst hn
  refine LCg.CompSrc.ledger hh F N hm (by rw [List.size_toArray, sizeLine_eq]; lia) fun g => ?_
  have := h g
  simpa using this

theorem comp_new {h₀ h' : Heap} {L I C D a : Addr} {m : Str → Option Value} {s₁ : Shared} {o oI oC oD : Obj} {tk : Nat} {S : Led → Prop} {R : Value → Led → Prop} {nw : Led} {y : Value} (F : Fr h₀ L h' m) (N : News h₀ L h' ((a, o) :: (I, oI) :: (C, oC) :: (D, oD) :: nw))
    (l1 : ∀ q ∈ (I, oI) :: (C, oC) :: (D, oD) :: nw, q.1 < a) (off : LCg.Off3 I C D nw) (hS : S ((a, o) :: nw)) (hR : R y ((a, o) :: nw)) : LCg.CompEnd h₀ L m s₁ I oI C oC D oD S R y { s₁ with heap := h', toks := tk } := by
  refine LCg.CompEnd.intro F N ((a, o) :: nw) (fun p hp => ?_) ⟨⟨?_, ?_, ?_⟩, off⟩ hS hR
  · rcases List.mem_cons.mp hp with rfl | hp
    · exact .tail _ (.head _)
    · rcases List.mem_cons.mp hp with rfl | hp
      · exact .tail _ (.tail _ (.head _))
      · rcases List.mem_cons.mp hp with rfl | hp
        · exact .tail _ (.tail _ (.tail _ (.head _)))
        · rcases List.mem_cons.mp hp with rfl | hp
          · exact .head _
          · exact .tail _ (.tail _ (.tail _ (.tail _ hp)))
  · exact Ne.symm (Nat.ne_of_lt (l1 (I, oI) (.head _)))
  · exact Ne.symm (Nat.ne_of_lt (l1 (C, oC) (.tail _ (.head _))))
  · exact Ne.symm (Nat.ne_of_lt (l1 (D, oD) (.tail _ (.tail _ (.head _)))))
theorem comp_val {h₀ h' : Heap} {L I C D : Addr} {m : Str → Option Value} {s₁ : Shared} {oI oC oD : Obj} {tk : Nat} {S : Led → Prop} {R : Value → Led → Prop} {nw all : Led} {y : Value} (F : Fr h₀ L h' m) (N : News h₀ L h' all)
    (sub : ∀ p ∈ (I, oI) :: (C, oC) :: (D, oD) :: nw, p ∈ all) (off : LCg.Off3 I C D nw) (hS : S nw) (hR : R y nw) : LCg.CompEnd h₀ L m s₁ I oI C oC D oD S R y { s₁ with heap := h', toks := tk } := LCg.CompEnd.intro F N nw sub off hS hR
theorem colOk_of (x : Int) : ColOk (x % 64, x / 64 % 5, x / 320 % 64 + 1, x / 20480 % 3) := by
  unfold ColOk; refine ⟨⟨?_, ?_⟩, ⟨?_, ?_⟩, ⟨?_, ?_⟩, ⟨?_, ?_⟩⟩ <;> dsimp only <;> lia
theorem JG.col {base nw : Led} {n : Nat} {ys : List Value} (h : JG IsCol base n ys nw) (k : Nat) (hk : k < n) : ∃ a c, ys[k]? = some (.ref a) ∧ ColAt nw a c ∧ ColOk c := by
  obtain ⟨h1, h2, _⟩ := h
  have e := List.getElem?_eq_getElem (show k < ys.length by lia)
  obtain ⟨a, c, e1, e2, e3⟩ := h2 k _ e
  exact ⟨a, c, e.trans (congrArg some e1), e2, e3⟩
theorem cons_of {α : Type} {ys : List α} {n : Nat} {a : α} (h : ys.length = n + 1) (e : ys[0]? = some a) : ∃ r, ys = a :: r ∧ r.length = n := by
  cases ys with
  | nil => exact absurd h (Nat.succ_ne_zero n).symm
  | cons b r => exact ⟨r, by rw [Option.some.inj e], Nat.succ.inj h⟩
theorem list8 {ys : List Value} {a0 a1 a2 a3 a4 a5 a6 a7 : Value} (h : ys.length = 8) (e0 : ys[0]? = some a0) (e1 : ys[1]? = some a1) (e2 : ys[2]? = some a2) (e3 : ys[3]? = some a3) (e4 : ys[4]? = some a4) (e5 : ys[5]? = some a5) (e6 : ys[6]? = some a6) (e7 : ys[7]? = some a7) :
    ys = [a0, a1, a2, a3, a4, a5, a6, a7] := by
  obtain ⟨r0, rfl, h0⟩ := cons_of h e0
  obtain ⟨r1, rfl, h1⟩ := cons_of h0 (show r0[0]? = some a1 from e1)
  obtain ⟨r2, rfl, h2⟩ := cons_of h1 (show r1[0]? = some a2 from e2)
  obtain ⟨r3, rfl, h3⟩ := cons_of h2 (show r2[0]? = some a3 from e3)
  obtain ⟨r4, rfl, h4⟩ := cons_of h3 (show r3[0]? = some a4 from e4)
  obtain ⟨r5, rfl, h5⟩ := cons_of h4 (show r4[0]? = some a5 from e5)
  obtain ⟨r6, rfl, h6⟩ := cons_of h5 (show r5[0]? = some a6 from e6)
  obtain ⟨r7, rfl, h7⟩ := cons_of h6 (show r6[0]? = some a7 from e7)
  rw [List.eq_nil_of_length_eq_zero h7]
noncomputable def ColsIn (nw : Led) (l : Addr) (n : Nat) (cs : Nat → Col4) : Prop := ∃ vs c, (l, listO vs c) ∈ nw ∧ vs.length = n ∧ ∀ k : Nat, k < n → ∃ a, vs[k]? = some (.ref a) ∧ ColAt nw a (cs k) ∧ ColOk (cs k)
theorem ColsIn.up {nw nw' : Led} {l : Addr} {n : Nat} {cs : Nat → Col4} (h : ColsIn nw l n cs) (s : ∀ p ∈ nw, p ∈ nw') : ColsIn nw' l n cs := by
  obtain ⟨vs, c, h1, h2, h3⟩ := h
  exact ⟨vs, c, s _ h1, h2, fun k hk => by obtain ⟨a, e1, e2, e3⟩ := h3 k hk; exact ⟨a, e1, e2.up s, e3⟩⟩
theorem allI {vs : List Value} {ns : List Int} (h : IntsAre vs ns) : ∀ v ∈ vs, ∃ x t, v = .int x t := by
  induction h with
  | nil => intro v hv; cases hv
  | cons x t _ ih =>
    intro v hv
    rcases List.mem_cons.mp hv with rfl | hv
    · exact ⟨_, _, rfl⟩
    · exact ih v hv
end Mine
end

section
open PySem PySem.W PyProof.Rows PySem.Calls
set_option Elab.async false
set_option maxRecDepth 100000
set_option maxHeartbeats 8000000
namespace Mine
section
variable {h₀ : Heap} {L : Addr} {m : Str → Option Value} {news : Led} {s : Shared}
theorem newList_any {M : Model} {A : Around} {E : Value → Shared → Prop} {vs : List Value} {Q : Value → Shared → Prop} (F : Fr h₀ L s.heap m) (N : News h₀ L s.heap news) (hsz : vs.length < 1000)
    (h : ∀ l h', Fr h₀ L h' m → News h₀ L h' ((l, listO vs 0) :: news) → (∀ q ∈ news, q.1 < l) → Q (.ref l) { s with heap := h' }) : wpAny M A (newList vs) Q E s :=
  newList_N F N (fun h' F' N' => h _ h' F' N' fun q hq => Heap.lt_size (N q hq).1) (by rw [sizeLine_eq]; lia)
theorem newTuple_any {M : Model} {A : Around} {E : Value → Shared → Prop} {vs : List Value} {Q : Value → Shared → Prop} (F : Fr h₀ L s.heap m) (N : News h₀ L s.heap news) (hsz : vs.length < 1000)
    (h : ∀ l h', Fr h₀ L h' m → News h₀ L h' ((l, tupO vs) :: news) → (∀ q ∈ news, q.1 < l) → Q (.ref l) { s with heap := h' }) : wpAny M A (newTuple vs) Q E s :=
  newTuple_N F N (fun h' F' N' => h _ h' F' N' fun q hq => Heap.lt_size (N q hq).1) (by rw [sizeLine_eq]; lia)
variable {prog : Program} {w : World} {A : Around} {E : Value → Shared → Prop}
theorem add_any {l b : Addr} {vs ws zs : List Value} {c d : Nat} {Q : Value → Shared → Prop} (F : Fr h₀ L s.heap m) (N : News h₀ L s.heap news) (hl : (l, listO vs c) ∈ news) (hb : (b, listO ws d) ∈ news) (hz : vs ++ ws = zs) (hsz : vs.length + ws.length < 1000)
    (h : ∀ l' h', Fr h₀ L h' m → News h₀ L h' ((l', listO zs 0) :: news) → (∀ q ∈ news, q.1 < l') → Q (.ref l') { s with heap := h' }) :
    wpAny (model prog w) A (binaryOp .Add (.ref l) (.ref b)) Q E s := by
  subst hz
  exact add_lists F N ⟨_, (N _ hl).1, rfl, _, rfl⟩ ⟨_, (N _ hb).1, rfl, _, rfl⟩ (fun h' F' N' => h _ h' F' N' fun q hq => Heap.lt_size (N q hq).1) (by rw [sizeLine_eq]; lia)
theorem slice2_any {value slice : PySem.Expr} {l : Addr} {vs zs : List Value} {c : Nat} {x k : Int} {t u : Tok} {ops : List Value} {Q : Value → Shared → Prop} (F : Fr h₀ L s.heap m) (N : News h₀ L s.heap news) (hl : (l, listO vs c) ∈ news) (hk : k ≠ 0)
    (e : (slicePick vs.toArray (some x) none (some k)).toList = zs) (hsz : vs.length < 1000)
    (h : ∀ D h', Fr h₀ L h' m → News h₀ L h' ((D, listO zs 0) :: news) → (∀ p ∈ news, p.1 < D) → Q (.ref D) { s with heap := h' })
    (hs : subscripted slice false (.ref l) (.ref s.heap.objs.size) = operate ops (getItem (.ref l) (.ref s.heap.objs.size))) (ht : ∀ r, letTemporaryGo value (.ref l) r = pure ()) :
    wpAny (model prog w) A (subscriptTail value slice (.ref l) (.ref s.heap.objs.size)) Q E { s with heap := s.heap.push { cls := .type "slice", data := .fields #[.int x t, .none, .int k u] } } :=
  kmk_slice3_lit F N ⟨_, (N _ hl).1, rfl, _, rfl⟩ (IsPart.int _ _) IsPart.none (IsPart.int _ _) (by simpa using hk) e h hs ht (by rw [List.size_toArray, sizeLine_eq]; lia)
theorem pick_even (a0 a1 a2 a3 a4 a5 a6 a7 : Value) : (slicePick [a0, a1, a2, a3, a4, a5, a6, a7].toArray (some 0) none (some 2)).toList = [a0, a2, a4, a6] := by with_unfolding_all rfl
theorem pick_odd (a0 a1 a2 a3 a4 a5 a6 a7 : Value) : (slicePick [a0, a1, a2, a3, a4, a5, a6, a7].toArray (some 1) none (some 2)).toList = [a1, a3, a5, a7] := by with_unfolding_all rfl
theorem IsCell.store {Mo : Model} {A : Around} {E : Value → Shared → Prop} {a : Addr} {cn : Str} {cs : Scope} {ccd : Value} {cl : List (Str × Addr)}
    {x : Str} {v : Value} {Q : Unit → Shared → Prop} {c : Addr} {o : Obj} {v₀ : Option Value} (F : Fr h₀ L s.heap m) (N : News h₀ L s.heap news) (hc : cl.lookup x = some c) (hm : (c, o) ∈ news) (hd : o.data = .cell v₀)
    (h : ∀ h' o' news', Fr h₀ L h' m → News h₀ L h' news' → (c, o') ∈ news' → o'.data = .cell (some v) → (∀ p ∈ news, p.1 ≠ c → p ∈ news') → (∀ p ∈ news, p.2 ≠ o → p ∈ news') → Q () { s with heap := h' })
    (hk : cs.kind = .function) (hx : (envX cn cs L a ccd cl).kindOf x = some .cell) : wpAny Mo A (storeName (envX cn cs L a ccd cl) x v) Q E s := by
  have N2 : News h₀ L s.heap ((c, o) :: news.filter (fun p => p.1 != c)) := fun p hp => by
    rcases List.mem_cons.mp hp with rfl | hp
    · exact N _ hm
    · exact N _ (List.mem_filter.mp hp).1
  refine storeX_C F N2 hc (UpdF.head fun p hp => ?_) hd (fun h' o' F' N' hd' => h h' o' _ F' N' (.head _) hd' (fun p hp hne => .tail _ (List.mem_filter.mpr ⟨hp, by simpa using hne⟩)) fun p hp hne => .tail _ (List.mem_filter.mpr ⟨hp, ?_⟩)) hk hx
  · have := (List.mem_filter.mp hp).2
    simpa using this
  · have : p.1 ≠ c := fun e => hne (by
      have h1 := (N p hp).1
      have h2 := (N _ hm).1
      rw [e] at h1
      rw [h1] at h2
      exact Option.some.inj h2)
    simpa using this
end
end Mine
namespace Mine
open PySem PySem.W PyProof.Rows PySem.Calls
theorem f64 (x : Int) : 1 ≤ x.fmod 64 + 1 ∧ x.fmod 64 + 1 ≤ 64 := by
  rw [Int.fmod_eq_emod_of_nonneg _ (by decide)]; lia
theorem okT {v : Int} (hv : 1 ≤ v ∧ v ≤ 64) : ColOk (63, 4, v, 0) := by unfold ColOk; dsimp only; lia
theorem cols_fold {h₀ h : Heap} {L : Addr} {nw : Led} {M P T a0 a1 a2 a3 a4 a5 a6 a7 : Addr} {c0 c1 c2 c3 c4 c5 c6 c7 : Col4} {cM cP : Nat} {x1 x2 x3 : Addr × Obj} {v : Int} {t1 t2 t3 t4 : Tok}
    (N : News h₀ L h ((M, listO [.ref a1, .ref a3, .ref a5, .ref a7] cM) :: (P, listO [.ref T, .ref a0, .ref a2, .ref a4, .ref a6] cP) :: x1 :: x2 :: (T, tupO [.int 63 t1, .int 4 t2, .int v t3, .int 0 t4]) :: x3 :: nw))
    (q0 : ColAt nw a0 c0) (q1 : ColAt nw a1 c1) (q2 : ColAt nw a2 c2) (q3 : ColAt nw a3 c3) (q4 : ColAt nw a4 c4) (q5 : ColAt nw a5 c5) (q6 : ColAt nw a6 c6) (q7 : ColAt nw a7 c7)
    (k0 : ColOk c0) (k1 : ColOk c1) (k2 : ColOk c2) (k3 : ColOk c3) (k4 : ColOk c4) (k5 : ColOk c5) (k6 : ColOk c6) (k7 : ColOk c7) (hv : 1 ≤ v ∧ v ≤ 64) :
    ∃ nw' pcs mcs, News h₀ L h nw' ∧ ColsIn nw' P 5 pcs ∧ ColsIn nw' M 4 mcs ∧ ((pcs 0).1 = 63 ∧ (pcs 0).2.1 = 4) ∧ ∀ p ∈ nw, p ∈ nw' := by
  have up : ∀ p ∈ nw, p ∈ ((M, listO [.ref a1, .ref a3, .ref a5, .ref a7] cM) :: (P, listO [.ref T, .ref a0, .ref a2, .ref a4, .ref a6] cP) :: x1 :: x2 :: (T, tupO [.int 63 t1, .int 4 t2, .int v t3, .int 0 t4]) :: x3 :: nw) :=
    fun p hp => .tail _ (.tail _ (.tail _ (.tail _ (.tail _ (.tail _ hp)))))
  refine ⟨_, fun k => match k with | 0 => (63, 4, v, 0) | 1 => c0 | 2 => c2 | 3 => c4 | _ => c6, fun k => match k with | 0 => c1 | 1 => c3 | 2 => c5 | _ => c7, N, ⟨_, _, .tail _ (.head _), rfl, fun k hk => ?_⟩, ⟨_, _, .head _, rfl, fun k hk => ?_⟩, ⟨rfl, rfl⟩, up⟩
  · rcases lt5c hk with rfl | rfl | rfl | rfl | rfl
    · exact ⟨T, rfl, ⟨t1, t2, t3, t4, .tail _ (.tail _ (.tail _ (.tail _ (.head _))))⟩, okT hv⟩
    · exact ⟨a0, rfl, q0.up up, k0⟩
    · exact ⟨a2, rfl, q2.up up, k2⟩
    · exact ⟨a4, rfl, q4.up up, k4⟩
    · exact ⟨a6, rfl, q6.up up, k6⟩
  · rcases lt4c hk with rfl | rfl | rfl | rfl
    · exact ⟨a1, rfl, q1.up up, k1⟩
    · exact ⟨a3, rfl, q3.up up, k3⟩
    · exact ⟨a5, rfl, q5.up up, k5⟩
    · exact ⟨a7, rfl, q7.up up, k7⟩
end Mine
namespace Mine
open PySem PySem.W PyProof.Rows PySem.Calls
theorem sum_bound {M : Int} (hM : 0 < M) : ∀ l : List Int, 0 ≤ (l.map (fun k => k.fmod M)).sum ∧ (l.map (fun k => k.fmod M)).sum ≤ l.length * M
  | [] => by simp
  | a :: r => by
    have ih := sum_bound hM r
    have h1 := Int.emod_nonneg a (Int.ne_of_gt hM)
    have h2 := Int.emod_lt_of_pos a hM
    rw [List.map_cons, List.sum_cons, List.length_cons, Int.fmod_eq_emod_of_nonneg _ (Int.le_of_lt hM), Int.natCast_add, Int.add_mul]
    lia
theorem total_ok (ns : List Int) : 0 ≤ ((ns.take 63).map (fun k => k.fmod (10 ^ Int.toNat 6))).sum ∧ ((ns.take 63).map (fun k => k.fmod (10 ^ Int.toNat 6))).sum < 2 ^ 40 := by
  have h := sum_bound (M := 10 ^ Int.toNat 6) (by decide) (ns.take 63)
  have h2 : (ns.take 63).length ≤ 63 := by rw [List.length_take]; lia
  have e : (10 : Int) ^ Int.toNat 6 = 1000000 := by decide
  rw [e] at h ⊢
  lia
end Mine
namespace Mine
open PySem PySem.W PyProof.Rows PySem.Calls
noncomputable abbrev frD (fst total : Int) (tf tt : Tok) (M P : Addr) (v5 v4 v1 : Option Value) (v0 : Str → Option Value) : Str → Option Value := fun y =>
  if y = Str.ofString "first" then some (.int fst tf) else if y = Str.ofString "marks" then some (.ref M) else if y = Str.ofString "paints" then some (.ref P) else if y = Str.ofString "colours" then v5
  else if y = Str.ofString "spare" then v4 else if y = Str.ofString "total" then some (.int total tt) else if y = Str.ofString "numbers" then v1 else v0 y
theorem fr_fold {h₀ h : Heap} {L M P : Addr} {ns : List Int} {tf tt : Tok} {v5 v4 v1 : Option Value} {v0 : Str → Option Value}
    (F : Fr h₀ L h (frD (Int.fmod (Int.fdiv ((ns.take 63).map (fun k => k.fmod (10 ^ Int.toNat 6))).sum 2) 64 + 1) ((ns.take 63).map (fun k => k.fmod (10 ^ Int.toNat 6))).sum tf tt M P v5 v4 v1 v0)) :
    ∃ fst total tf tt v5 v4 v1 v0, (1 ≤ fst ∧ fst ≤ 64) ∧ (0 ≤ total ∧ total < 2 ^ 40) ∧ Fr h₀ L h (frD fst total tf tt M P v5 v4 v1 v0) := ⟨_, _, _, _, _, _, _, _, f64 _, total_ok ns, F⟩
end Mine
namespace Mine
open PySem PySem.W PyProof.Rows PySem.Calls
end Mine
end

section
open PySem PySem.W PyProof.Rows PySem.Calls
set_option Elab.async false
set_option maxRecDepth 100000
set_option maxHeartbeats 8000000
set_option linter.unusedVariables false
namespace Mine
noncomputable def insC (cs : List Col) (c : Col) : List Col := cs.take (countLe (List.map Prod.fst cs) c.1) ++ c :: cs.drop (countLe (List.map Prod.fst cs) c.1)
noncomputable def insAll (f : Nat → Col) : Nat → List Col
  | 0 => []
  | i + 1 => insC (insAll f i) (f i)
theorem insC_len (cs : List Col) (c : Col) : (insC cs c).length = cs.length + 1 := by
  have h := countLe_le (List.map Prod.fst cs) c.1
  rw [List.length_map] at h
  unfold insC
  rw [List.length_append, List.length_cons, List.length_take, List.length_drop]; lia
theorem insAll_len (f : Nat → Col) : ∀ n, (insAll f n).length = n
  | 0 => rfl
  | n + 1 => by rw [insAll, insC_len, insAll_len f n]
theorem Sorted.tail {a : Int} {r : List Int} (h : Sorted (a :: r)) : Sorted r := fun i j hij x y hx hy => h (i + 1) (j + 1) (by lia) x y (by simpa using hx) (by simpa using hy)
theorem countLe_cons (a : Int) (r : List Int) (p : Int) : countLe (a :: r) p = (if a ≤ p then 1 else 0) + countLe r p := by
  unfold countLe
  by_cases h : a ≤ p
  · rw [List.filter_cons_of_pos (by simpa using h), if_pos h, List.length_cons]; lia
  · rw [List.filter_cons_of_neg (by simpa using h), if_neg h]; lia
theorem countLe_iff {p : Int} : ∀ {ks : List Int}, Sorted ks → ∀ (i : Nat) (q : Int), ks[i]? = some q → (i < countLe ks p ↔ q ≤ p)
  | [], _, i, q, h => by simp at h
  | a :: r, hs, i, q, h => by
    have hz : ¬ a ≤ p → ∀ (j : Nat) (x : Int), (a :: r)[j]? = some x → ¬ x ≤ p := fun ha j x hx => by have := hs 0 j (Nat.zero_le _) a x rfl hx; lia
    rw [countLe_cons]
    by_cases ha : a ≤ p
    · rw [if_pos ha]
      cases i with
      | zero => have : a = q := by simpa using h
                subst this; constructor <;> intro _ <;> lia
      | succ i =>
        have := countLe_iff (p := p) hs.tail i q (by simpa using h)
        lia
    · rw [if_neg ha]
      have h0 : countLe r p = 0 := by
        refine countLe_of r 0 (Nat.zero_le _) (fun j hj => absurd hj (Nat.not_lt_zero _)) fun j _ x hx => ?_
        have := hz ha (j + 1) x (by simpa using hx); lia
      have := hz ha i q h
      lia
theorem min0 {i k n : Nat} (h1 : ¬ i < k) (hk : k ≤ n) : ¬ i < min k n := by lia
theorem min1 {i k n : Nat} (h1 : i < k) (hk : k ≤ n) : i < min k n := by lia
theorem min2 {i k n : Nat} (h2 : i = k) (hk : k ≤ n) : i - min k n = 0 := by lia
theorem min3' {i k n : Nat} (h1 : ¬ i < k) (h2 : ¬ i = k) (hk : k ≤ n) : i - min k n = (i - 1 - k) + 1 := by lia
theorem min4 {i k : Nat} (h1 : ¬ i < k) (h2 : ¬ i = k) : k + (i - 1 - k) = i - 1 := by lia
theorem ins_get {α : Type} (l : List α) (k : Nat) (v : α) (hk : k ≤ l.length) (i : Nat) : (l.take k ++ v :: l.drop k)[i]? = if i < k then l[i]? else if i = k then some v else l[i - 1]? := by
  rw [List.getElem?_append, List.length_take]
  by_cases h1 : i < k
  · rw [if_pos (min1 h1 hk), if_pos h1, List.getElem?_take_of_lt h1]
  · rw [if_neg (min0 h1 hk), if_neg h1]
    by_cases h2 : i = k
    · rw [if_pos h2, min2 h2 hk]; rfl
    · rw [if_neg h2, min3' h1 h2 hk, List.getElem?_cons_succ, List.getElem?_drop, min4 h1 h2]
theorem insC_get (cs : List Col) (c : Col) (i : Nat) : (insC cs c)[i]? = if i < countLe (List.map Prod.fst cs) c.1 then cs[i]? else if i = countLe (List.map Prod.fst cs) c.1 then some c else cs[i - 1]? :=
  ins_get cs _ c (by have h := countLe_le (List.map Prod.fst cs) c.1; rw [List.length_map] at h; exact h) i
theorem insAt_get (vs : List Value) (k : Nat) (v : Value) (hk : k ≤ vs.length) (i : Nat) : (insAt vs k v)[i]? = if i < k then vs[i]? else if i = k then some v else vs[i - 1]? := ins_get vs k v hk i
theorem lt0 {i j k : Nat} (h : i ≤ j) (h1 : ¬ i < k) (h2 : j < k) : False := h1 (Nat.lt_of_le_of_lt h h2)
theorem le1 {i j k : Nat} (h : i < k) (h1 : ¬ j < k) (h2 : ¬ j = k) : i ≤ j - 1 := by lia
theorem le2 {i j k : Nat} (hij : i ≤ j) (h1 : ¬ i < k) (h2 : ¬ i = k) : i - 1 ≤ j - 1 ∧ ¬ j = k := by lia
theorem le3 {j k : Nat} (h1 : ¬ j < k) (h2 : ¬ j = k) : ¬ j - 1 < k := by lia
theorem map_get {cs : List Col} {i : Nat} {q : Int} (h : (List.map Prod.fst cs)[i]? = some q) : ∃ c, cs[i]? = some c ∧ c.1 = q := by
  rw [List.getElem?_map] at h
  cases e : cs[i]? with
  | none => rw [e] at h; simp at h
  | some c => rw [e] at h; exact ⟨c, rfl, by simpa using h⟩
theorem insC_sorted {cs : List Col} {c : Col} (hs : Sorted (List.map Prod.fst cs)) : Sorted (List.map Prod.fst (insC cs c)) := by
  intro i j hij a b ha hb
  obtain ⟨ca, ea, rfl⟩ := map_get ha
  obtain ⟨cb, eb, rfl⟩ := map_get hb
  have hi := fun (n : Nat) (q : Col) (hq : cs[n]? = some q) => countLe_iff (p := c.1) hs n q.1 (by rw [List.getElem?_map, hq]; rfl)
  have hm : ∀ (n k : Nat) (x y : Col), n ≤ k → cs[n]? = some x → cs[k]? = some y → x.1 ≤ y.1 := fun n k x y hnk hx hy => hs n k hnk x.1 y.1 (by rw [List.getElem?_map, hx]; rfl) (by rw [List.getElem?_map, hy]; rfl)
  rw [insC_get] at ea eb
  generalize countLe (List.map Prod.fst cs) c.1 = k at *
  split at ea
  · rename_i q1
    split at eb
    · exact hm _ _ _ _ hij ea eb
    · rename_i q2
      split at eb
      · cases eb; exact (hi _ _ ea).mp q1
      · rename_i q3
        exact hm _ _ _ _ (le1 q1 q2 q3) ea eb
  · rename_i q1
    split at ea
    · rename_i q2
      cases ea
      split at eb
      · rename_i q3; exact (lt0 hij q1 q3).elim
      · rename_i q3
        split at eb
        · cases eb; exact Int.le_refl _
        · rename_i q4
          exact Int.le_of_lt (Int.not_le.mp fun h => le3 q3 q4 ((hi _ _ eb).mpr h))
    · rename_i q2
      split at eb
      · rename_i q3; exact (lt0 hij q1 q3).elim
      · split at eb
        · rename_i q3; exact ((le2 hij q1 q2).2 q3).elim
        · exact hm _ _ _ _ (le2 hij q1 q2).1 ea eb
theorem insAll_sorted (f : Nat → Col) : ∀ n, Sorted (List.map Prod.fst (insAll f n))
  | 0 => fun i j _ a b ha => by simp [insAll] at ha
  | n + 1 => insC_sorted (insAll_sorted f n)
theorem KeptIn.up {nw nw' : Led} {vs : List Value} {cs : List Col} (h : KeptIn nw vs cs) (s : ∀ a vs, (a, tupO vs) ∈ nw → (a, tupO vs) ∈ nw') : KeptIn nw' vs cs :=
  ⟨h.1, fun i c hc => by
    obtain ⟨a, x, y, z, u1, u2, u3, e, hm, r⟩ := h.2 i c hc
    exact ⟨a, x, y, z, u1, u2, u3, e, s _ _ hm, r⟩⟩
theorem KeptIn.ins {nw : Led} {vs : List Value} {cs : List Col} {a : Addr} {x y z : UInt64} {u1 u2 u3 : Tok} {c : Col} (h : KeptIn nw vs cs) (hm : (a, tupO [.float x u1, .float y u2, .float z u3]) ∈ nw) (i1 : IsF x (1024 * c.1)) (i2 : IsF y (16384 * c.2.1)) (i3 : IsF z (1024 * c.2.2)) :
    KeptIn nw (insAt vs (countLe (List.map Prod.fst cs) c.1) (.ref a)) (insC cs c) := by
  have hk := countLe_le (List.map Prod.fst cs) c.1
  rw [List.length_map] at hk
  refine ⟨?_, fun i d hd => ?_⟩
  · rw [insC_len]; unfold insAt
    rw [List.length_append, List.length_cons, List.length_take, List.length_drop, h.1]; lia
  · rw [insAt_get _ _ _ (by rw [h.1]; exact hk)]
    rw [insC_get] at hd
    generalize countLe (List.map Prod.fst cs) c.1 = k at *
    split at hd
    · rename_i q; rw [if_pos q]; exact h.2 i d hd
    · rename_i q
      rw [if_neg q]
      split at hd
      · rename_i q2; rw [if_pos q2]
        cases hd
        exact ⟨a, x, y, z, u1, u2, u3, rfl, hm, i1, i2, i3⟩
      · rename_i q2; rw [if_neg q2]; exact h.2 (i - 1) d hd
theorem News.ne {h₀ h : Heap} {L : Addr} {nw : Led} {a b : Addr} {o p : Obj} (N : News h₀ L h nw) (h1 : (a, o) ∈ nw) (h2 : (b, p) ∈ nw) (hne : o ≠ p) : a ≠ b := fun e => hne (by
  have e1 := (N _ h1).1
  have e2 := (N _ h2).1
  subst e
  rw [e1] at e2
  exact Option.some.inj e2)
theorem tup_ne_list (vs ws : List Value) (c : Nat) : tupO vs ≠ listO ws c := fun e => by
  have h : Value.type "tuple" = Value.type "list" := congrArg Obj.cls e
  injection h with h
  exact absurd h (by decide)
theorem upd_filter {K : Addr} {o o' : Obj} (nw : Led) : Upd K o o' ((K, o) :: nw.filter (fun p => p.1 != K)) ((K, o') :: nw.filter (fun p => p.1 != K)) := .head fun p hp => by simpa using (List.mem_filter.mp hp).2
theorem News.front {h₀ h : Heap} {L : Addr} {nw : Led} {K : Addr} {o : Obj} (N : News h₀ L h nw) (hm : (K, o) ∈ nw) : News h₀ L h ((K, o) :: nw.filter (fun p => p.1 != K)) := fun p hp => by
  rcases List.mem_cons.mp hp with rfl | hp
  · exact N _ hm
  · exact N _ (List.mem_filter.mp hp).1
theorem mem_front {nw : Led} {K : Addr} {o : Obj} {p : Addr × Obj} (hp : p ∈ nw) (hne : p.1 ≠ K) : p ∈ (K, o) :: nw.filter (fun p => p.1 != K) := .tail _ (List.mem_filter.mpr ⟨hp, by simpa using hne⟩)
section
variable {prog : Program} {w : World} {A : Around} {E : Value → Shared → Prop} {s : Shared} {env : Env} {h₀ : Heap} {x : Str} {body : List Stmt} {Q : Flow → Shared → Prop}
theorem list_rest {I : Addr} {lp : Addr × Obj} (vs : List Value) (MI : Nat → (Str → Option Value) → Prop) (J : Nat → Led → Prop) (hlp : ∀ i nw, J i nw → lp ∈ nw)
    (step : ∀ i v m h tk nw it, vs[i]? = some v → MI i m → J i nw → (∀ p ∈ nw, p.1 ≠ I) → it.cls = .type "list_iterator" → Fr h₀ env.locals h (fun y => if y = x then some v else m y) → News h₀ env.locals h ((I, it) :: nw) →
      wpAny (model prog w) A (execs body env) (UnrPost h₀ env.locals { s with heap := h, toks := tk } I it (fun m' n' => MI (i + 1) m' ∧ J (i + 1) n' ∧ ∀ p ∈ n', p.1 ≠ I) Q) E { s with heap := h, toks := tk })
    (done : ∀ h tk m nw, MI vs.length m → J vs.length nw → Fr h₀ env.locals h m → News h₀ env.locals h nw → Q .next { s with heap := h, toks := tk }) :
    ∀ (r : List Value) (i : Nat) (m : Str → Option Value) (nw : Led), vs.drop i = r → i + r.length = vs.length → MI i m → J i nw → (∀ p ∈ nw, p.1 ≠ I) → ListRest prog w A E h₀ env x body Q s I lp r m nw := by
  intro r
  induction r with
  | nil =>
    intro i m nw hd hi hm hj hI
    have : i = vs.length := by simpa using hi
    subst this
    exact ListRest.zero fun h tk F N => done h tk m nw hm hj F N
  | cons v r ih =>
    intro i m nw hd hi hm hj hI
    have hv : vs[i]? = some v := by
      have := congrArg (fun l : List Value => l[0]?) hd
      simpa [List.getElem?_drop] using this
    have hd2 : vs.drop (i + 1) = r := by
      have := congrArg List.tail hd
      rw [List.tail_drop] at this
      simpa using this
    refine ListRest.succ fun it h tk hit F N => ?_
    refine wpAny_mono (step i v m h tk nw it hv hm hj hI hit F N) (fun f s₂ p => ?_) (fun _ _ e => e)
    have fin : UnrEnd h₀ env.locals { s with heap := h, toks := tk } I it (fun m' n' => MI (i + 1) m' ∧ J (i + 1) n' ∧ ∀ p ∈ n', p.1 ≠ I) s₂ →
        UnrEnd h₀ env.locals { s with heap := h, toks := tk } I it (fun m' n' => lp ∈ n' ∧ ListRest prog w A E h₀ env x body Q s I lp r m' n') s₂ := by
      rintro ⟨h', tk', m', news', e', F', N', o', r1, r2, r3⟩
      exact ⟨h', tk', m', news', e', F', N', o', hlp _ _ r2, ih (i + 1) m' news' hd2 (by simp at hi; lia) r1 r2 r3⟩
    cases f with
    | ret v => exact p
    | brk => exact p
    | next => exact fin p
    | cont => exact fin p
theorem list_T {ax : Addr} {c n : Nat} {m₀ : Str → Option Value} {news nw₀ : Led} (vs : List Value) (MI : Nat → (Str → Option Value) → Prop) (J : Nat → Led → Prop) (hn : vs.length = n)
    (hh : A.handled = none) (F : Fr h₀ env.locals s.heap m₀) (N : News h₀ env.locals s.heap news) (sub : ∀ p ∈ nw₀, p ∈ news) (hlp : ∀ i nw, J i nw → (ax, listO vs c) ∈ nw) (hM : MI 0 m₀) (hJ : J 0 nw₀)
    (step : ∀ I i v m h tk nw it, vs[i]? = some v → MI i m → J i nw → (∀ p ∈ nw, p.1 ≠ I) → it.cls = .type "list_iterator" → Fr h₀ env.locals h (fun y => if y = x then some v else m y) → News h₀ env.locals h ((I, it) :: nw) →
      wpAny (model prog w) A (execs body env) (UnrPost h₀ env.locals { s with heap := h, toks := tk } I it (fun m' n' => MI (i + 1) m' ∧ J (i + 1) n' ∧ ∀ p ∈ n', p.1 ≠ I) Q) E { s with heap := h, toks := tk })
    (done : ∀ h tk m nw, MI n m → J n nw → Fr h₀ env.locals h m → News h₀ env.locals h nw → Q .next { s with heap := h, toks := tk }) :
    wpAny (model prog w) A (pyIter (.ref ax)) (fun it s₂ => LoopAtV prog w A h₀ env x body Q E it s₂) E s := by
  subst hn
  have N := News.sub N sub
  refine iter_listUnr (vs := vs) (n := c) hh F N (hlp _ _ hJ) rfl rfl fun I hI => ?_
  exact list_rest vs MI J hlp (fun i v m h tk nw it hv hm hj hIn hit F N => step I i v m h tk nw it hv hm hj hIn hit F N) done vs 0 m₀ nw₀ rfl (by lia) hM hJ (fun p hp => Nat.ne_of_lt (hI p hp))
end
end Mine
namespace Mine
open PySem PySem.W PyProof.Rows PySem.Calls
noncomputable def NoCell (o : Obj) : Prop := ∀ v, o.data ≠ .cell v
theorem ColsIn.upS {nw nw' : Led} {l : Addr} {n : Nat} {cs : Nat → Col4} (h : ColsIn nw l n cs) (s : ∀ p ∈ nw, NoCell p.2 → p ∈ nw') : ColsIn nw' l n cs := by
  obtain ⟨vs, c, h1, h2, h3⟩ := h
  refine ⟨vs, c, s _ h1 (fun v e => by injection e), h2, fun k hk => ?_⟩
  obtain ⟨a, e1, ⟨t1, t2, t3, t4, e2⟩, e3⟩ := h3 k hk
  exact ⟨a, e1, ⟨t1, t2, t3, t4, s _ e2 (fun v e => by injection e)⟩, e3⟩
noncomputable def fcol (mcs : Nat → Col4) (k : Nat) : Col := (placeI (mcs k).1 (mcs k).2.1, (mcs k).2.1, (mcs k).2.2.1)
noncomputable def JK (base : Led) (K : Addr) (mcs : Nat → Col4) (i : Nat) (nw : Led) : Prop := (∀ p ∈ base, p ∈ nw) ∧ ∃ vs c, (K, listO vs c) ∈ nw ∧ KeptIn nw vs (insAll (fcol mcs) i)
theorem JK.next {base nw : Led} {K a : Addr} {mcs : Nat → Col4} {i c : Nat} {vs : List Value} {x y z : UInt64} {u1 u2 u3 : Tok} (hb : ∀ p ∈ base, p.1 ≠ K) (h1 : ∀ p ∈ base, p ∈ nw) (hk : KeptIn nw vs (insAll (fcol mcs) i)) (haK : a ≠ K)
    (hK : ∀ b ws, (b, tupO ws) ∈ nw → b ≠ K) (i1 : IsF x (1024 * placeI (mcs i).1 (mcs i).2.1)) (i2 : IsF y (16384 * (mcs i).2.1)) (i3 : IsF z (1024 * (mcs i).2.2.1)) :
    JK base K mcs (i + 1) ((K, listO (insAt vs (countLe (List.map Prod.fst (insAll (fcol mcs) i)) (placeI (mcs i).1 (mcs i).2.1)) (.ref a)) (c + 1)) :: (a, tupO [.float x u1, .float y u2, .float z u3]) :: nw.filter (fun p => p.1 != K)) := by
  refine ⟨fun p hp => .tail _ (.tail _ (List.mem_filter.mpr ⟨h1 p hp, by simpa using hb p hp⟩)), _, _, .head _, ?_⟩
  have hk' : KeptIn ((K, listO (insAt vs (countLe (List.map Prod.fst (insAll (fcol mcs) i)) (placeI (mcs i).1 (mcs i).2.1)) (.ref a)) (c + 1)) :: (a, tupO [.float x u1, .float y u2, .float z u3]) :: nw.filter (fun p => p.1 != K)) vs (insAll (fcol mcs) i) :=
    hk.up fun b ws hb => .tail _ (.tail _ (List.mem_filter.mpr ⟨hb, by simpa using hK b ws hb⟩))
  exact hk'.ins (c := fcol mcs i) (.tail _ (.head _)) i1 i2 i3
theorem kept_end {h₀ h' : Heap} {L I K a : Addr} {it o' tp : Obj} {rest : (Str → Option Value) → Led → Prop} {s₁ : Shared} {tk : Nat} {m' : Str → Option Value} {nw : Led} (F : Fr h₀ L h' m') (N : News h₀ L h' ((K, o') :: ((a, tp) :: (I, it) :: nw).filter (fun p => p.1 != K)))
    (hIK : I ≠ K) (hI : ∀ p ∈ nw, p.1 ≠ I) (haI : a ≠ I) (haK : a ≠ K) (r : (∀ p ∈ (K, o') :: (a, tp) :: nw.filter (fun p => p.1 != K), p.1 ≠ I) → rest m' ((K, o') :: (a, tp) :: nw.filter (fun p => p.1 != K))) : UnrEnd h₀ L s₁ I it rest { s₁ with heap := h', toks := tk } := by
  have off : ∀ p ∈ (K, o') :: (a, tp) :: nw.filter (fun p => p.1 != K), p.1 ≠ I := fun p hp => by
    rcases List.mem_cons.mp hp with rfl | hp
    · exact Ne.symm hIK
    · rcases List.mem_cons.mp hp with rfl | hp
      · exact haI
      · exact hI p (List.mem_filter.mp hp).1
  refine UnrEnd.intro F N _ (fun p hp => ?_) off (r off)
  rcases List.mem_cons.mp hp with rfl | hp
  · exact .tail _ (List.mem_filter.mpr ⟨.tail _ (.head _), by simpa using hIK⟩)
  · rcases List.mem_cons.mp hp with rfl | hp
    · exact .head _
    · rcases List.mem_cons.mp hp with rfl | hp
      · exact .tail _ (List.mem_filter.mpr ⟨.head _, by simpa using haK⟩)
      · have := List.mem_filter.mp hp
        exact .tail _ (List.mem_filter.mpr ⟨.tail _ (.tail _ this.1), this.2⟩)
end Mine
namespace Mine
open PySem PySem.W PyProof.Rows PySem.Calls
theorem nocell_list (vs : List Value) (c : Nat) : NoCell (listO vs c) := fun v e => by injection e
theorem nocell_tup (vs : List Value) : NoCell (tupO vs) := fun v e => by injection e
end Mine
namespace Mine
open PySem PySem.W PyProof.Rows PySem.Calls
theorem base_mk {nw : Led} {K : Addr} {o : Obj} (_ : (K, o) ∈ nw) : ∃ base : Led, (∀ p ∈ base, p ∈ nw) ∧ (∀ p ∈ base, p.1 ≠ K) ∧ ∀ p ∈ nw, p.1 ≠ K → p ∈ base :=
  ⟨nw.filter (fun p => p.1 != K), fun p hp => (List.mem_filter.mp hp).1, fun p hp => by simpa using (List.mem_filter.mp hp).2, fun p hp hne => List.mem_filter.mpr ⟨hp, by simpa using hne⟩⟩
theorem JK.zero {base nw : Led} {K : Addr} {mcs : Nat → Col4} (h : ∀ p ∈ base, p ∈ nw) (hK : (K, listO [] 0) ∈ nw) : JK base K mcs 0 nw := ⟨h, [], 0, hK, rfl, fun i c hc => by simp [insAll] at hc⟩
end Mine
namespace Mine
open PySem PySem.W PyProof.Rows PySem.Calls
theorem front2 {h₀ h : Heap} {L a I K : Addr} {tp it o : Obj} {nw : Led} (N : News h₀ L h ((a, tp) :: (I, it) :: nw)) (hK : (K, o) ∈ nw) : News h₀ L h ((K, o) :: ((a, tp) :: (I, it) :: nw).filter (fun p => p.1 != K)) := News.front N (.tail _ (.tail _ hK))
theorem ne_la {a I K : Addr} {it o : Obj} {nw : Led} (l : ∀ q ∈ (I, it) :: nw, q.1 < a) (hK : (K, o) ∈ nw) : a ≠ K := Ne.symm (Nat.ne_of_lt (l _ (.tail _ hK)))
end Mine
namespace Mine
open PySem PySem.W PyProof.Rows PySem.Calls
noncomputable def SeenAt (nw : Led) (v : Value) (c : Col) : Prop := ∃ a x y z u1 u2 u3, v = .ref a ∧ (a, tupO [.float x u1, .float y u2, .float z u3]) ∈ nw ∧ IsF x (1024 * c.1) ∧ IsF y (16384 * c.2.1) ∧ IsF z (1024 * c.2.2)
noncomputable def IsSeen (cs : Nat → Col) (nw : Led) (k : Nat) (v : Value) : Prop := SeenAt nw v (cs k)
theorem IsSeen.up {cs : Nat → Col} {nw nw' : Led} (s : ∀ p ∈ nw, p ∈ nw') (k : Nat) (v : Value) (h : IsSeen cs nw k v) : IsSeen cs nw' k v := by
  obtain ⟨a, x, y, z, u1, u2, u3, e, hm, r⟩ := h; exact ⟨a, x, y, z, u1, u2, u3, e, s _ hm, r⟩
noncomputable def SeensIn (nw : Led) (l : Addr) (n : Nat) (cs : Nat → Col) : Prop := ∃ vs c, (l, listO vs c) ∈ nw ∧ vs.length = n ∧ ∀ k : Nat, k < n → ∃ v, vs[k]? = some v ∧ SeenAt nw v (cs k)
theorem SeensIn.upS {nw nw' : Led} {l : Addr} {n : Nat} {cs : Nat → Col} (h : SeensIn nw l n cs) (s : ∀ p ∈ nw, NoCell p.2 → p ∈ nw') : SeensIn nw' l n cs := by
  obtain ⟨vs, c, h1, h2, h3⟩ := h
  refine ⟨vs, c, s _ h1 (nocell_list _ _), h2, fun k hk => ?_⟩
  obtain ⟨v, e, a, x, y, z, u1, u2, u3, e1, hm, r⟩ := h3 k hk
  exact ⟨v, e, a, x, y, z, u1, u2, u3, e1, s _ hm (nocell_tup _), r⟩
theorem SeensIn.of {base nw : Led} {l : Addr} {n : Nat} {ys : List Value} {cs : Nat → Col} (h : JG (IsSeen cs) base n ys nw) : SeensIn ((l, LCg.lst ys) :: nw) l n cs := by
  obtain ⟨h1, h2, h3⟩ := h
  refine ⟨ys, _, .head _, h1, fun k hk => ?_⟩
  have e := List.getElem?_eq_getElem (show k < ys.length by lia)
  exact ⟨_, e, IsSeen.up (fun p hp => .tail _ hp) k _ (h2 k _ e)⟩
theorem KeptIn.upS {nw nw' : Led} {vs : List Value} {cs : List Col} (h : KeptIn nw vs cs) (s : ∀ p ∈ nw, NoCell p.2 → p ∈ nw') : KeptIn nw' vs cs := h.up fun a ws hm => s _ hm (nocell_tup _)
end Mine
end

section
open PySem PySem.W PyProof.Rows PySem.Calls
set_option Elab.async false
set_option maxRecDepth 100000
set_option maxHeartbeats 8000000
set_option linter.unusedVariables false
namespace Mine
theorem rep_fold (c : Nat) : ∀ (n : Nat) (acc : Array Nat), (List.replicate n (#[c] : Array Nat)).foldl (· ++ ·) acc = acc ++ (List.replicate n c).toArray
  | 0, acc => by simp
  | n + 1, acc => by
    rw [List.replicate_succ, List.foldl_cons, rep_fold c n, List.replicate_succ]
    apply Array.ext'
    simp
theorem mul_one {c : Nat} {n : Int} (h0 : 0 ≤ n) : Txt.mul ⟨#[c]⟩ n = ⟨(List.replicate n.toNat c).toArray⟩ := by
  unfold Txt.mul
  by_cases h1 : n < 1
  · rw [if_pos h1, show n.toNat = 0 by lia]; rfl
  · rw [if_neg h1]
    split
    · rename_i h
      have : n = 1 := by simpa [Str.length] using h
      subst this; rfl
    · rw [rep_fold]; simp
theorem mulOk_one {c : Nat} {n : Int} (h0 : 0 ≤ n) (h1 : n ≤ 100) : MulOk ⟨#[c]⟩ n := by
  refine ⟨?_, fun a _ => ?_, fun a _ => ?_⟩
  · rw [decide_eq_false (by lia), decide_eq_false (by lia)]; rfl
  · have : ((⟨#[c]⟩ : Str).length : Int) = 1 := rfl
    rw [this]
    have h2 : 100 ≤ (2 ^ 63 - 1) / n := (Int.le_ediv_iff_mul_le (by lia)).mpr (by lia)
    lia
  · have : (⟨#[c]⟩ : Str).length = 1 := rfl
    rw [this]
    unfold Builtin.Str.tooLong
    rw [sizeLine_eq]
    simp; lia
section
variable {prog : Program} {w : World} {A : Around} {E : Value → Shared → Prop} {s : Shared} {h₀ : Heap} {L : Addr} {m : Str → Option Value} {news : Led}
theorem mul_dot {n : Int} {t u : Tok} {Q : Value → Shared → Prop} (h0 : 0 ≤ n) (h1 : n ≤ 100) (h : ∀ t k, Q (.str ⟨(List.replicate n.toNat 46).toArray⟩ t) { s with toks := k }) : wpAny (model prog w) A (binaryOp .Mult (.str (Str.ofString ".") t) (.int n u)) Q E s := by
  have e : Str.ofString "." = ⟨#[46]⟩ := by decide +kernel
  rw [e]
  refine SB.mul (mulOk_one h0 h1) fun t k => ?_
  rw [mul_one h0]; exact h t k
theorem item_any {value slice : PySem.Expr} {l : Addr} {vs : List Value} {c : Nat} {k : Int} {u : Tok} {v : Value} {Q : Value → Shared → Prop} (N : News h₀ L s.heap news) (hm : (l, listO vs c) ∈ news) (h0 : 0 ≤ k) (h1 : k < 1000) (hv : vs[k.toNat]? = some v) (h : Q v s)
    (hs : subscripted slice false (.ref l) (.int k u) = operate [.ref l, .int k u] (getItem (.ref l) (.int k u)) := by with_unfolding_all rfl) :
    wpAny (model prog w) A (subscriptTail value slice (.ref l) (.int k u)) Q E s := by
  have hL : s.heap.IsList l vs.toArray := ⟨_, (N _ hm).1, rfl, c, rfl⟩
  exact tail_any hL.typeIs slot_list_getitem.lookup (wpAny_getItem_list hL h0 (by lia) (by simpa using hv) h) hs
noncomputable def letS (k : Nat) : Str := ⟨#[97 + k]⟩
theorem item_abc {value slice : PySem.Expr} {k : Nat} {t u : Tok} {Q : Value → Shared → Prop} (hk : k < 5) (h : ∀ t tk, Q (.str (letS k) t) { s with toks := tk })
    (hs : subscripted slice false (.str (Str.ofString "abcde") t) (.int (0 + (k : Int)) u) = operate [.str (Str.ofString "abcde") t, .int (0 + (k : Int)) u] (getItem (.str (Str.ofString "abcde") t) (.int (0 + (k : Int)) u)) := by with_unfolding_all rfl)
    (ht : ∀ r, letTemporaryGo value (.str (Str.ofString "abcde") t) r = pure () := by intro _; with_unfolding_all rfl) :
    wpAny (model prog w) A (subscriptTail value slice (.str (Str.ofString "abcde") t) (.int (0 + (k : Int)) u)) Q E s := by
  have e : Str.ofString "abcde" = ⟨#[97, 98, 99, 100, 101]⟩ := by decide +kernel
  have hl : (Str.ofString "abcde").length = 5 := by rw [e]; rfl
  refine item_str ?_ (by lia) (by rw [hl]; lia) (fun _ => ?_) hs ht
  · unfold fitsSsize; rw [decide_eq_false (by lia), decide_eq_false (by lia)]; rfl
  · have : Txt.item (Str.ofString "abcde") (0 + (k : Int)) = letS k := by
      rw [e]
      rcases lt5c hk with rfl | rfl | rfl | rfl | rfl
      · rfl
      · rfl
      · rfl
      · rfl
      · rfl
    rw [this]; exact h _ _
end
noncomputable def rowS (n : Nat) (k : Nat) : Str := ⟨(List.replicate n 46 ++ [97 + k]).toArray⟩
theorem rowS_is (n k : Nat) : (⟨(List.replicate n 46).toArray⟩ : Str) ++ letS k = rowS n k := by
  show (⟨(List.replicate n 46).toArray ++ #[97 + k]⟩ : Str) = _
  unfold rowS; congr 1; apply Array.ext'; simp
theorem rowS_len (n k : Nat) : (rowS n k).length = n + 1 := by show (List.replicate n 46 ++ [97 + k]).toArray.size = _; simp
noncomputable def IsRow (cnt : Nat → Nat) (_ : Led) (k : Nat) (v : Value) : Prop := ∃ t, v = .str (rowS (cnt k) k) t
end Mine
namespace Mine
open PySem PySem.W PyProof.Rows PySem.Calls
theorem tup0 {prog : Program} {w : World} {A : Around} {E : Value → Shared → Prop} {s : Shared} {h₀ : Heap} {L : Addr} {news : Led} {value slice : PySem.Expr} {a : Addr} {v : Value} {r : List Value} {u : Tok} {Q : Value → Shared → Prop} (N : News h₀ L s.heap news) (hm : (a, tupO (v :: r)) ∈ news) (h : Q v s)
    (hs : subscripted slice false (.ref a) (.int 0 u) = operate [.ref a, .int 0 u] (getItem (.ref a) (.int 0 u)) := by with_unfolding_all rfl) :
    wpAny (model prog w) A (subscriptTail value slice (.ref a) (.int 0 u)) Q E s := by
  have ht : IsTup s.heap a (v :: r).toArray := ⟨_, (N _ hm).1, rfl, 0, rfl⟩
  exact tail_any ht.typeIs slot_tuple_getitem.lookup (getItem_tuple ht (by decide) (by decide) (j := 0) (by simp [seqIndex?]) rfl h) hs
end Mine
namespace Mine
theorem cnt_le (f : Nat → Col) (n : Nat) (p : Int) : countLe (List.map Prod.fst (insAll f n)) p ≤ n := by
  have := countLe_le (List.map Prod.fst (insAll f n)) p
  rw [List.length_map, insAll_len] at this
  exact this
end Mine
namespace Mine
open PySem PySem.W PyProof.Rows PySem.Calls
theorem add_row {prog : Program} {w : World} {A : Around} {E : Value → Shared → Prop} {s : Shared} {n k : Nat} {t u : Tok} {Q : Value → Shared → Prop} (hn : n ≤ 100) (h : ∀ t tk, Q (.str (rowS n k) t) { s with toks := tk }) :
    wpAny (model prog w) A (binaryOp .Add (.str ⟨(List.replicate n 46).toArray⟩ t) (.str (letS k) u)) Q E s :=
  add_str (fun t tk => by rw [rowS_is]; exact h t tk) (by
    rw [sizeLine_eq]
    have h1 : (⟨(List.replicate n 46).toArray⟩ : Str).length = n := by show (List.replicate n 46).toArray.size = n; simp
    have h2 : (letS k).length = 1 := rfl
    lia)
theorem isRow_of {cnt : Nat → Nat} {nw : Led} {k : Nat} {n : Nat} {t : Tok} (h : n = cnt k) : IsRow cnt nw k (.str (rowS n k) t) := ⟨t, by rw [h]⟩
end Mine
namespace Mine
open PySem PySem.W PyProof.Rows PySem.Calls
theorem list5 {ys : List Value} {a0 a1 a2 a3 a4 : Value} (h : ys.length = 5) (e0 : ys[0]? = some a0) (e1 : ys[1]? = some a1) (e2 : ys[2]? = some a2) (e3 : ys[3]? = some a3) (e4 : ys[4]? = some a4) :
    ys = [a0, a1, a2, a3, a4] := by
  obtain ⟨r0, rfl, h0⟩ := cons_of h e0
  obtain ⟨r1, rfl, h1⟩ := cons_of h0 (show r0[0]? = some a1 from e1)
  obtain ⟨r2, rfl, h2⟩ := cons_of h1 (show r1[0]? = some a2 from e2)
  obtain ⟨r3, rfl, h3⟩ := cons_of h2 (show r2[0]? = some a3 from e3)
  obtain ⟨r4, rfl, h4⟩ := cons_of h3 (show r3[0]? = some a4 from e4)
  rw [List.eq_nil_of_length_eq_zero h4]
theorem JG.at {R : Led → Nat → Value → Prop} {base nw : Led} {n : Nat} {ys : List Value} (h : JG R base n ys nw) (k : Nat) (hk : k < n) : ∃ v, ys[k]? = some v ∧ R nw k v := by
  obtain ⟨h1, h2, _⟩ := h
  have e := List.getElem?_eq_getElem (show k < ys.length by lia)
  exact ⟨_, e, h2 k _ e⟩
theorem JG.row5 {cnt : Nat → Nat} {base nw : Led} {ys : List Value} (h : JG (IsRow cnt) base 5 ys nw) : ∃ t0 t1 t2 t3 t4, ys = [.str (rowS (cnt 0) 0) t0, .str (rowS (cnt 1) 1) t1, .str (rowS (cnt 2) 2) t2, .str (rowS (cnt 3) 3) t3, .str (rowS (cnt 4) 4) t4] := by
  show (let gKz : Prop := ?_; gKz)
  intro gKz
  obtain ⟨v0, e0, t0, zq1⟩ := h.at 0 (by decide)
  k_unfold
  (try clear gKz)
  subst zq1
  show (let gKz : Prop := ?_; gKz)
  intro gKz
  obtain ⟨v1, e1, t1, zq1⟩ := h.at 1 (by decide)
  k_unfold
  (try clear gKz)
  subst zq1
  show (let gKz : Prop := ?_; gKz)
  intro gKz
  obtain ⟨v2, e2, t2, zq1⟩ := h.at 2 (by decide)
  k_unfold
  (try clear gKz)
  subst zq1
  show (let gKz : Prop := ?_; gKz)
  intro gKz
  obtain ⟨v3, e3, t3, zq1⟩ := h.at 3 (by decide)
  k_unfold
  (try clear gKz)
  subst zq1
  show (let gKz : Prop := ?_; gKz)
  intro gKz
  obtain ⟨v4, e4, t4, zq1⟩ := h.at 4 (by decide)
  k_unfold
  (try clear gKz)
  subst zq1
  exact ⟨t0, t1, t2, t3, t4, list5 h.1 e0 e1 e2 e3 e4⟩
theorem rowS_20 {n k : Nat} (h : n ≤ 5) : (rowS n k).length ≤ 20 := by rw [rowS_len]; lia
end Mine
namespace Mine
theorem lift_tail {x : Addr × Obj} {base nw : Led} (h : ∀ p ∈ base, p ∈ nw) : ∀ p ∈ base, p ∈ x :: nw := fun p hp => List.mem_cons_of_mem _ (h p hp)
end Mine
end

section
open PySem PySem.W PyProof.Rows PySem.Calls
set_option Elab.async false
set_option maxRecDepth 100000
set_option maxHeartbeats 8000000
set_option linter.unusedVariables false
namespace Mine
noncomputable def lineL (d n k : Nat) : List Nat := List.replicate n d ++ [97 + k]
noncomputable def textL (d : Nat) : List (Nat × Nat) → List Nat
  | [] => []
  | (n, k) :: r => lineL d n k ++ (13 :: 10 :: textL d r)
noncomputable def bodyL : List (Nat × Nat) → Int → List Nat
  | [], _ => []
  | (n, k) :: r, t => lineL 46 n k ++ (nlL t ++ bodyL r (t + 1))
theorem bodyS_L : ∀ (ns : List (Nat × Nat)) (t : Int), (bodyS (ns.map fun p => rowS p.1 p.2) t).cps.toList = bodyL ns t
  | [], t => rfl
  | (n, k) :: r, t => by
    have ih := bodyS_L r (t + 1)
    show ((rowS n k).cps ++ (nlL t).toArray ++ (bodyS (r.map fun p => rowS p.1 p.2) (t + 1)).cps).toList = lineL 46 n k ++ (nlL t ++ bodyL r (t + 1))
    rw [Array.toList_append, Array.toList_append, ih]
    unfold rowS lineL
    simp
theorem cr_plain {c : Nat} {r : List Nat} (h1 : c ≠ 13) (h2 : c ≠ 10) : cr (c :: r) = c :: cr r := by
  conv => lhs; unfold cr
  split
  · rename_i q; cases q
  · rename_i q; cases q; exact absurd rfl h1
  · rename_i c' r' _ q
    cases q
    have e1 : (c == 13) = false := by simpa using h1
    have e2 : (c == 10) = false := by simpa using h2
    rw [e1, e2]; rfl
theorem cr_rep (n : Nat) (r : List Nat) : cr (List.replicate n 46 ++ r) = List.replicate n 46 ++ cr r := by
  induction n with
  | zero => rfl
  | succ n ih => rw [List.replicate_succ, List.cons_append, cr_plain (by decide) (by decide), ih]; rfl
theorem cr_line (n k : Nat) (r : List Nat) : cr (lineL 46 n k ++ r) = lineL 46 n k ++ cr r := by
  unfold lineL
  rw [List.append_assoc, cr_rep, List.append_assoc]
  congr 1
  exact cr_plain (by lia) (by lia)
theorem cr_nl (t : Int) (r : List Nat) (hr : ∀ x s, r = x :: s → x ≠ 10) : cr (nlL t ++ r) = 13 :: 10 :: cr r := by
  unfold nlL
  split
  · show cr (10 :: r) = _
    conv => lhs; unfold cr
    rfl
  · split
    · show cr (13 :: r) = _
      cases r with
      | nil => rfl
      | cons x s =>
        have := hr x s rfl
        conv => lhs; unfold cr
        split
        · rename_i q; cases q
        · rename_i q; cases q; exact absurd rfl this
        · rename_i c' r' _ q
          cases q; rfl
    · rfl
theorem line_head (n k : Nat) (r : List Nat) : ∀ x s, lineL 46 n k ++ r = x :: s → x ≠ 10 := fun x s h => by
  unfold lineL at h
  cases n with
  | zero => simp at h; lia
  | succ n => rw [List.replicate_succ] at h; simp at h; lia
theorem body_head (ns : List (Nat × Nat)) (t : Int) : ∀ x s, bodyL ns t = x :: s → x ≠ 10 := by
  cases ns with
  | nil => intro x s h; cases h
  | cons p r => exact line_head p.1 p.2 _
theorem text_head (ns : List (Nat × Nat)) : ∀ x s, textL 46 ns = x :: s → x ≠ 10 := by
  cases ns with
  | nil => intro x s h; cases h
  | cons p r => exact line_head p.1 p.2 _
theorem cr_body : ∀ (ns : List (Nat × Nat)) (t : Int), cr (bodyL ns t) = textL 46 ns
  | [], t => rfl
  | (n, k) :: r, t => by
    show cr (lineL 46 n k ++ (nlL t ++ bodyL r (t + 1))) = _
    rw [cr_line, cr_nl t _ (body_head r _), cr_body r]; rfl
theorem cr_text : ∀ (ns : List (Nat × Nat)), cr (textL 46 ns) = textL 46 ns
  | [] => rfl
  | (n, k) :: r => by
    show cr (lineL 46 n k ++ (13 :: 10 :: textL 46 r)) = _
    rw [cr_line]
    have : cr (13 :: 10 :: textL 46 r) = 13 :: 10 :: cr (textL 46 r) := rfl
    rw [this, cr_text r]; rfl
theorem dq_cons (b : Bool) (c : Nat) (r : List Nat) : dq b (c :: r) = (if b && c == 46 then [46, 46] else [c]) ++ dq (c == 10) r := rfl
theorem dq_plain {c : Nat} {r : List Nat} (h : c ≠ 10) : dq false (c :: r) = c :: dq false r := by
  have e : (c == 10) = false := by simpa using h
  rw [dq_cons, e]; rfl
theorem dq_rep (n : Nat) (r : List Nat) : dq false (List.replicate n 46 ++ r) = List.replicate n 46 ++ dq false r := by
  induction n with
  | zero => rfl
  | succ n ih => rw [List.replicate_succ, List.cons_append, dq_plain (by decide), ih]; rfl
theorem dq_text : ∀ (ns : List (Nat × Nat)), (∀ p ∈ ns, 1 ≤ p.1) → dq true (textL 46 ns) = textL 46 (ns.map fun p => (p.1 + 1, p.2))
  | [], _ => rfl
  | (n, k) :: r, h => by
    obtain ⟨j, rfl⟩ : ∃ j, n = j + 1 := ⟨n - 1, by have := h (n, k) (.head _); simp at this; lia⟩
    have ih := dq_text r fun p hp => h p (.tail _ hp)
    show dq true (lineL 46 (j + 1) k ++ (13 :: 10 :: textL 46 r)) = lineL 46 (j + 1 + 1) k ++ (13 :: 10 :: textL 46 (r.map fun p => (p.1 + 1, p.2)))
    unfold lineL
    rw [List.replicate_succ, List.replicate_succ (n := j + 1), List.replicate_succ (n := j)]
    have e1 : dq true (46 :: (List.replicate j 46 ++ [97 + k] ++ (13 :: 10 :: textL 46 r))) = 46 :: 46 :: dq false (List.replicate j 46 ++ [97 + k] ++ (13 :: 10 :: textL 46 r)) := by rw [dq_cons]; rfl
    show dq true (46 :: (List.replicate j 46 ++ [97 + k] ++ (13 :: 10 :: textL 46 r))) = _
    rw [e1, List.append_assoc, dq_rep]
    have e2 : dq false ([97 + k] ++ (13 :: 10 :: textL 46 r)) = (97 + k) :: 13 :: 10 :: dq true (textL 46 r) := by
      show dq false ((97 + k) :: 13 :: 10 :: textL 46 r) = _
      rw [dq_plain (by lia), dq_plain (by decide)]
      have : dq false (10 :: textL 46 r) = 10 :: dq true (textL 46 r) := by rw [dq_cons]; rfl
      rw [this]
    rw [e2, ih]
    simp
theorem quote_body (ns : List (Nat × Nat)) (t : Int) (h : ∀ p ∈ ns, 1 ≤ p.1) : quoteL (bodyS (ns.map fun p => rowS p.1 p.2) t).cps.toList = textL 46 (ns.map fun p => (p.1 + 1, p.2)) := by
  unfold quoteL
  rw [bodyS_L, cr_body, dq_text ns h]
theorem quote_text (ns : List (Nat × Nat)) (h : ∀ p ∈ ns, 1 ≤ p.1) : quoteL (textL 46 ns) = textL 46 (ns.map fun p => (p.1 + 1, p.2)) := by
  unfold quoteL
  rw [cr_text, dq_text ns h]
theorem textL_len (d : Nat) : ∀ ns : List (Nat × Nat), (∀ p ∈ ns, p.1 ≤ 10) → (textL d ns).length ≤ 13 * ns.length
  | [], _ => Nat.le_refl _
  | (n, k) :: r, h => by
    have ih := textL_len d r fun p hp => h p (.tail _ hp)
    have := h (n, k) (.head _)
    show (lineL d n k ++ (13 :: 10 :: textL d r)).length ≤ _
    unfold lineL
    simp only [List.length_append, List.length_replicate, List.length_cons, List.length_nil] at *
    lia
end Mine
namespace Mine
open PySem PySem.W PyProof.Rows PySem.Calls
noncomputable def IfPost (s : Shared) (h₀ : Heap) (L : Addr) (x u : Str) (m : Str → Option Value) (nw : Led) (f : Flow) (s' : Shared) : Prop :=
  f = .next ∧ ∃ h' tk tt, s' = { s with heap := h', toks := tk } ∧ Fr h₀ L h' (fun y => if y = x then some (.str u tt) else m y) ∧ News h₀ L h' nw
theorem if_join {Mo : Model} {A : Around} {t : Sem Flow} {Q : Flow → Shared → Prop} {E : Value → Shared → Prop} {s : Shared} {h₀ : Heap} {L : Addr} {m : Str → Option Value} {nw : Led} {x : Str} {v0 : Value} (u : Str)
    (_ : Fr h₀ L s.heap (fun y => if y = x then some v0 else m y)) (_ : News h₀ L s.heap nw)
    (h : wpAny Mo A t (IfPost s h₀ L x u m nw) E s)
    (k : ∀ h' tk tt, Fr h₀ L h' (fun y => if y = x then some (.str u tt) else m y) → News h₀ L h' nw → Q .next { s with heap := h', toks := tk }) : wpAny Mo A t Q E s :=
  wpAny_mono h (fun f s' p => by obtain ⟨rfl, h', tk, tt, rfl, F, N⟩ := p; exact k h' tk tt F N) fun _ _ e => e
theorem if_end {h₀ h' : Heap} {L : Addr} {m m' : Str → Option Value} {nw : Led} {x u : Str} {tt : Tok} {s : Shared} {tk : Nat} (F : Fr h₀ L h' m') (N : News h₀ L h' nw) (e : ∀ y, m' y = if y = x then some (.str u tt) else m y) :
    IfPost s h₀ L x u m nw .next { s with heap := h', toks := tk } :=
  ⟨rfl, h', tk, tt, rfl, by have : m' = fun y => if y = x then some (.str u tt) else m y := funext e
                            rw [← this]; exact F, N⟩
end Mine
namespace Mine
open PySem PySem.W PyProof.Rows PySem.Calls
theorem if_end2 {h₀ h' : Heap} {L : Addr} {m : Str → Option Value} {nw : Led} {x u : Str} {z : Option Value} {tt : Tok} {s : Shared} {tk : Nat} (F : Fr h₀ L h' (fun y => if y = x then some (.str u tt) else if y = x then z else m y)) (N : News h₀ L h' nw) :
    IfPost s h₀ L x u m nw .next { s with heap := h', toks := tk } := if_end (tt := tt) F N fun y => by
  by_cases hy : y = x
  · show (if y = x then _ else _) = _
    rw [if_pos hy, if_pos hy]
  · show (if y = x then _ else _) = _
    rw [if_neg hy, if_neg hy, if_neg hy]
end Mine
end

section
open PySem PySem.W PyProof.Rows PySem.Calls
set_option Elab.async false
set_option maxRecDepth 100000
set_option maxHeartbeats 8000000
set_option linter.unusedVariables false
namespace Mine
noncomputable def dS (n : Nat) : Str := ⟨(List.replicate n 46).toArray⟩
noncomputable def dnS (n : Nat) : Str := ⟨(List.replicate n 46 ++ [13, 10]).toArray⟩
noncomputable def IsDots (_ : Led) (k : Nat) (v : Value) : Prop := ∃ t, v = .str (dS (k + 1)) t
noncomputable def IsDotsN (_ : Led) (k : Nat) (v : Value) : Prop := ∃ t, v = .str (dnS (k + 2)) t
theorem dS_20 {n : Nat} (h : n ≤ 5) : (dS n).length ≤ 20 := by show (List.replicate n 46).toArray.size ≤ 20; simp; lia
theorem JG.dots {base nw : Led} {ys : List Value} (h : JG IsDots base 5 ys nw) : ∃ t0 t1 t2 t3 t4, ys = [.str (dS 1) t0, .str (dS 2) t1, .str (dS 3) t2, .str (dS 4) t3, .str (dS 5) t4] := by
  show (let gKz : Prop := ?_; gKz)
  intro gKz
  obtain ⟨v0, e0, t0, zq1⟩ := h.at 0 (by decide)
  k_unfold
  (try clear gKz)
  subst zq1
  show (let gKz : Prop := ?_; gKz)
  intro gKz
  obtain ⟨v1, e1, t1, zq1⟩ := h.at 1 (by decide)
  k_unfold
  (try clear gKz)
  subst zq1
  show (let gKz : Prop := ?_; gKz)
  intro gKz
  obtain ⟨v2, e2, t2, zq1⟩ := h.at 2 (by decide)
  k_unfold
  (try clear gKz)
  subst zq1
  show (let gKz : Prop := ?_; gKz)
  intro gKz
  obtain ⟨v3, e3, t3, zq1⟩ := h.at 3 (by decide)
  k_unfold
  (try clear gKz)
  subst zq1
  show (let gKz : Prop := ?_; gKz)
  intro gKz
  obtain ⟨v4, e4, t4, zq1⟩ := h.at 4 (by decide)
  k_unfold
  (try clear gKz)
  subst zq1
  exact ⟨t0, t1, t2, t3, t4, list5 h.1 e0 e1 e2 e3 e4⟩
theorem JG.dotsN {base nw : Led} {ys : List Value} (h : JG IsDotsN base 5 ys nw) : ∃ t0 t1 t2 t3 t4, ys = [.str (dnS 2) t0, .str (dnS 3) t1, .str (dnS 4) t2, .str (dnS 5) t3, .str (dnS 6) t4] := by
  show (let gKz : Prop := ?_; gKz)
  intro gKz
  obtain ⟨v0, e0, t0, zq1⟩ := h.at 0 (by decide)
  k_unfold
  (try clear gKz)
  subst zq1
  show (let gKz : Prop := ?_; gKz)
  intro gKz
  obtain ⟨v1, e1, t1, zq1⟩ := h.at 1 (by decide)
  k_unfold
  (try clear gKz)
  subst zq1
  show (let gKz : Prop := ?_; gKz)
  intro gKz
  obtain ⟨v2, e2, t2, zq1⟩ := h.at 2 (by decide)
  k_unfold
  (try clear gKz)
  subst zq1
  show (let gKz : Prop := ?_; gKz)
  intro gKz
  obtain ⟨v3, e3, t3, zq1⟩ := h.at 3 (by decide)
  k_unfold
  (try clear gKz)
  subst zq1
  show (let gKz : Prop := ?_; gKz)
  intro gKz
  obtain ⟨v4, e4, t4, zq1⟩ := h.at 4 (by decide)
  k_unfold
  (try clear gKz)
  subst zq1
  exact ⟨t0, t1, t2, t3, t4, list5 h.1 e0 e1 e2 e3 e4⟩
theorem dots_of {nw : Led} {i : Nat} {t : Tok} : IsDots nw i (.str ⟨(List.replicate (0 + (i : Int) + 1).toNat 46).toArray⟩ t) := ⟨t, by unfold dS; rw [show (0 + (i : Int) + 1).toNat = i + 1 by lia]⟩
noncomputable def wantsL : List Nat := [46, 46, 13, 10, 46, 46, 46, 13, 10, 46, 46, 46, 46, 13, 10, 46, 46, 46, 46, 46, 13, 10, 46, 46, 46, 46, 46, 46, 13, 10]
noncomputable def wantsS : Str := ⟨wantsL.toArray⟩
theorem wants_is (t : Int) : quoteL (bodyS [dS 1, dS 2, dS 3, dS 4, dS 5] t).cps.toList = wantsL := by
  have h3 : t % 3 = 0 ∨ t % 3 = 1 ∨ t % 3 = 2 := by lia
  have k0 : ∀ x : Int, x % 3 = 0 → nlS x = ⟨#[10]⟩ := fun x h => by unfold nlS nlL; rw [if_pos h]
  have k1 : ∀ x : Int, x % 3 = 1 → nlS x = ⟨#[13]⟩ := fun x h => by unfold nlS nlL; rw [if_neg (by lia), if_pos h]
  have k2 : ∀ x : Int, x % 3 = 2 → nlS x = ⟨#[13, 10]⟩ := fun x h => by unfold nlS nlL; rw [if_neg (by lia), if_neg (by lia)]
  unfold bodyS bodyS bodyS bodyS bodyS bodyS
  rcases h3 with h | h | h
  · rw [k0 t h, k1 (t + 1) (by lia), k2 (t + 1 + 1) (by lia), k0 (t + 1 + 1 + 1) (by lia), k1 (t + 1 + 1 + 1 + 1) (by lia)]
    decide +kernel
  · rw [k1 t h, k2 (t + 1) (by lia), k0 (t + 1 + 1) (by lia), k1 (t + 1 + 1 + 1) (by lia), k2 (t + 1 + 1 + 1 + 1) (by lia)]
    decide +kernel
  · rw [k2 t h, k0 (t + 1) (by lia), k1 (t + 1 + 1) (by lia), k2 (t + 1 + 1 + 1) (by lia), k0 (t + 1 + 1 + 1 + 1) (by lia)]
    decide +kernel
section
variable {prog : Program} {w : World} {A : Around} {E : Value → Shared → Prop} {s : Shared} {h₀ : Heap} {L : Addr} {m : Str → Option Value} {news : Led}
theorem add_nl {i : Nat} {t u : Tok} {Q : Value → Shared → Prop} (hi : i < 5) (h : ∀ t tk, Q (.str (dnS (i + 2)) t) { s with toks := tk }) :
    wpAny (model prog w) A (binaryOp .Add (.str ⟨(List.replicate (0 + (i : Int) + 2).toNat 46).toArray⟩ t) (.str (Str.ofString "\r\n") u)) Q E s := by
  have e2 : Str.ofString "\r\n" = ⟨#[13, 10]⟩ := by decide +kernel
  rw [e2, show (0 + (i : Int) + 2).toNat = i + 2 by lia]
  have e : (⟨(List.replicate (i + 2) 46).toArray⟩ : Str) ++ ⟨#[13, 10]⟩ = dnS (i + 2) := by
    show (⟨(List.replicate (i + 2) 46).toArray ++ #[13, 10]⟩ : Str) = _
    unfold dnS; congr 1; apply Array.ext'; simp
  refine add_str (fun t tk => by rw [e]; exact h t tk) ?_
  rw [sizeLine_eq]
  have h1 : (⟨(List.replicate (i + 2) 46).toArray⟩ : Str).length = i + 2 := by show (List.replicate (i + 2) 46).toArray.size = _; simp
  have h2 : (⟨#[13, 10]⟩ : Str).length = 2 := rfl
  lia
theorem ne_same {x y : Str} {t u : Tok} {Q : Value → Shared → Prop} (e : x = y) (h : Q (.bool false) s) : wpAny (model prog w) A (compareOp .NotEq (.str x t) (.str y u)) Q E s := by
  subst e
  exact ne_str (by simpa using h)
end
end Mine
namespace Mine
open PySem PySem.W PyProof.Rows PySem.Calls
theorem wants_join : Txt.join (Str.ofString "") [dnS 2, dnS 3, dnS 4, dnS 5, dnS 6] = wantsS := by
  have e : Str.ofString "" = ⟨#[]⟩ := by decide +kernel
  rw [e, join_flat]
  decide +kernel
theorem join_wants {prog : Program} {w : World} {A : Around} {E : Value → Shared → Prop} {s : Shared} {h₀ : Heap} {L : Addr} {news : Led} {D : Addr} {c : Nat} {t t0 t1 t2 t3 t4 : Tok} {Q : Value → Shared → Prop} (N : News h₀ L s.heap news)
    (hm : (D, listO [.str (dnS 2) t0, .str (dnS 3) t1, .str (dnS 4) t2, .str (dnS 5) t3, .str (dnS 6) t4] c) ∈ news) (h : ∀ t k, Q (.str wantsS t) { s with toks := k }) :
    wpAny (model prog w) A (call (.builtin "str.join") [.str (Str.ofString "") t, .ref D]) Q E s :=
  join_list (ys := [dnS 2, dnS 3, dnS 4, dnS 5, dnS 6]) ⟨_, (N _ hm).1, rfl, _, rfl⟩ (.cons _ _ (.cons _ _ (.cons _ _ (.cons _ _ (.cons _ _ .nil))))) (by
    have : (Str.ofString "").length = 0 := by decide +kernel
    rw [this]; decide +kernel) fun t k => by rw [wants_join]; exact h t k
end Mine
namespace Mine
open PySem PySem.W PyProof.Rows PySem.Calls
structure BigL (nw : Led) (P M K S : Addr) (pcs mcs : Nat → Col4) (vsK : List Value) (cK : Nat) : Prop where
  hP : ColsIn nw P 5 pcs
  hM : ColsIn nw M 4 mcs
  hK : (K, listO vsK cK) ∈ nw
  hk : KeptIn nw vsK (insAll (fcol mcs) 4)
  hS : SeensIn nw S 5 (fcol pcs)
theorem BigL.upS {nw nw' : Led} {P M K S : Addr} {pcs mcs : Nat → Col4} {vsK : List Value} {cK : Nat} (h : BigL nw P M K S pcs mcs vsK cK) (s : ∀ p ∈ nw, NoCell p.2 → p ∈ nw') : BigL nw' P M K S pcs mcs vsK cK :=
  ⟨h.hP.upS s, h.hM.upS s, s _ h.hK (nocell_list _ _), h.hk.upS s, h.hS.upS s⟩
theorem BigL.up {nw nw' : Led} {P M K S : Addr} {pcs mcs : Nat → Col4} {vsK : List Value} {cK : Nat} (h : BigL nw P M K S pcs mcs vsK cK) (s : ∀ p ∈ nw, p ∈ nw') : BigL nw' P M K S pcs mcs vsK cK := h.upS fun p hp _ => s p hp
end Mine
namespace Mine
open PySem PySem.W PyProof.Rows PySem.Calls
variable {w : World} {p : Program} {loose : List Str} {mean : ExcName → Option Value} {mg mb : Str → Option Value}
theorem wants_con (l : Addr) (c : Nat) (t0 t1 t2 t3 t4 tk : Tok) (k : Int) (news : Led) (hl : (l, listO [.str (dS 1) t0, .str (dS 2) t1, .str (dS 3) t2, .str (dS 4) t3, .str (dS 5) t4] c) ∈ news) (hk0 : 0 ≤ k) (hk1 : k < 2 ^ 40) :
    Con w p loose mean mg mb 122 [.ref l, .int k tk] news 4 32 (fun r n' => ∃ t, r = .str wantsS t ∧ news = n') :=
  (mail_con l c _ _ _ _ _ t0 t1 t2 t3 t4 tk k news hl (dS_20 (by decide)) (dS_20 (by decide)) (dS_20 (by decide)) (dS_20 (by decide)) (dS_20 (by decide)) hk0 hk1).mono fun r n h => by
    obtain ⟨t, e1, e2⟩ := h
    rw [wants_is] at e1
    exact ⟨t, e1, e2⟩
end Mine
namespace Mine
open PySem PySem.W PyProof.Rows PySem.Calls
theorem join_wantsK {prog : Program} {w : World} {A : Around} {E : Value → Shared → Prop} {s : Shared} {h₀ : Heap} {L : Addr} {news : Led} {D : Addr} {c : Nat} {t t0 t1 t2 t3 t4 : Tok} {Q : Value → Shared → Prop} (hn : 1 ≤ s.toks) (N : News h₀ L s.heap news)
    (hm : (D, listO [.str (dnS 2) t0, .str (dnS 3) t1, .str (dnS 4) t2, .str (dnS 5) t3, .str (dnS 6) t4] c) ∈ news) (h : ∀ t k, 1 ≤ k → Q (.str wantsS t) { s with toks := k }) :
    wpAny (model prog w) A (call (.builtin "str.join") [.str (Str.ofString "") t, .ref D]) Q E s :=
  wpAny_with_toks hn (join_wants N hm fun t k => fun hk => h t k hk)
noncomputable def wantsB : Str := ⟨(wantsL.map fun c => if c = 46 then 33 else c).toArray⟩
theorem wants_rep : Txt.replace wantsS (Str.ofString ".") (Str.ofString "!") = wantsB := by decide +kernel
theorem rep_wants {prog : Program} {w : World} {A : Around} {E : Value → Shared → Prop} {s : Shared} {t u v : Tok} {Q : Value → Shared → Prop} (hu : 1 ≤ u) (hv : v = u + 1) (hq : ∀ t' k, Q (.str wantsB t') { s with toks := k }) :
    wpAny (model prog w) A (call (.builtin "str.replace") [.str wantsS t, .str (Str.ofString ".") u, .str (Str.ofString "!") v]) Q E s := by
  subst hv
  have k1 : ∀ n : Nat, 1 ≤ n → n ≠ 0 := fun n h => by lia
  have k2 : ∀ n : Nat, n + 1 ≠ 0 := fun n => by lia
  have k3 : ∀ n : Nat, n ≠ n + 1 := fun n => by lia
  refine SC.replaceW (k1 _ hu) (k2 _) (k3 _) (by decide +kernel) (by decide +kernel) (by decide +kernel) fun t' k => ?_
  rw [wants_rep]; exact hq t' k
noncomputable def bangS (n : Nat) : Str := ⟨(List.replicate n 33).toArray⟩
theorem split_wants : Txt.split wantsB (Str.ofString "\r\n") = [bangS 2, bangS 3, bangS 4, bangS 5, bangS 6, Str.ofString ""] := by decide +kernel
end Mine
end

section
open PySem PySem.W PyProof.Rows PySem.Calls
set_option Elab.async false
set_option maxRecDepth 100000
set_option maxHeartbeats 8000000
set_option linter.unusedVariables false
namespace Mine
section
variable {prog : Program} {w : World} {A : Around} {E : Value → Shared → Prop} {s : Shared} {h₀ : Heap} {L : Addr} {m : Str → Option Value} {news : Led}
theorem split_six {t u : Tok} {Q : Value → Shared → Prop} (hF : Fr h₀ L s.heap m) (hN : News h₀ L s.heap news)
    (h : ∀ D t0 t1 t2 t3 t4 t5 h' k, Fr h₀ L h' m → News h₀ L h' ((D, listO [.str (bangS 2) t0, .str (bangS 3) t1, .str (bangS 4) t2, .str (bangS 5) t3, .str (bangS 6) t4, .str (Str.ofString "") t5] 0) :: news) → (∀ p ∈ news, p.1 < D) → Q (.ref D) { s with heap := h', toks := k }) :
    wpAny (model prog w) A (call (.builtin "str.split") [.str wantsB t, .str (Str.ofString "\r\n") u]) Q E s := by
  refine KSpl.split1 hF hN (by decide +kernel) (fun D l h' k e _ F N l1 => ?_) (by rw [sizeLine_eq]; decide +kernel)
  have e := e.trans split_wants
  obtain ⟨t0, q0, e1, e⟩ := KSpl.cons_of e
  obtain ⟨t1, q1, e2, e⟩ := KSpl.cons_of e
  obtain ⟨t2, q2, e3, e⟩ := KSpl.cons_of e
  obtain ⟨t3, q3, e4, e⟩ := KSpl.cons_of e
  obtain ⟨t4, q4, e5, e⟩ := KSpl.cons_of e
  obtain ⟨t5, q5, e6, e⟩ := KSpl.cons_of e
  have e7 := KSpl.nil_of e
  rw [e1, e2, e3, e4, e5, e6, e7] at N
  exact h D t0 t1 t2 t3 t4 t5 h' k F N l1
theorem pick_init (a0 a1 a2 a3 a4 a5 : Value) : (slicePick [a0, a1, a2, a3, a4, a5].toArray none (some (-1)) none).toList = [a0, a1, a2, a3, a4] := by with_unfolding_all rfl
theorem slice_init {value slice : PySem.Expr} {l : Addr} {a0 a1 a2 a3 a4 a5 : Value} {c : Nat} {t : Tok} {Q : Value → Shared → Prop} (F : Fr h₀ L s.heap m) (N : News h₀ L s.heap news) (hl : (l, listO [a0, a1, a2, a3, a4, a5] c) ∈ news)
    (h : ∀ D h', Fr h₀ L h' m → News h₀ L h' ((D, listO [a0, a1, a2, a3, a4] 0) :: news) → (∀ p ∈ news, p.1 < D) → Q (.ref D) { s with heap := h' })
    (hs : subscripted slice false (.ref l) (.ref s.heap.objs.size) = operate [.ref s.heap.objs.size, .ref l] (getItem (.ref l) (.ref s.heap.objs.size))) (ht : ∀ r, letTemporaryGo value (.ref l) r = pure ()) :
    wpAny (model prog w) A (subscriptTail value slice (.ref l) (.ref s.heap.objs.size)) Q E { s with heap := s.heap.push { cls := .type "slice", data := .fields #[.none, .int (-1) t, .none] } } :=
  kmk_slice_lit F N ⟨_, (N _ hl).1, rfl, _, rfl⟩ IsPart.none (IsPart.int _ _) (pick_init ..) h hs ht (by rw [List.size_toArray, sizeLine_eq]; simp)
end
end Mine
namespace Mine
open PySem PySem.W PyProof.Rows PySem.Calls
noncomputable def swp (c d : Nat) (l : List Nat) : List Nat := l.map fun k => if k = c then d else k
theorem swp_free (c d : Nat) : ∀ l : List Nat, c ∉ l → swp c d l = l
  | [], _ => rfl
  | k :: r, h => by
    have h1 : ¬ k = c := fun e => h (e ▸ List.mem_cons_self ..)
    have h2 : c ∉ r := fun m => h (List.mem_cons_of_mem _ m)
    have ih := swp_free c d r h2
    unfold swp at *
    rw [List.map_cons, if_neg h1, ih]
theorem swp_join (c d : Nat) : ∀ parts : List Str, (∀ p ∈ parts, c ∉ p.cps.toList) → swp c d (Str.join ⟨#[c]⟩ parts).cps.toList = (Str.join ⟨#[d]⟩ parts).cps.toList
  | [], _ => rfl
  | [p], h => swp_free c d _ (h p (List.mem_singleton.mpr rfl))
  | p :: q :: r, h => by
    have ih := swp_join c d (q :: r) fun a ha => h a (List.mem_cons_of_mem _ ha)
    have hp := swp_free c d _ (h p (List.mem_cons_self ..))
    show swp c d (p ++ ⟨#[c]⟩ ++ Str.join ⟨#[c]⟩ (q :: r)).cps.toList = (p ++ ⟨#[d]⟩ ++ Str.join ⟨#[d]⟩ (q :: r)).cps.toList
    simp only [Str.cps_append, Array.toList_append]
    unfold swp at *
    rw [List.map_append, List.map_append, ih, hp]
    simp
theorem replace_swp (x : Str) (c d : Nat) : (Txt.replace x ⟨#[c]⟩ ⟨#[d]⟩).cps.toList = swp c d x.cps.toList := by
  rw [StrLaws.replace_one, ← swp_join c d _ (StrLaws.split_free x c), StrLaws.join_split]
theorem swp_text : ∀ ns : List (Nat × Nat), swp 46 33 (textL 46 ns) = textL 33 ns
  | [] => rfl
  | (n, k) :: r => by
    have ih := swp_text r
    show swp 46 33 (lineL 46 n k ++ (13 :: 10 :: textL 46 r)) = lineL 33 n k ++ (13 :: 10 :: textL 33 r)
    unfold swp lineL at *
    rw [List.map_append, List.map_append, List.map_cons, List.map_cons, List.map_cons, ih, List.map_replicate]
    simp
    lia
theorem mail_rep (ns : List (Nat × Nat)) : Txt.replace ⟨(textL 46 ns).toArray⟩ (Str.ofString ".") (Str.ofString "!") = ⟨(textL 33 ns).toArray⟩ := by
  have e1 : Str.ofString "." = ⟨#[46]⟩ := by decide +kernel
  have e2 : Str.ofString "!" = ⟨#[33]⟩ := by decide +kernel
  rw [e1, e2]
  have h := replace_swp ⟨(textL 46 ns).toArray⟩ 46 33
  have h2 : (Txt.replace ⟨(textL 46 ns).toArray⟩ ⟨#[46]⟩ ⟨#[33]⟩).cps = (textL 33 ns).toArray := by
    apply Array.ext'
    rw [h, ← swp_text ns]
  generalize Txt.replace ⟨(textL 46 ns).toArray⟩ ⟨#[46]⟩ ⟨#[33]⟩ = z at *
  cases z
  simp at h2 ⊢
  exact h2
theorem rep_mail {prog : Program} {w : World} {A : Around} {E : Value → Shared → Prop} {s : Shared} {t u v : Tok} {Q : Value → Shared → Prop} {ns : List (Nat × Nat)} (hu : 1 ≤ u) (hv : v = u + 1) (hl : (textL 46 ns).length ≤ 200) (hq : ∀ t' k, Q (.str ⟨(textL 33 ns).toArray⟩ t') { s with toks := k }) :
    wpAny (model prog w) A (call (.builtin "str.replace") [.str ⟨(textL 46 ns).toArray⟩ t, .str (Str.ofString ".") u, .str (Str.ofString "!") v]) Q E s := by
  subst hv
  have k1 : ∀ n : Nat, 1 ≤ n → n ≠ 0 := fun n h => by lia
  have k2 : ∀ n : Nat, n + 1 ≠ 0 := fun n => by lia
  have k3 : ∀ n : Nat, n ≠ n + 1 := fun n => by lia
  have hx : (⟨(textL 46 ns).toArray⟩ : Str).length = (textL 46 ns).length := by show (textL 46 ns).toArray.size = _; simp
  refine SC.replaceW (k1 _ hu) (k2 _) (k3 _) (by decide +kernel) (by rw [hx]; lia) (by decide +kernel) fun t' k => ?_
  rw [mail_rep]; exact hq t' k
end Mine
namespace Mine
open PySem PySem.W PyProof.Rows PySem.Calls
noncomputable def PiecesIn (nw : Led) (l : Addr) : Prop := ∃ t0 t1 t2 t3 t4 c, (l, listO [.str (bangS 2) t0, .str (bangS 3) t1, .str (bangS 4) t2, .str (bangS 5) t3, .str (bangS 6) t4] c) ∈ nw
theorem PiecesIn.upS {nw nw' : Led} {l : Addr} (h : PiecesIn nw l) (s : ∀ p ∈ nw, NoCell p.2 → p ∈ nw') : PiecesIn nw' l := by
  obtain ⟨t0, t1, t2, t3, t4, c, h⟩ := h; exact ⟨t0, t1, t2, t3, t4, c, s _ h (nocell_list _ _)⟩
end Mine
end

section
open PySem PySem.W PyProof.Rows PySem.Calls
set_option Elab.async false
set_option maxRecDepth 100000
set_option maxHeartbeats 8000000
set_option linter.unusedVariables false
namespace Mine
theorem newEnv_cell {M : Model} {A : Around} {E : Value → Shared → Prop} {s : Shared} {scope : Scope} {globals : Addr} {closure : List (Str × Addr)} {qual d0 x g1 g2 : Str} {env : Env} {Q : Env → Shared → Prop}
    (hn : scope.names = [(d0, .local), (x, .cell), (g1, .free), (g2, .free)])
    (hQ : Q { scope, locals := s.heap.objs.size, globals, cells := (x, s.heap.objs.size + 1) :: closure, qual, func := none, code := env.code, frame := env.frame, builtins := env.builtins }
      { s with heap := (s.heap.push { cls := .type "dict", data := .dict #[] }).push { cls := .type "cell", data := .cell none } }) :
    wpAny M A (newFunctionEnv scope globals closure [] qual none .none (some env)) Q E s := by
  unfold newFunctionEnv
  rw [hn]
  refine wpAny_bind (wpAny_alloc ?_)
  simp only [List.forIn_cons, List.forIn_nil, show (NameKind.local == NameKind.cell) = false from rfl, show (NameKind.cell == NameKind.cell) = true from rfl, show (NameKind.free == NameKind.cell) = false from rfl, if_true, Bool.false_eq_true, if_false, pure_bind]
  refine wpAny_bind (wpAny_bind (wpAny_bind (wpAny_alloc ?_)))
  refine wpAny_pure ?_
  dsimp only
  refine wpAny_pure ?_
  refine wpAny_pure ?_
  have e : (s.heap.push { cls := .type "dict", data := .dict #[] }).objs.size = s.heap.objs.size + 1 := Heap.size_push ..
  rw [← e] at hQ
  exact hQ
end Mine
namespace Mine
open PySem PySem.W PyProof.Rows PySem.Calls
noncomputable def Off4 (I cc C D : Addr) (nw : Led) : Prop := ∀ p ∈ nw, p.1 ≠ I ∧ p.1 ≠ cc ∧ p.1 ≠ C ∧ p.1 ≠ D
noncomputable def CellEnd (h₀ : Heap) (L : Addr) (m : Str → Option Value) (s₁ : Shared) (I : Addr) (oI : Obj) (cc : Addr) (oc : Obj) (C : Addr) (oC : Obj) (D : Addr) (oD : Obj) (R : Value → Led → Prop) (y : Value) (s₂ : Shared) : Prop :=
  ∃ h' tk nw', s₂ = { s₁ with heap := h', toks := tk } ∧ Fr h₀ L h' m ∧ News h₀ L h' ((I, oI) :: (cc, oc) :: (C, oC) :: (D, oD) :: nw') ∧ Off4 I cc C D nw' ∧ R y nw'
section
variable {prog : Program} {w : World} {A : Around} {E : Value → Shared → Prop} {s : Shared} {h₀ : Heap} {L : Addr} {m : Str → Option Value} {env : Env}
inductive InvC (h₀ : Heap) (L : Addr) (m : Str → Option Value) (s₂ : Shared) (n : Nat) (St : Nat → Heap → Prop) (I cc C D : Addr) (J : Nat → List Value → Led → Prop) : Nat → Shared → Prop
  | mk (h' : Heap) (tk i : Nat) (ys : List Value) (m' : Str → Option Value) (nw : Led) (oc : Obj) (v₀ : Option Value) (hi : i ≤ n) (hyl : ys.length = i) (hst : St i h') (F : Fr h₀ L h' m) (hn : h'.Ns C m') (hcl : h'.get? cc = some oc) (hcd : oc.data = .cell v₀)
      (N : News h₀ L h' ((D, LCg.lst ys) :: nw)) (off : Off4 I cc C D nw) (hJ : J i ys nw) :
    InvC h₀ L m s₂ n St I cc C D J (n + 1 - i) { s₂ with heap := h', toks := tk }
theorem block_cell {elt iter : Expr} {x d0 g1 g2 : Str} {px : Pos} {scope : Scope} {cl : List (Str × Addr)} {pos : Pos} {s₂ : Shared} {I : Addr} {n : Nat} {P : Nat → Value → Prop} {St : Nat → Heap → Prop} {news : Led}
    {RR : Value → Addr → Result → Shared → Prop} (J : Nat → List Value → Led → Prop)
    (W : Walks prog w A I [I] [I] n P St) (hsz : n ≤ 1000) (hIo : ∀ i h, St i h → ∃ o, h.get? I = some o) (hSt : ∀ i h h' o, St i h → h.get? I = some o → h'.get? I = some o → St i h')
    (hn : scope.names = [(d0, .local), (x, .cell), (g1, .free), (g2, .free)]) (hkind : scope.kind = .function) (hxk : ∀ C cl, (compEnvC scope cl C env).kindOf x = some .cell) (hst : St 0 s₂.heap)
    (F : Fr h₀ L s₂.heap m) (N : News h₀ L s₂.heap news) (hIlt : I < s₂.heap.objs.size) (hIL : L ≠ I) (hI₀ : h₀.get? I = none) (off : ∀ p ∈ news, p.1 ≠ I) (hJ : J 0 [] news)
    (step : ∀ i ys nw v I oI cc oc C oC D h tk (E' : Value → Shared → Prop), i < n → J i ys nw → P i v → oc.data = .cell (some v) → Fr h₀ L h m → News h₀ L h ((I, oI) :: (cc, oc) :: (C, oC) :: (D, LCg.lst ys) :: nw) → Off4 I cc C D nw →
      ((@Ne Nat I cc) ∧ (@Ne Nat I C) ∧ (@Ne Nat I D) ∧ (@Ne Nat cc C) ∧ (@Ne Nat cc D) ∧ (@Ne Nat C D)) →
      wpAny (model prog w) A (eval elt (compEnvC scope ((x, cc) :: cl) C env)) (CellEnd h₀ L m { s₂ with heap := h, toks := tk } I oI cc oc C oC D (LCg.lst ys) (fun y nw' => J (i + 1) (ys ++ [y]) nw')) E' { s₂ with heap := h, toks := tk })
    (hRR : ∀ D C h tk m' ys nw, Fr h₀ L h m → News h₀ L h ((D, LCg.lst ys) :: nw) → (∀ p ∈ nw, p.1 ≠ D) → h.Ns C m' → h₀.get? C = none → h₀.get? D = none → C ≠ L → D ≠ L → C ≠ D → (∀ p ∈ nw, p.1 ≠ C) → J n ys nw → RR (.ref D) C (.ok .next) { s₂ with heap := h, toks := tk }) :
    wpAny (model prog w) A (newList []) (fun acc s₃ => wpAny (model prog w) A (newFunctionEnv scope env.globals cl [] env.qual none .none (some env)) (fun cenv s₄ =>
      codeAny (model prog w) A (.compStart (.ListComp elt [⟨.Name x px, iter, [], 0⟩] scope pos) 0 (.ref I) acc { cenv with scope := relabel scope env }) (RR acc cenv.locals) s₄) E s₃) E s₂ := by
  refine wpAny_newObj_type (newEnv_cell hn ?_)
  dsimp only
  generalize hH2 : s₂.heap.push { cls := .type "list", dict := none, data := .seq ([] : List Value).toArray } = H2
  have hC : H2.objs.size = s₂.heap.objs.size + 1 := by rw [← hH2, Heap.size_push]
  generalize hH3 : H2.push { cls := .type "dict", data := .dict #[] } = H3
  have hcc : H3.objs.size = s₂.heap.objs.size + 2 := by rw [← hH3, Heap.size_push, hC]
  have hcc' : H2.objs.size + 1 = H3.objs.size := by rw [hC, hcc]
  rw [hcc']
  generalize hH4 : H3.push { cls := .type "cell", data := .cell none } = h₁
  have up3 : ∀ b o, H3.get? b = some o → h₁.get? b = some o := fun b o e => hH4 ▸ Heap.get?_push_of_some _ e
  have up2 : ∀ b o, H2.get? b = some o → h₁.get? b = some o := fun b o e => up3 b o (hH3 ▸ Heap.get?_push_of_some _ e)
  have old : ∀ b o, s₂.heap.get? b = some o → h₁.get? b = some o := fun b o e => up2 b o (hH2 ▸ Heap.get?_push_of_some _ e)
  have hacc : h₁.get? s₂.heap.objs.size = some (LCg.lst []) := up2 _ _ (hH2 ▸ Heap.get?_push_size _ rfl)
  have hnsC : h₁.Ns H2.objs.size (fun _ => none) := (hH3 ▸ Heap.Ns.new H2 (.type "dict") : H3.Ns H2.objs.size (fun _ => none)).keeps up3
  have hcell : h₁.get? H3.objs.size = some { cls := .type "cell", data := .cell none } := hH4 ▸ Heap.get?_push_size _ rfl
  have fresh : ∀ a, s₂.heap.objs.size ≤ a → s₂.heap.get? a = none := fun a ha => by
    cases e : s₂.heap.get? a with
    | none => rfl
    | some o' => exact absurd (Heap.lt_size e) (Nat.not_lt.mpr ha)
  have fresh₀ : ∀ a, s₂.heap.objs.size ≤ a → h₀.get? a = none := fun a ha => by
    cases e : h₀.get? a with
    | none => rfl
    | some o' => have := F.keep a o' e; rw [fresh a ha] at this; cases this
  have hLlt : L < s₂.heap.objs.size := F.ns.lt
  have below : ∀ b, b < s₂.heap.objs.size → b ≠ H3.objs.size ∧ b ≠ H2.objs.size ∧ b ≠ s₂.heap.objs.size := fun b hb => by rw [hcc, hC]; exact ⟨Nat.ne_of_lt (by lia), Nat.ne_of_lt (by lia), Nat.ne_of_lt hb⟩
  have hD₀ := fresh₀ s₂.heap.objs.size (Nat.le_refl _)
  have hC₀ : h₀.get? H2.objs.size = none := fresh₀ _ (by rw [hC]; lia)
  have hcc₀ : h₀.get? H3.objs.size = none := fresh₀ _ (by rw [hcc]; lia)
  have nDC : s₂.heap.objs.size ≠ H2.objs.size := by rw [hC]; exact Nat.ne_of_lt (by lia)
  have nDcc : s₂.heap.objs.size ≠ H3.objs.size := by rw [hcc]; exact Nat.ne_of_lt (by lia)
  have nCcc : H2.objs.size ≠ H3.objs.size := by rw [hcc, hC]; exact Nat.ne_of_lt (by lia)
  obtain ⟨nIcc, nIC, nID⟩ := below I hIlt
  obtain ⟨nLcc, nLC, nLD⟩ := below L hLlt
  have off₀ : Off4 I H3.objs.size H2.objs.size s₂.heap.objs.size news := fun p hp => ⟨off p hp, (below _ (Heap.lt_size (N p hp).1)).1, (below _ (Heap.lt_size (N p hp).1)).2.1, (below _ (Heap.lt_size (N p hp).1)).2.2⟩
  have hst₁ : St 0 h₁ := W.frame _ _ _ hst fun b _ o e => old b o e
  have loop : ∀ s₃ : Shared, s₃ = { s₂ with heap := h₁ } →
      codeAny (model prog w) A (.compLoop (.ListComp elt [⟨.Name x px, iter, [], 0⟩] scope pos) 0 (.ref I) (.ref s₂.heap.objs.size) (compEnvC scope ((x, H3.objs.size) :: cl) H2.objs.size env))
        (RR (.ref s₂.heap.objs.size) H2.objs.size) s₃ := by
    rintro s₃ rfl
    refine codeAny_compLoop_tests
      (InvC h₀ L m s₂ n St I H3.objs.size H2.objs.size s₂.heap.objs.size J) ?_ (n + 1)
      (.mk h₁ _ 0 [] _ news _ _ (Nat.zero_le _) rfl hst₁ (F.keeps old) hnsC hcell rfl (fun p hp => ?_) off₀ hJ)
    · rintro k s' ⟨h', tk, i, ys, m', nw, oc, v₀, hi, hyl, hst', F', hn', hcl', hcd', N', off', hJ'⟩
      by_cases hlt : i < n
      · refine W.item i _ _ _ hlt hst' fun v h₂ tk₂ hPv hst₂ hk₂ => ?_
        have hcl₂ : h₂.get? H3.objs.size = some oc := hk₂ _ _ (by simpa using Ne.symm nIcc) hcl'
        refine wpAny_assign_Name (wpAny_storeName_cell (c := H3.objs.size) (by simp [compEnvC, relabel, hkind]) (hxk _ _) (by simp [compEnvC]) ⟨oc, hcl₂, hcd'⟩ fun h₃ hv₃ hs₃ => ?_)
        refine wpAny_tests_nil ?_
        simp only [if_true]
        obtain ⟨oc₃, hcl₃, hcd₃⟩ := hv₃
        have hst₃ : St (i + 1) h₃ := W.frame _ _ _ hst₂ fun b hb o e => hs₃.extBut b o (fun q => nIcc (by rw [← List.mem_singleton.mp hb]; exact q)) e
        obtain ⟨oI, heI⟩ := hIo _ _ hst₃
        have hn₃ : h₃.Ns H2.objs.size m' := (hn'.at' fun o e => hk₂ _ o (by simpa using Ne.symm nIC) e).sameBut hs₃ nCcc
        obtain ⟨oC, heC, hoC⟩ := LCg.ns_obj hn₃
        have F₃ : Fr h₀ L h₃ m := (LCg.fr_but F' hk₂ hIL hI₀).change hs₃ (Ne.symm nLcc) hcc₀
        have N₂ : News h₀ L h₂ ((s₂.heap.objs.size, LCg.lst ys) :: nw) := LCg.news_but N' hk₂ fun p hp => by
          rcases List.mem_cons.mp hp with rfl | hp
          · exact Ne.symm nID
          · exact (off' p hp).1
        have N₃ : News h₀ L h₃ ((I, oI) :: (H3.objs.size, oc₃) :: (H2.objs.size, oC) :: (s₂.heap.objs.size, LCg.lst ys) :: nw) := fun p hp => by
          rcases List.mem_cons.mp hp with rfl | hp
          · exact ⟨heI, Ne.symm hIL, hI₀⟩
          · rcases List.mem_cons.mp hp with rfl | hp
            · exact ⟨hcl₃, Ne.symm nLcc, hcc₀⟩
            · rcases List.mem_cons.mp hp with rfl | hp
              · exact ⟨heC, Ne.symm nLC, hC₀⟩
              · have z := N₂ p hp
                refine ⟨hs₃.extBut _ _ ?_ z.1, z.2⟩
                rcases List.mem_cons.mp hp with rfl | hp
                · exact nDcc
                · exact (off' p hp).2.1
        refine wpAny_mono (step i ys nw v I oI H3.objs.size oc₃ H2.objs.size oC s₂.heap.objs.size h₃ _ _ hlt hJ' hPv hcd₃ F₃ N₃ off' ⟨nIcc, nIC, nID, Ne.symm nCcc, Ne.symm nDcc, Ne.symm nDC⟩) (fun y s₄ h₄ => ?_) fun _ _ e => e
        show (let gKz : Prop := ?_; gKz)
        intro gKz
        obtain ⟨h₄, tk₄, nw₄, zq1, F₄, N₄, off₄, hJ₄⟩ := h₄
        k_unfold
        (try clear gKz)
        subst zq1
        have zI := (N₄ (I, oI) List.mem_cons_self).1
        have zc := (N₄ (H3.objs.size, oc₃) (.tail _ (.head _))).1
        have zC := (N₄ (H2.objs.size, oC) (.tail _ (.tail _ (.head _)))).1
        have zD := (N₄ (s₂.heap.objs.size, LCg.lst ys) (.tail _ (.tail _ (.tail _ (.head _))))).1
        have N₄' : News h₀ L h₄ nw₄ := fun p hp => N₄ p (.tail _ (.tail _ (.tail _ (.tail _ hp))))
        have hst₄ : St (i + 1) h₄ := hSt _ _ _ _ hst₃ heI zI
        refine append_at (hsz := by show ys.toArray.size ≤ sizeLine; rw [List.size_toArray, hyl, sizeLine_eq]; lia) zD fun h₅ hs₅ hD₅ => ?_
        refine ⟨n + 1 - (i + 1), by lia, .mk h₅ tk₄ (i + 1) (ys ++ [y]) _ nw₄ oc₃ _ hlt (by rw [List.length_append, List.length_singleton, hyl])
          (W.frame _ _ _ hst₄ fun b hb o e => hs₅.extBut b o (fun q => nID (by rw [← List.mem_singleton.mp hb]; exact q)) e) (F₄.change hs₅ (Ne.symm nLD) hD₀) ((hoC.ns zC).sameBut hs₅ (Ne.symm nDC)) (hs₅.extBut _ _ (Ne.symm nDcc) zc) hcd₃ (fun p hp => ?_) off₄ hJ₄⟩
        rcases List.mem_cons.mp hp with rfl | hp
        · exact ⟨hD₅.trans (congrArg some (LCg.lst_snoc ys y)), Ne.symm nLD, hD₀⟩
        · exact ⟨hs₅.extBut _ _ (off₄ p hp).2.2.2 (N₄' p hp).1, (N₄' p hp).2⟩
      · obtain rfl : i = n := Nat.le_antisymm hi (Nat.not_lt.mp hlt)
        refine W.done _ _ _ hst' fun h₂ tk₂ hk₂ => ?_
        exact hRR _ _ h₂ tk₂ _ ys nw (LCg.fr_but F' hk₂ hIL hI₀) (LCg.news_but N' hk₂ fun p hp => by
          rcases List.mem_cons.mp hp with rfl | hp
          · exact Ne.symm nID
          · exact (off' p hp).1) (fun p hp => (off' p hp).2.2.2) (hn'.at' fun o e => hk₂ _ o (by simpa using Ne.symm nIC) e) hC₀ hD₀ (Ne.symm nLC) (Ne.symm nLD) (Ne.symm nDC) (fun p hp => (off' p hp).2.2.1) hJ'
    · rcases List.mem_cons.mp hp with rfl | hp
      · exact ⟨hacc, Ne.symm nLD, hD₀⟩
      · exact ⟨old _ _ (N p hp).1, (N p hp).2⟩
  exact codeAny_compStart_list (loop _ rfl) (W.self 0 _ _ _ hst₁ (loop _ rfl))
end
end Mine
end

section
open PySem PySem.W PyProof.Rows PySem.Calls
set_option Elab.async false
set_option maxRecDepth 100000
set_option maxHeartbeats 8000000
set_option linter.unusedVariables false
namespace Mine
section
variable {prog : Program} {w : World} {A : Around} {E : Value → Shared → Prop} {s : Shared} {h₀ : Heap} {L : Addr} {m : Str → Option Value} {env : Env}
noncomputable def TxtSrc (prog : Program) (w : World) (A : Around) (h₀ : Heap) (L : Addr) (m : Str → Option Value) (env : Env) (elt : Expr) (x : Str) (scope : Scope) (cl : List (Str × Addr)) (Fin : Shared → List Value → Led → Prop) (xv : Value) (s₁ : Shared) : Prop :=
  ∃ tx tt news n, ∃ J : Nat → List Value → Led → Prop, xv = .str tx tt ∧ A.handled = none ∧ Fr h₀ L s₁.heap m ∧ News h₀ L s₁.heap news ∧ tx.cps.all (· < 128) = true ∧ tx.cps.size = n ∧ n ≤ 1000 ∧ J 0 [] news ∧
    ∀ s₂ : Shared, (∃ h, s₂ = { s₁ with heap := h }) →
      (∀ i ys nw v I oI cc oc C oC D h tk (E' : Value → Shared → Prop), i < n → J i ys nw → SignAt tx i v → oc.data = .cell (some v) → Fr h₀ L h m → News h₀ L h ((I, oI) :: (cc, oc) :: (C, oC) :: (D, LCg.lst ys) :: nw) → Off4 I cc C D nw →
        ((@Ne Nat I cc) ∧ (@Ne Nat I C) ∧ (@Ne Nat I D) ∧ (@Ne Nat cc C) ∧ (@Ne Nat cc D) ∧ (@Ne Nat C D)) →
        wpAny (model prog w) A (eval elt (compEnvC scope ((x, cc) :: cl) C env)) (CellEnd h₀ L m { s₂ with heap := h, toks := tk } I oI cc oc C oC D (LCg.lst ys) (fun y nw' => J (i + 1) (ys ++ [y]) nw')) E' { s₂ with heap := h, toks := tk }) ∧
      ∀ ys nw, J n ys nw → Fin s₂ ys nw
theorem off1_of {D : Addr} : ∀ {l : Led}, (∀ p ∈ l, p.1 ≠ D) → LCg.Off1 D l
  | [], _ => trivial
  | _ :: _, h => ⟨h _ List.mem_cons_self, off1_of fun p hp => h p (List.mem_cons_of_mem _ hp)⟩
theorem Assign_cell {elt iter : Expr} {x y d0 g1 g2 : Str} {px py : Pos} {scope : Scope} {cl : List (Str × Addr)} {pos spos : Pos} {Q : Flow → Shared → Prop} (F₀ : Fr h₀ L s.heap m) (hLe : env.locals = L)
    (hsw : swapsWith (.ListComp elt [⟨.Name x px, iter, [], 0⟩] scope pos) (some (.Name y py)) spos.line env = pure true)
    (hclos : closureFor scope env = pure cl) (hn : scope.names = [(d0, .local), (x, .cell), (g1, .free), (g2, .free)]) (hkind : scope.kind = .function)
    (hnames : ∀ z ∈ scope.names, z.2 = .local → scope.names.lookup z.1 = some .local) (hxk : ∀ C cl, (compEnvC scope cl C env).kindOf x = some .cell)
    (hy : env.kindOf y = some .local) (hp : (env.scope.kind == .class || (env.scope.kind == .module && env.locals != env.globals)) = false)
    (h : wpAny (model prog w) A (eval iter env) (TxtSrc prog w A h₀ L m env elt x scope cl (fun s₂ => LCg.FinA h₀ L m s₂ y Q)) E s)
    (hs : ∀ x, foldedSetIterable iter env x = pure x := by intro _; rfl) :
    wpAny (model prog w) A (exec (.Assign [.Name y py] (.ListComp elt [⟨.Name x px, iter, [], 0⟩] scope pos) spos) env) Q E s := by
  subst hLe
  rw [exec_Assign_Name_used _ _ _ _ hsw]
  refine wpAny_bind (wpAny_standAt (wpAny_bind ?_))
  show wpAny _ A (do let _ ← comprehension (.ListComp elt [⟨.Name x px, iter, [], 0⟩] scope pos) scope env _ (newList []) false (eval iter env) (some (assign (.Name y py) env))) _ _ s
  refine wpAny_bind (wpAny_mono (wpAny_comprehension_free (use := some (assign (.Name y py) env)) (Q := fun _ s' => Q .next s') rfl hs hclos hkind hnames
    (wpAny_mono h (fun xv s₁ h₁ => ?_) fun _ _ e => e)) (fun _ s' hq => wpAny_pure (wpAny_pure hq)) fun _ _ e => e)
  show (let gKz : Prop := ?_; gKz)
  intro gKz
  obtain ⟨tx, tt, news, n, J, zq1, hh, F, N, hasc, hsize, hfit, hJ0, R⟩ := h₁
  k_unfold
  (try clear gKz)
  subst zq1
  subst hsize
  refine wpAny_pyIter_ascii hasc ?_
  have up : ∀ b o, s₁.heap.get? b = some o → (s₁.heap.push { cls := .type "str_ascii_iterator", data := .fields #[.str tx tt, .int 0 0] }).get? b = some o := fun b o e => Heap.get?_push_of_some _ e
  obtain ⟨step, fin⟩ := R { s₁ with heap := s₁.heap.push { cls := .type "str_ascii_iterator", data := .fields #[.str tx tt, .int 0 0] } } ⟨_, rfl⟩
  refine block_cell J (Walks.strAscii hh s₁.heap.objs.size tx tt) hfit (fun i h st => by obtain ⟨o, e, _⟩ := st; exact ⟨o, e⟩) (fun i h h' o st e e' => by
      obtain ⟨o', q, r⟩ := st; rw [e] at q; cases q; exact ⟨o, e', r⟩) hn hkind hxk ⟨_, Heap.get?_push_size _ rfl, rfl, rfl⟩
    (F.keeps up) (N.grown up) (by show s₁.heap.objs.size < (s₁.heap.push _).objs.size; rw [Heap.size_push]; exact Nat.lt_succ_self _) (Nat.ne_of_lt F.ns.lt) (next_is_new F) (fun p hp => Nat.ne_of_lt (Heap.lt_size (N p hp).1)) hJ0 step ?_
  intro D C h' tk m' ys nw F' N' o1 hnC hC₀ hD₀ hCL hDL hCD offC hJn
  have fin := fin ys nw hJn
  show wpAny _ A (assign (.Name y py) env (.ref D)) _ _ _
  refine wpAny_assign_Name (wpAny_storeName_local hy F'.ns (fun h₂ hn₂ hs₂ => ?_) hp)
  have hL₀ : h₀.get? env.locals = none := Heap.get?_none_of_le F'.above
  have F₂ : Fr h₀ env.locals h₂ (fun z => if z = y then some (.ref D) else m z) := ⟨hn₂, fun b o e => hs₂.extBut b o (fun q => by rw [q, hL₀] at e; cases e) (F'.keep b o e), F'.above⟩
  refine ⟨m', hnC.sameBut hs₂ hCL, fun h'' hs'' => fin D h'' _ (F₂.change hs'' hCL hC₀) (fun p hp => ?_) (off1_of o1)⟩
  have z : h₂.get? p.1 = some p.2 := hs₂.extBut _ _ (N' p hp).2.1 (N' p hp).1
  refine ⟨hs''.extBut _ _ ?_ z, (N' p hp).2⟩
  rcases List.mem_cons.mp hp with rfl | hp
  · exact Ne.symm hCD
  · exact offC p hp
end
end Mine
end

section
open PySem PySem.W PyProof.Rows PySem.Calls
set_option Elab.async false
set_option maxRecDepth 100000
set_option maxHeartbeats 8000000
set_option linter.unusedVariables false
namespace Mine
noncomputable def mmS (j i : Nat) : Str := bangS (j + 2) ++ letS i
noncomputable def ellS (j i : Nat) : Str := Str.ofString "..." ++ bangS (j + 2) ++ letS i ++ Str.ofString "..."
theorem ell_facts : ∀ j : Fin 5, ∀ i : Fin 5, (Builtin.Str.occurrences (ellS j i) (Str.ofString "...") 0 (ellS j i).length 1).isEmpty = false ∧ Txt.split (ellS j i) (Str.ofString "...") = [Str.ofString "", mmS j i, Str.ofString ""] ∧ (ellS j i).length ≤ 20 := by decide +kernel
noncomputable def IsB (b : Nat → Bool) (_ : Led) (k : Nat) (v : Value) : Prop := v = .bool (b k)
noncomputable def IsJRow (b : Nat → Nat → Bool) (nw : Led) (k : Nat) (v : Value) : Prop := ∃ a ws d, v = .ref a ∧ (a, listO ws d) ∈ nw ∧ ws.length = 5 ∧ ∀ j : Nat, j < 5 → ws[j]? = some (.bool (b k j))
theorem IsJRow.up {b : Nat → Nat → Bool} {nw nw' : Led} (s : ∀ p ∈ nw, p ∈ nw') (k : Nat) (v : Value) (h : IsJRow b nw k v) : IsJRow b nw' k v := by
  obtain ⟨a, ws, d, e, hm, r⟩ := h; exact ⟨a, ws, d, e, s _ hm, r⟩
end Mine
namespace Mine
theorem let_of {i c : Nat} (hi : i < 5) (h : (Str.ofString "abcde").cps[i]? = some c) : (⟨#[c]⟩ : Str) = letS i := by
  have e : Str.ofString "abcde" = ⟨#[97, 98, 99, 100, 101]⟩ := by decide +kernel
  rw [e] at h
  rcases lt5c hi with rfl | rfl | rfl | rfl | rfl
  · simp at h; subst h; rfl
  · simp at h; subst h; rfl
  · simp at h; subst h; rfl
  · simp at h; subst h; rfl
  · simp at h; subst h; rfl
end Mine
namespace Mine
open PySem PySem.W PyProof.Rows PySem.Calls
theorem piece_at {j : Nat} {v : Value} {t0 t1 t2 t3 t4 : Tok} (hj : j < 5) (h : ([.str (bangS 2) t0, .str (bangS 3) t1, .str (bangS 4) t2, .str (bangS 5) t3, .str (bangS 6) t4] : List Value)[j]? = some v) : ∃ t, v = .str (bangS (j + 2)) t := by
  rcases lt5c hj with rfl | rfl | rfl | rfl | rfl
  · exact ⟨t0, (Option.some.inj h).symm⟩
  · exact ⟨t1, (Option.some.inj h).symm⟩
  · exact ⟨t2, (Option.some.inj h).symm⟩
  · exact ⟨t3, (Option.some.inj h).symm⟩
  · exact ⟨t4, (Option.some.inj h).symm⟩
theorem cell_turn {h₀ h' : Heap} {L I cc C D D2 : Addr} {m : Str → Option Value} {s₁ : Shared} {oI oc oC oD : Obj} {tk : Nat} {nw nw2 : Led} {ys zs : List Value} {i : Nat} {b : Nat → Nat → Bool} {base : Led} (F : Fr h₀ L h' m) (N : News h₀ L h' ((D2, LCg.lst zs) :: nw2)) (off : Off4 I cc C D nw)
    (o1 : LCg.Off1 D2 nw2) (hj9 : JG (IsJRow b) base i ys nw) (hj : JG (IsB (b i)) ((I, oI) :: (cc, oc) :: (C, oC) :: (D, oD) :: nw) 5 zs nw2) :
    CellEnd h₀ L m s₁ I oI cc oc C oC D oD (fun y nw' => JG (IsJRow b) base (i + 1) (ys ++ [y]) nw') (.ref D2) { s₁ with heap := h', toks := tk } := by
  have hs := hj.2.2
  have hne := off1_mem o1
  refine ⟨h', tk, (D2, LCg.lst zs) :: nw, rfl, F, fun p hp => ?_, fun p hp => ?_, hj9.next ⟨D2, zs, _, rfl, .head _, hj.1, fun j hjl => ?_⟩ (IsJRow.up fun p hp => .tail _ hp) fun p hp => .tail _ hp⟩
  · rcases List.mem_cons.mp hp with rfl | hp
    · exact N _ (.tail _ (hs _ (.head _)))
    · rcases List.mem_cons.mp hp with rfl | hp
      · exact N _ (.tail _ (hs _ (.tail _ (.head _))))
      · rcases List.mem_cons.mp hp with rfl | hp
        · exact N _ (.tail _ (hs _ (.tail _ (.tail _ (.head _)))))
        · rcases List.mem_cons.mp hp with rfl | hp
          · exact N _ (.tail _ (hs _ (.tail _ (.tail _ (.tail _ (.head _))))))
          · rcases List.mem_cons.mp hp with rfl | hp
            · exact N _ (.head _)
            · exact N _ (.tail _ (hs _ (.tail _ (.tail _ (.tail _ (.tail _ hp))))))
  · rcases List.mem_cons.mp hp with rfl | hp
    · exact ⟨Ne.symm (hne _ (hs _ (.head _))), Ne.symm (hne _ (hs _ (.tail _ (.head _)))), Ne.symm (hne _ (hs _ (.tail _ (.tail _ (.head _))))), Ne.symm (hne _ (hs _ (.tail _ (.tail _ (.tail _ (.head _))))))⟩
    · exact off p hp
  · obtain ⟨v, e, rfl⟩ := hj.at j hjl
    exact e
theorem text33_len {n0 n1 n2 n3 n4 o : Nat} (h0 : n0 ≤ 4) (h1 : n1 ≤ 4) (h2 : n2 ≤ 4) (h3 : n3 ≤ 4) (h4 : n4 ≤ 4) (ho : o ≤ 1) : (⟨(textL 33 [(1 + n0 + 1 + o, 0), (1 + n1 + 1 + o, 1), (1 + n2 + 1 + o, 2), (1 + n3 + 1 + o, 3), (1 + n4 + 1 + o, 4)]).toArray⟩ : Str).length ≤ 200 := by
  have := textL_len 33 [(1 + n0 + 1 + o, 0), (1 + n1 + 1 + o, 1), (1 + n2 + 1 + o, 2), (1 + n3 + 1 + o, 3), (1 + n4 + 1 + o, 4)] (by simp; lia)
  show (textL 33 _).toArray.size ≤ 200
  simp at this ⊢; lia
variable {w : World} {p : Program} {loose : List Str} {mean : ExcName → Option Value} {mg mb : Str → Option Value}
theorem ellJ_con {j i : Nat} (hj : j < 5) (hi : i < 5) (got : Str) (t u : Tok) (news : Led) (hg : got.length ≤ 200) : Con w p loose mean mg mb 70 [.str (ellS j i) t, .str got u] news 4 32 (fun r n' => r = .bool (isIn (mmS j i) got) ∧ news = n') := by
  have f := ell_facts ⟨j, hj⟩ ⟨i, hi⟩
  exact ell_con (ellS j i) (mmS j i) got t u news hg f.2.2 f.1 f.2.1
end Mine
namespace Mine
open PySem PySem.W PyProof.Rows PySem.Calls
theorem bangS_len (n : Nat) : (bangS n).length = n := by show (List.replicate n 33).toArray.size = n; simp
section
variable {prog : Program} {w : World} {A : Around} {E : Value → Shared → Prop} {s : Shared} {j i : Nat} {t u : Tok} {Q : Value → Shared → Prop}
theorem ell1 (hj : j < 5) (h : ∀ t tk, Q (.str (Str.ofString "..." ++ bangS (j + 2)) t) { s with toks := tk }) : wpAny (model prog w) A (binaryOp .Add (.str (Str.ofString "...") t) (.str (bangS (j + 2)) u)) Q E s :=
  add_str (fun t tk => h t tk) (by
    have : (Str.ofString "...").length = 3 := by decide +kernel
    rw [sizeLine_eq, bangS_len, this]; lia)
theorem ell2 (hj : j < 5) (h : ∀ t tk, Q (.str (Str.ofString "..." ++ bangS (j + 2) ++ letS i) t) { s with toks := tk }) : wpAny (model prog w) A (binaryOp .Add (.str (Str.ofString "..." ++ bangS (j + 2)) t) (.str (letS i) u)) Q E s :=
  add_str (fun t tk => h t tk) (by
    have : (Str.ofString "...").length = 3 := by decide +kernel
    have h2 : (letS i).length = 1 := rfl
    rw [sizeLine_eq, Str.length_append, bangS_len, this, h2]; lia)
theorem ell3 (hj : j < 5) (h : ∀ t tk, Q (.str (ellS j i) t) { s with toks := tk }) : wpAny (model prog w) A (binaryOp .Add (.str (Str.ofString "..." ++ bangS (j + 2) ++ letS i) t) (.str (Str.ofString "...") u)) Q E s :=
  add_str (fun t tk => h t tk) (by
    have : (Str.ofString "...").length = 3 := by decide +kernel
    have h2 : (letS i).length = 1 := rfl
    rw [sizeLine_eq, Str.length_append, Str.length_append, bangS_len, this, h2]; lia)
end
end Mine
namespace Mine
open PySem PySem.W PyProof.Rows PySem.Calls
theorem bools_of {b : Nat → Nat → Bool} {base nw : Led} {D : Addr} {ys : List Value} (h : JG (IsJRow b) base 5 ys nw) : BoolsIn ((D, LCg.lst ys) :: nw) D (fun i j => b i.toNat j.toNat) := by
  refine ⟨ys, _, .head _, h.1, fun i i0 i1 => ?_⟩
  obtain ⟨v, e, a, ws, d, rfl, hm, hl, hb⟩ := h.at i.toNat (by lia)
  exact ⟨a, ws, d, e, .tail _ hm, hl, fun j j0 j1 => hb j.toNat (by lia)⟩
end Mine
end

section
open PySem PySem.W PyProof.Rows PySem.Calls
set_option Elab.async false
set_option maxRecDepth 100000
set_option maxHeartbeats 8000000
set_option linter.unusedVariables false
namespace Mine
theorem uniq_split {c : Nat} {X Y A B : List Nat} (hA : c ∉ A) (hB : c ∉ B) (h : X ++ c :: Y = A ++ c :: B) : X = A := by
  rcases List.append_eq_append_iff.mp h with ⟨Z, e1, e2⟩ | ⟨Z, e1, e2⟩
  · cases Z with
    | nil => simpa using e1.symm
    | cons z Z =>
      have : c = z := by simpa using (List.cons.inj e2).1
      exact absurd (by rw [e1, this]; simp) hA
  · cases Z with
    | nil => simpa using e1
    | cons z Z =>
      have e3 := (List.cons.inj e2).2
      exact absurd (by rw [e3]; simp) hB
theorem rep_suffix {X A : List Nat} {m N d : Nat} (hA : ∀ x ∈ A.getLast?, x ≠ d) (h : X ++ List.replicate m d = A ++ List.replicate N d) : m ≤ N := by
  induction N generalizing m with
  | zero =>
    cases m with
    | zero => exact Nat.le_refl _
    | succ m =>
      exfalso
      rw [List.replicate_succ'] at h
      have e : A.getLast? = some d := by
        have := congrArg List.getLast? h
        simpa [List.getLast?_append] using this.symm
      exact hA d (by rw [e]; rfl) rfl
  | succ N ih =>
    cases m with
    | zero => exact Nat.zero_le _
    | succ m =>
      rw [List.replicate_succ', List.replicate_succ', ← List.append_assoc, ← List.append_assoc] at h
      have := List.append_inj_left' h rfl
      exact Nat.succ_le_succ (ih this)
end Mine
namespace Mine
open PySem PySem.W PyProof.Rows PySem.Calls
theorem textL_app (d : Nat) : ∀ (a b : List (Nat × Nat)), textL d (a ++ b) = textL d a ++ textL d b
  | [], b => rfl
  | (n, k) :: a, b => by
    show lineL d n k ++ (13 :: 10 :: textL d (a ++ b)) = lineL d n k ++ (13 :: 10 :: textL d a) ++ textL d b
    rw [textL_app d a b]; simp
theorem text_free {k : Nat} : ∀ ns : List (Nat × Nat), (∀ p ∈ ns, p.2 ≠ k) → (97 + k) ∉ textL 33 ns
  | [], _ => by simp [textL]
  | (n, j) :: r, h => by
    have ih := text_free r fun p hp => h p (.tail _ hp)
    have hj := h (n, j) (.head _)
    show (97 + k) ∉ lineL 33 n j ++ (13 :: 10 :: textL 33 r)
    unfold lineL
    simp only [List.mem_append, List.mem_replicate, List.mem_cons, List.not_mem_nil, or_false, not_or] at *
    exact ⟨⟨by lia, by lia⟩, by lia, by lia, ih⟩
theorem text_last (d : Nat) : ∀ ns : List (Nat × Nat), ∀ x ∈ (textL d ns).getLast?, x = 10
  | [], x, h => by simp [textL] at h
  | (n, j) :: r, x, h => by
    have ih := text_last d r
    have e : textL d ((n, j) :: r) = lineL d n j ++ [13, 10] ++ textL d r := by show lineL d n j ++ (13 :: 10 :: textL d r) = _; simp
    rw [e, List.getLast?_append] at h
    cases hr : (textL d r).getLast? with
    | some y =>
      rw [hr] at h
      have : y = x := by simpa using h
      exact this ▸ ih y (by rw [hr]; rfl)
    | none =>
      rw [hr] at h
      simpa using h.symm
theorem in_text {a b : List (Nat × Nat)} {N k m : Nat} (ha : ∀ p ∈ a, p.2 ≠ k) (hb : ∀ p ∈ b, p.2 ≠ k) :
    (∃ X Y, textL 33 (a ++ (N, k) :: b) = X ++ (List.replicate m 33 ++ [97 + k]) ++ Y) ↔ m ≤ N := by
  have e : textL 33 (a ++ (N, k) :: b) = textL 33 a ++ List.replicate N 33 ++ (97 + k) :: (13 :: 10 :: textL 33 b) := by
    rw [textL_app]
    show textL 33 a ++ (lineL 33 N k ++ (13 :: 10 :: textL 33 b)) = _
    unfold lineL; simp
  constructor
  · rintro ⟨X, Y, h⟩
    rw [e] at h
    have h2 : (X ++ List.replicate m 33) ++ (97 + k) :: Y = (textL 33 a ++ List.replicate N 33) ++ (97 + k) :: (13 :: 10 :: textL 33 b) := by rw [h]; simp
    have h3 := uniq_split (by
      simp only [List.mem_append, List.mem_replicate, not_or]
      exact ⟨text_free a ha, by lia⟩) (by
      simp only [List.mem_cons, not_or]
      exact ⟨by lia, by lia, text_free b hb⟩) h2
    exact rep_suffix (fun x hx => by have := text_last 33 a x hx; lia) h3
  · intro h
    refine ⟨textL 33 a ++ List.replicate (N - m) 33, 13 :: 10 :: textL 33 b, ?_⟩
    have e2 : List.replicate N 33 = List.replicate (N - m) 33 ++ List.replicate m 33 := by rw [List.replicate_append_replicate]; congr 1; lia
    rw [e, e2]
    simp only [List.append_assoc, List.cons_append, List.nil_append]
end Mine
namespace Mine
open PySem PySem.W PyProof.Rows PySem.Calls
theorem at_iff (x m : Str) (i : Nat) : StrLaws.At x m x.length i ↔ i + m.length ≤ x.length ∧ x.cps.toList = x.cps.toList.take i ++ m.cps.toList ++ (x.cps.toList.drop i).drop m.length := by
  unfold StrLaws.At
  rw [StrLaws.subAt_eq]
  constructor
  · rintro ⟨h1, h2⟩
    refine ⟨h1, ?_⟩
    have h2 := beq_iff_eq.mp h2
    rw [← h2, List.append_assoc, List.take_append_drop, List.take_append_drop]
  · rintro ⟨h1, h2⟩
    refine ⟨h1, beq_iff_eq.mpr ?_⟩
    have hl : (x.cps.toList.take i).length = i := by
      rw [List.length_take]
      have : x.cps.toList.length = x.length := by simp [Str.length]
      lia
    have hm : m.cps.toList.length = m.length := by simp [Str.length]
    have e := congrArg (List.drop i) h2
    rw [List.append_assoc, List.drop_append_of_le_length (by lia), List.drop_eq_nil_of_le (Nat.le_of_eq hl), List.nil_append] at e
    rw [e, List.take_append_of_le_length (by lia), List.take_of_length_le (by lia)]
theorem isIn_iff (m x : Str) : isIn m x = true ↔ ∃ X Y, x.cps.toList = X ++ m.cps.toList ++ Y := by
  unfold isIn
  rcases StrLaws.occ_head_from x m 0 1 (Nat.le_refl 1) with ⟨e, h⟩ | ⟨i, r, e, h1, h2, h3⟩
  · rw [e]
    constructor
    · intro q; cases q
    · rintro ⟨X, Y, q⟩
      exfalso
      refine h X.length (Nat.zero_le _) ((at_iff x m X.length).mpr ⟨?_, ?_⟩)
      · have := congrArg List.length q
        have h1 : x.cps.toList.length = x.length := by simp [Str.length]
        have h2 : m.cps.toList.length = m.length := by simp [Str.length]
        simp only [List.length_append] at this
        lia
      · have h2 : m.cps.toList.length = m.length := by simp [Str.length]
        rw [q]
        simp [List.append_assoc, ← h2]
  · rw [e]
    constructor
    · intro _
      exact ⟨_, _, ((at_iff x m i).mp h2).2⟩
    · intro _; rfl
end Mine
namespace Mine
open PySem PySem.W PyProof.Rows PySem.Calls
theorem mmS_list (j i : Nat) : (mmS j i).cps.toList = List.replicate (j + 2) 33 ++ [97 + i] := by
  show ((List.replicate (j + 2) 33).toArray ++ #[97 + i]).toList = _
  simp
theorem join_one {a b : List (Nat × Nat)} {N i : Nat} (j : Nat) (ha : ∀ p ∈ a, p.2 ≠ i) (hb : ∀ p ∈ b, p.2 ≠ i) : isIn (mmS j i) ⟨(textL 33 (a ++ (N, i) :: b)).toArray⟩ = decide (j + 2 ≤ N) := by
  have h := isIn_iff (mmS j i) ⟨(textL 33 (a ++ (N, i) :: b)).toArray⟩
  rw [mmS_list] at h
  have h2 := in_text (m := j + 2) (N := N) ha hb
  have h3 := h.trans h2
  by_cases q : j + 2 ≤ N
  · rw [decide_eq_true q]; exact h3.mpr q
  · rw [decide_eq_false q]
    cases hh : isIn (mmS j i) ⟨(textL 33 (a ++ (N, i) :: b)).toArray⟩ with
    | false => rfl
    | true => exact absurd (h3.mp hh) q
noncomputable def pick5 (n0 n1 n2 n3 n4 : Nat) : Nat → Nat
  | 0 => n0
  | 1 => n1
  | 2 => n2
  | 3 => n3
  | _ => n4
theorem joins_law (n0 n1 n2 n3 n4 j i : Nat) (hi : i < 5) : isIn (mmS j i) ⟨(textL 33 [(n0, 0), (n1, 1), (n2, 2), (n3, 3), (n4, 4)]).toArray⟩ = decide (j + 2 ≤ pick5 n0 n1 n2 n3 n4 i) := by
  rcases lt5c hi with rfl | rfl | rfl | rfl | rfl
  · exact join_one (a := []) (b := [(n1, 1), (n2, 2), (n3, 3), (n4, 4)]) j (by simp) (by simp)
  · exact join_one (a := [(n0, 0)]) (b := [(n2, 2), (n3, 3), (n4, 4)]) j (by simp) (by simp)
  · exact join_one (a := [(n0, 0), (n1, 1)]) (b := [(n3, 3), (n4, 4)]) j (by simp) (by simp)
  · exact join_one (a := [(n0, 0), (n1, 1), (n2, 2)]) (b := [(n4, 4)]) j (by simp) (by simp)
  · exact join_one (a := [(n0, 0), (n1, 1), (n2, 2), (n3, 3)]) (b := []) j (by simp) (by simp)
end Mine
end

section
open PySem PySem.W PyProof.Rows PySem.Calls
set_option Elab.async false
set_option maxRecDepth 100000
set_option maxHeartbeats 8000000
set_option linter.unusedVariables false
namespace Mine
section
variable {prog : Program} {w : World} {A : Around} {h₀ : Heap} {L : Addr} {m : Str → Option Value} {env : Env}
theorem comp_restT {ct elt : Expr} {x : Str} {scope : Scope} {cl : List (Str × Addr)} {s : Shared} {S : Led → Prop} {P : Nat → Value → Prop} {Fin : List Value → Led → Prop} {n : Nat} (J : Nat → List Value → Led → Prop)
    (step : ∀ i ys nw v I oI C oC D m₂ h tk (E' : Value → Shared → Prop), i < n → J i ys nw → P i v → LCg.NsObj oC m₂ → m₂ x = some v → Fr h₀ L h m → News h₀ L h ((I, oI) :: (C, oC) :: (D, LCg.lst ys) :: nw) → LCg.Off3 I C D nw → ((@Ne Nat I C) ∧ (@Ne Nat I D) ∧ (@Ne Nat C D)) →
      wpAny (model prog w) A (isTrue ct (compEnvC scope cl C env) (eval ct (compEnvC scope cl C env))) (fun ok s' => if ok = true then
        wpAny (model prog w) A (eval elt (compEnvC scope cl C env)) (LCg.CompEnd h₀ L m { s with heap := h, toks := tk } I oI C oC D (LCg.lst ys) S (fun y nw' => J (i + 1) (ys ++ [y]) nw')) E' s'
        else LCg.CompEnd h₀ L m { s with heap := h, toks := tk } I oI C oC D (LCg.lst ys) S (fun _ nw' => J (i + 1) ys nw') Value.none s') E' { s with heap := h, toks := tk })
    (done : ∀ ys nw, J n ys nw → Fin ys nw) : ∀ (k i : Nat) (ys : List Value) (nw : Led), i + k = n → J i ys nw → LCt.CompRestT prog w A h₀ L m env ct elt x scope cl s S P Fin k i ys nw := by
  intro k
  induction k with
  | zero =>
    intro i ys nw e hj
    obtain rfl : i = n := by lia
    exact LCt.CompRestT.zero (done ys nw hj)
  | succ k ih =>
    intro i ys nw e hj
    refine LCt.CompRestT.succ fun v I oI C oC D m₂ h tk E' hP hC hx F N off ne => ?_
    refine wpAny_mono (step i ys nw v I oI C oC D m₂ h tk E' (by lia) hj hP hC hx F N off ne) (fun ok s₁ q => ?_) fun _ _ e => e
    cases ok with
    | true =>
      simp only [if_true] at q ⊢
      refine wpAny_mono q (fun y s₂ r => ?_) fun _ _ e => e
      show (let gKz : Prop := ?_; gKz)
      intro gKz
      obtain ⟨h', tk', nw', e1, F', N', off', hS, hJ⟩ := r
      k_unfold
      (try clear gKz)
      exact ⟨h', tk', nw', e1, F', N', off', hS, ih (i + 1) _ nw' (by lia) hJ⟩
    | false =>
      simp only [Bool.false_eq_true, if_false] at q ⊢
      show (let gKz : Prop := ?_; gKz)
      intro gKz
      obtain ⟨h', tk', nw', e1, F', N', off', hS, hJ⟩ := q
      k_unfold
      (try clear gKz)
      exact ⟨h', tk', nw', e1, F', N', off', hS, ih (i + 1) _ nw' (by lia) hJ⟩
theorem srcT_n {ct elt : Expr} {x : Str} {scope : Scope} {cl : List (Str × Addr)} {Fin : Shared → List Value → Led → Prop} {ax : Addr} {vs : List Value} {k n : Nat} {news : Led} {s₁ : Shared}
    (hn : vs.length = n) (hfit : n < 1000) (hh : A.handled = none) (F : Fr h₀ L s₁.heap m) (N : News h₀ L s₁.heap news) (hm : (ax, listO vs k) ∈ news)
    (h : ∀ g, LCt.CompRestT prog w A h₀ L m env ct elt x scope cl { s₁ with heap := g } (LCg.SrcAt h₀ ax vs.toArray) (fun i v => vs[i]? = some v) (Fin { s₁ with heap := g }) n 0 [] news) :
    LCt.CompSrcT prog w A h₀ L m env ct elt x scope cl Fin (.ref ax) s₁ := by
  subst hn
  refine LCt.CompSrcT.ledger hh F N hm (by rw [List.size_toArray, sizeLine_eq]; lia) fun g => ?_
  have := h g
  simpa using this
end
end Mine
end

section
open PySem PySem.W PyProof.Rows PySem.Calls
set_option Elab.async false
set_option maxRecDepth 100000
set_option maxHeartbeats 8000000
set_option linter.unusedVariables false
namespace Mine
noncomputable def wC (c : Col) : Int := 64 * c.2.1 + c.2.2
theorem mem_insC {c d : Col} {cs : List Col} (h : d ∈ insC cs c) : d = c ∨ d ∈ cs := by
  unfold insC at h
  rcases List.mem_append.mp h with h | h
  · exact .inr (List.mem_of_mem_take h)
  · rcases List.mem_cons.mp h with h | h
    · exact .inl h
    · exact .inr (List.mem_of_mem_drop h)
theorem mem_insAll {f : Nat → Col} {d : Col} : ∀ {n : Nat}, d ∈ insAll f n → ∃ k, k < n ∧ d = f k
  | 0, h => by simp [insAll] at h
  | n + 1, h => by
    rcases mem_insC h with h | h
    · exact ⟨n, by lia, h⟩
    · obtain ⟨k, h1, h2⟩ := mem_insAll h; exact ⟨k, by lia, h2⟩
noncomputable def kcol (mcs : Nat → Col4) (k : Nat) : Col := (insAll (fcol mcs) 4).getD k (0, 0, 0)
theorem kcol_get (mcs : Nat → Col4) (k : Nat) (hk : k < 4) : (insAll (fcol mcs) 4)[k]? = some (kcol mcs k) := by
  have hl := insAll_len (fcol mcs) 4
  unfold kcol
  rw [List.getD_eq_getElem?_getD, List.getElem?_eq_getElem (show k < (insAll (fcol mcs) 4).length by lia)]; rfl
theorem kcol_of (mcs : Nat → Col4) (k : Nat) (hk : k < 4) : ∃ i, i < 4 ∧ kcol mcs k = fcol mcs i := by
  have h := kcol_get mcs k hk
  exact mem_insAll (List.mem_of_getElem? h)
theorem kcol_ok {mcs : Nat → Col4} (h : ∀ k : Nat, k < 4 → ColOk (mcs k)) (k : Nat) (hk : k < 4) : (0 ≤ (kcol mcs k).2.1 ∧ (kcol mcs k).2.1 ≤ 4) ∧ (1 ≤ (kcol mcs k).2.2 ∧ (kcol mcs k).2.2 ≤ 64) := by
  obtain ⟨i, hi, e⟩ := kcol_of mcs k hk
  rw [e]
  show (let gKz : Prop := ?_; gKz)
  intro gKz
  obtain ⟨_, h2, h3, _⟩ := h i hi
  k_unfold
  (try clear gKz)
  exact ⟨h2, h3⟩
theorem ColsIn.ok {nw : Led} {l : Addr} {n : Nat} {cs : Nat → Col4} (h : ColsIn nw l n cs) (k : Nat) (hk : k < n) : ColOk (cs k) := by
  obtain ⟨vs, c, _, _, h3⟩ := h; obtain ⟨a, _, _, h4⟩ := h3 k hk; exact h4
noncomputable def IsW (g : Nat → Int) (_ : Led) (k : Nat) (v : Value) : Prop := ∃ t, v = .int (g k) t
theorem JG.w5 {g : Nat → Int} {base nw : Led} {ys : List Value} (h : JG (IsW g) base 5 ys nw) : ∃ t0 t1 t2 t3 t4, ys = [.int (g 0) t0, .int (g 1) t1, .int (g 2) t2, .int (g 3) t3, .int (g 4) t4] := by
  show (let gKz : Prop := ?_; gKz)
  intro gKz
  obtain ⟨v0, e0, t0, zq1⟩ := h.at 0 (by decide)
  k_unfold
  (try clear gKz)
  subst zq1
  show (let gKz : Prop := ?_; gKz)
  intro gKz
  obtain ⟨v1, e1, t1, zq1⟩ := h.at 1 (by decide)
  k_unfold
  (try clear gKz)
  subst zq1
  show (let gKz : Prop := ?_; gKz)
  intro gKz
  obtain ⟨v2, e2, t2, zq1⟩ := h.at 2 (by decide)
  k_unfold
  (try clear gKz)
  subst zq1
  show (let gKz : Prop := ?_; gKz)
  intro gKz
  obtain ⟨v3, e3, t3, zq1⟩ := h.at 3 (by decide)
  k_unfold
  (try clear gKz)
  subst zq1
  show (let gKz : Prop := ?_; gKz)
  intro gKz
  obtain ⟨v4, e4, t4, zq1⟩ := h.at 4 (by decide)
  k_unfold
  (try clear gKz)
  subst zq1
  exact ⟨t0, t1, t2, t3, t4, list5 h.1 e0 e1 e2 e3 e4⟩
theorem list4 {ys : List Value} {a0 a1 a2 a3 : Value} (h : ys.length = 4) (e0 : ys[0]? = some a0) (e1 : ys[1]? = some a1) (e2 : ys[2]? = some a2) (e3 : ys[3]? = some a3) :
    ys = [a0, a1, a2, a3] := by
  obtain ⟨r0, rfl, h0⟩ := cons_of h e0
  obtain ⟨r1, rfl, h1⟩ := cons_of h0 (show r0[0]? = some a1 from e1)
  obtain ⟨r2, rfl, h2⟩ := cons_of h1 (show r1[0]? = some a2 from e2)
  obtain ⟨r3, rfl, h3⟩ := cons_of h2 (show r2[0]? = some a3 from e3)
  rw [List.eq_nil_of_length_eq_zero h3]
theorem JG.w4 {g : Nat → Int} {base nw : Led} {ys : List Value} (h : JG (IsW g) base 4 ys nw) : ∃ t0 t1 t2 t3, ys = [.int (g 0) t0, .int (g 1) t1, .int (g 2) t2, .int (g 3) t3] := by
  show (let gKz : Prop := ?_; gKz)
  intro gKz
  obtain ⟨v0, e0, t0, zq1⟩ := h.at 0 (by decide)
  k_unfold
  (try clear gKz)
  subst zq1
  show (let gKz : Prop := ?_; gKz)
  intro gKz
  obtain ⟨v1, e1, t1, zq1⟩ := h.at 1 (by decide)
  k_unfold
  (try clear gKz)
  subst zq1
  show (let gKz : Prop := ?_; gKz)
  intro gKz
  obtain ⟨v2, e2, t2, zq1⟩ := h.at 2 (by decide)
  k_unfold
  (try clear gKz)
  subst zq1
  show (let gKz : Prop := ?_; gKz)
  intro gKz
  obtain ⟨v3, e3, t3, zq1⟩ := h.at 3 (by decide)
  k_unfold
  (try clear gKz)
  subst zq1
  exact ⟨t0, t1, t2, t3, list4 h.1 e0 e1 e2 e3⟩
noncomputable def five (g : Nat → Int) (i : Int) : Int := if 0 ≤ i ∧ i ≤ 4 then g i.toNat else 0
theorem five_bd {g : Nat → Int} (h : ∀ k : Nat, k < 5 → 1 ≤ g k ∧ g k ≤ 320) : (∀ i, 0 ≤ i → i < 5 → 0 < five g i) ∧ ∀ i, 0 ≤ five g i ∧ five g i ≤ 320 := by
  refine ⟨fun i h0 h1 => ?_, fun i => ?_⟩
  · have := h i.toNat (by lia)
    unfold five; rw [if_pos ⟨h0, by lia⟩]; lia
  · unfold five
    split
    · have := h i.toNat (by lia); lia
    · lia
theorem ints5 {nw : Led} {l : Addr} {c : Nat} {g : Nat → Int} {t0 t1 t2 t3 t4 : Tok} (h : (l, listO [.int (g 0) t0, .int (g 1) t1, .int (g 2) t2, .int (g 3) t3, .int (g 4) t4] c) ∈ nw) : IntsIn nw l 5 (five g) := by
  refine ⟨_, c, h, rfl, fun i h0 h1 => ?_⟩
  unfold five
  rw [if_pos ⟨h0, by lia⟩]
  have : i.toNat = 0 ∨ i.toNat = 1 ∨ i.toNat = 2 ∨ i.toNat = 3 ∨ i.toNat = 4 := by lia
  rcases this with e | e | e | e | e <;> rw [e]
  · exact ⟨t0, rfl⟩
  · exact ⟨t1, rfl⟩
  · exact ⟨t2, rfl⟩
  · exact ⟨t3, rfl⟩
  · exact ⟨t4, rfl⟩
noncomputable def rW (fst : Int) (mcs : Nat → Col4) : Nat → Int
  | 0 => fst
  | k + 1 => wC (kcol mcs k)
noncomputable def lW (pcs : Nat → Col4) (k : Nat) : Int := wC (fcol pcs k)
theorem KeptIn.at4 {nw : Led} {vs : List Value} {mcs : Nat → Col4} (h : KeptIn nw vs (insAll (fcol mcs) 4)) (k : Nat) (hk : k < 4) : ∃ a x y z u1 u2 u3, vs[k]? = some (.ref a) ∧ (a, tupO [.float x u1, .float y u2, .float z u3]) ∈ nw ∧ IsF x (1024 * (kcol mcs k).1) ∧ IsF y (16384 * (kcol mcs k).2.1) ∧ IsF z (1024 * (kcol mcs k).2.2) := h.2 k _ (kcol_get mcs k hk)
end Mine
end

section
open PySem PySem.W PyProof.Rows PySem.Calls
set_option Elab.async false
set_option maxRecDepth 100000
set_option maxHeartbeats 8000000
set_option linter.unusedVariables false
namespace Mine
section
variable {M : Model} {A : Around} {E : Value → Shared → Prop} {s : Shared} {σ : Type}
theorem wpS_go {β : Type} {a b : Nat} {f : Nat → β → StateT σ Sem (ForInStep β)} {Q : β → σ → Prop} {c : β} {st : σ} (hlt : a < b)
    (h : wpS M A E s (f a c) (fun r st' => match r with | .done c' => Q c' st' | .yield c' => wpS M A E s (forIn [a + 1:b] c' f) Q st') st) : wpS M A E s (forIn [a:b] c f) Q st := by
  have hs : ∀ x : Nat, ([x:b] : Std.Legacy.Range).size = b - x := fun x => by simp [Std.Legacy.Range.size]
  rw [Std.Legacy.Range.forIn_eq_forIn_range']
  show wpS M A E s (forIn (List.range' a ([a:b] : Std.Legacy.Range).size 1) c f) Q st
  obtain ⟨n, hn⟩ : ∃ n, b - a = n + 1 := ⟨b - a - 1, by lia⟩
  rw [hs, hn, List.range'_succ, List.forIn_cons]
  refine wpS_bind (wpS_mono h fun r st' h' => ?_)
  cases r with
  | done c' => exact wpS_pure h'
  | yield c' =>
    have h2 : wpS M A E s (forIn [a + 1:b] c' f) Q st' := h'
    rw [Std.Legacy.Range.forIn_eq_forIn_range'] at h2
    have h3 : wpS M A E s (forIn (List.range' (a + 1) ([a + 1:b] : Std.Legacy.Range).size 1) c' f) Q st' := h2
    rw [hs, show b - (a + 1) = n by lia] at h3
    exact h3
theorem wpS_stop {β : Type} {a b : Nat} {f : Nat → β → StateT σ Sem (ForInStep β)} {Q : β → σ → Prop} {c : β} {st : σ} (hle : b ≤ a) (h : Q c st) : wpS M A E s (forIn [a:b] c f) Q st := by
  have hs : ∀ x : Nat, ([x:b] : Std.Legacy.Range).size = b - x := fun x => by simp [Std.Legacy.Range.size]
  rw [Std.Legacy.Range.forIn_eq_forIn_range']
  show wpS M A E s (forIn (List.range' a ([a:b] : Std.Legacy.Range).size 1) c f) Q st
  rw [hs, show b - a = 0 by lia]
  exact wpS_pure h
end
section
variable {prog : Program} {w : World} {A : Around} {E : Value → Shared → Prop} {s : Shared}
theorem wpS_rule {r : String} {Q : Unit → SortSt → Prop} {st : SortSt} (h : Q () st) : wpS (model prog w) A E s (liftM (rule r) : StateT SortSt Sem Unit) Q st := wpS_lift (wpAny_rule ⟨rfl, h⟩)
theorem wpS_lt4 {st : SortSt} {i j : Nat} {a b : Int} {t u : Tok} {p q : Value} {Q : Option Bool → SortSt → Prop} (hk : kindOf st = oneType')
    (hi : (arrOf st)[i]? = some (.int a t, p)) (hj : (arrOf st)[j]? = some (.int b u, q)) (h1 : a < b → Q (some true) st) (h2 : b ≤ a → Q (some false) st) :
    wpS (model prog w) A E s (ltAt' i j) Q st := by
  refine wpS_ltAt hk hi hj ?_
  by_cases h : a < b
  · rw [decide_eq_true h]; exact h1 h
  · rw [decide_eq_false h]; exact h2 (by lia)
theorem wpS_rev {st : SortSt} {i j : Nat} {Q : Unit → SortSt → Prop} (h : Q () (setArr st (mirror (arrOf st) i j ((j - i) / 2)))) : wpS (model prog w) A E s (reverseSlice' i j) Q st := wpS_reverse h
theorem wpS_down {st : SortSt} {i j : Nat} {Q : Unit → SortSt → Prop} (h : Q () (setArr st (bubble (arrOf st) i (i - j)))) : wpS (model prog w) A E s (moveDown' i j) Q st := by
  rw [moveDown'_eq]; exact wpS_modify h
noncomputable def lexK (kf : Nat → Int) (i j : Nat) : Prop := kf i < kf j ∨ (kf i = kf j ∧ i < j)
noncomputable abbrev P4 (kf : Nat → Int) (tf : Nat → Tok) (vf : Nat → Value) (i : Nat) : Keyed := (.int (kf i) (tf i), vf i)
noncomputable def Out4 (kf : Nat → Int) (tf : Nat → Tok) (vf : Nat → Value) (xs : Array Keyed) : Prop :=
  ∃ i0 i1 i2 i3 : Nat, xs.toList = [P4 kf tf vf i0, P4 kf tf vf i1, P4 kf tf vf i2, P4 kf tf vf i3] ∧ [i0, i1, i2, i3].Perm [0, 1, 2, 3] ∧ lexK kf i0 i1 ∧ lexK kf i1 i2 ∧ lexK kf i2 i3
theorem lexK_le {kf : Nat → Int} {i j : Nat} (h : kf i ≤ kf j) (hij : i < j) : lexK kf i j := (Int.lt_or_eq_of_le h).imp id fun e => ⟨e, hij⟩
theorem rev02 {k : SortKind} {p : Array (Nat × Nat × Nat)} {g i j : Nat} {f : Option Value} {a b c d : Keyed} {Q : Unit → SortSt → Prop} (hi : i = 0) (hj : j = 2) (h : Q () (SortSt.mk' k #[b, a, c, d] p g f)) : wpS (model prog w) A E s (reverseSlice' i j) Q (SortSt.mk' k #[a, b, c, d] p g f) := by
  subst hi hj
  exact wpS_reverse h
theorem rev03 {k : SortKind} {p : Array (Nat × Nat × Nat)} {g i j : Nat} {f : Option Value} {a b c d : Keyed} {Q : Unit → SortSt → Prop} (hi : i = 0) (hj : j = 3) (h : Q () (SortSt.mk' k #[c, b, a, d] p g f)) : wpS (model prog w) A E s (reverseSlice' i j) Q (SortSt.mk' k #[a, b, c, d] p g f) := by
  subst hi hj
  exact wpS_reverse h
theorem rev04 {k : SortKind} {p : Array (Nat × Nat × Nat)} {g i j : Nat} {f : Option Value} {a b c d : Keyed} {Q : Unit → SortSt → Prop} (hi : i = 0) (hj : j = 4) (h : Q () (SortSt.mk' k #[d, c, b, a] p g f)) : wpS (model prog w) A E s (reverseSlice' i j) Q (SortSt.mk' k #[a, b, c, d] p g f) := by
  subst hi hj
  exact wpS_reverse h
theorem rev13 {k : SortKind} {p : Array (Nat × Nat × Nat)} {g i j : Nat} {f : Option Value} {a b c d : Keyed} {Q : Unit → SortSt → Prop} (hi : i = 1) (hj : j = 3) (h : Q () (SortSt.mk' k #[a, c, b, d] p g f)) : wpS (model prog w) A E s (reverseSlice' i j) Q (SortSt.mk' k #[a, b, c, d] p g f) := by
  subst hi hj
  exact wpS_reverse h
theorem rev14 {k : SortKind} {p : Array (Nat × Nat × Nat)} {g i j : Nat} {f : Option Value} {a b c d : Keyed} {Q : Unit → SortSt → Prop} (hi : i = 1) (hj : j = 4) (h : Q () (SortSt.mk' k #[a, d, c, b] p g f)) : wpS (model prog w) A E s (reverseSlice' i j) Q (SortSt.mk' k #[a, b, c, d] p g f) := by
  subst hi hj
  exact wpS_reverse h
theorem rev24 {k : SortKind} {p : Array (Nat × Nat × Nat)} {g i j : Nat} {f : Option Value} {a b c d : Keyed} {Q : Unit → SortSt → Prop} (hi : i = 2) (hj : j = 4) (h : Q () (SortSt.mk' k #[a, b, d, c] p g f)) : wpS (model prog w) A E s (reverseSlice' i j) Q (SortSt.mk' k #[a, b, c, d] p g f) := by
  subst hi hj
  exact wpS_reverse h
theorem down10 {k : SortKind} {p : Array (Nat × Nat × Nat)} {g i j : Nat} {f : Option Value} {a b c d : Keyed} {Q : Unit → SortSt → Prop} (hi : i = 1) (hj : j = 0) (h : Q () (SortSt.mk' k #[b, a, c, d] p g f)) : wpS (model prog w) A E s (moveDown' i j) Q (SortSt.mk' k #[a, b, c, d] p g f) := by
  subst hi hj
  exact wpS_down h
theorem down11 {k : SortKind} {p : Array (Nat × Nat × Nat)} {g i j : Nat} {f : Option Value} {a b c d : Keyed} {Q : Unit → SortSt → Prop} (hi : i = 1) (hj : j = 1) (h : Q () (SortSt.mk' k #[a, b, c, d] p g f)) : wpS (model prog w) A E s (moveDown' i j) Q (SortSt.mk' k #[a, b, c, d] p g f) := by
  subst hi hj
  exact wpS_down h
theorem down20 {k : SortKind} {p : Array (Nat × Nat × Nat)} {g i j : Nat} {f : Option Value} {a b c d : Keyed} {Q : Unit → SortSt → Prop} (hi : i = 2) (hj : j = 0) (h : Q () (SortSt.mk' k #[c, a, b, d] p g f)) : wpS (model prog w) A E s (moveDown' i j) Q (SortSt.mk' k #[a, b, c, d] p g f) := by
  subst hi hj
  exact wpS_down h
theorem down21 {k : SortKind} {p : Array (Nat × Nat × Nat)} {g i j : Nat} {f : Option Value} {a b c d : Keyed} {Q : Unit → SortSt → Prop} (hi : i = 2) (hj : j = 1) (h : Q () (SortSt.mk' k #[a, c, b, d] p g f)) : wpS (model prog w) A E s (moveDown' i j) Q (SortSt.mk' k #[a, b, c, d] p g f) := by
  subst hi hj
  exact wpS_down h
theorem down22 {k : SortKind} {p : Array (Nat × Nat × Nat)} {g i j : Nat} {f : Option Value} {a b c d : Keyed} {Q : Unit → SortSt → Prop} (hi : i = 2) (hj : j = 2) (h : Q () (SortSt.mk' k #[a, b, c, d] p g f)) : wpS (model prog w) A E s (moveDown' i j) Q (SortSt.mk' k #[a, b, c, d] p g f) := by
  subst hi hj
  exact wpS_down h
theorem down30 {k : SortKind} {p : Array (Nat × Nat × Nat)} {g i j : Nat} {f : Option Value} {a b c d : Keyed} {Q : Unit → SortSt → Prop} (hi : i = 3) (hj : j = 0) (h : Q () (SortSt.mk' k #[d, a, b, c] p g f)) : wpS (model prog w) A E s (moveDown' i j) Q (SortSt.mk' k #[a, b, c, d] p g f) := by
  subst hi hj
  exact wpS_down h
theorem down31 {k : SortKind} {p : Array (Nat × Nat × Nat)} {g i j : Nat} {f : Option Value} {a b c d : Keyed} {Q : Unit → SortSt → Prop} (hi : i = 3) (hj : j = 1) (h : Q () (SortSt.mk' k #[a, d, b, c] p g f)) : wpS (model prog w) A E s (moveDown' i j) Q (SortSt.mk' k #[a, b, c, d] p g f) := by
  subst hi hj
  exact wpS_down h
theorem down32 {k : SortKind} {p : Array (Nat × Nat × Nat)} {g i j : Nat} {f : Option Value} {a b c d : Keyed} {Q : Unit → SortSt → Prop} (hi : i = 3) (hj : j = 2) (h : Q () (SortSt.mk' k #[a, b, d, c] p g f)) : wpS (model prog w) A E s (moveDown' i j) Q (SortSt.mk' k #[a, b, c, d] p g f) := by
  subst hi hj
  exact wpS_down h
theorem down33 {k : SortKind} {p : Array (Nat × Nat × Nat)} {g i j : Nat} {f : Option Value} {a b c d : Keyed} {Q : Unit → SortSt → Prop} (hi : i = 3) (hj : j = 3) (h : Q () (SortSt.mk' k #[a, b, c, d] p g f)) : wpS (model prog w) A E s (moveDown' i j) Q (SortSt.mk' k #[a, b, c, d] p g f) := by
  subst hi hj
  exact wpS_down h
theorem back_nil {k : SortKind} {xs : Array Keyed} {g : Nat} {f : Option Value} : (pendingOf (SortSt.mk' k xs #[] g f)).back? = none := rfl
theorem wpS_sort4 {prog : Program} {w : World} {A : Around} {E : Value → Shared → Prop} {s : Shared} {kf : Nat → Int} {tf : Nat → Tok} {vf : Nat → Value} {Q : Unit → SortSt → Prop}
    (h : ∀ st', Out4 kf tf vf (arrOf st') → failedOf st' = none → Q () st') : wpS (model prog w) A E s sortRuns' Q (SortSt.mk' oneType' #[P4 kf tf vf 0, P4 kf tf vf 1, P4 kf tf vf 2, P4 kf tf vf 3] #[] 7 none) := by
  rw [sortRuns'_eq]
  have hm : minRun' 4 4 0 = 4 := rfl
  refine wpS_bind (wpS_get ?_)
  have hz : (arrOf (SortSt.mk' oneType' #[P4 kf tf vf 0, P4 kf tf vf 1, P4 kf tf vf 2, P4 kf tf vf 3] #[] 7 none)).size = 4 := rfl
  simp only [hz, hm]
  refine wpS_bind ?_
  refine wpS_go (by decide) ?_
  simp only [show ¬ (0 ≥ 4) by decide, if_false]
  repeat' (first | (with_reducible refine h _ ?_ rfl) | (first | (with_reducible refine wpS_bind ?_) | (with_reducible refine wpS_get ?_) | (with_reducible refine wpS_modify ?_) | (with_reducible refine wpS_pure ?_) | (with_reducible refine wpS_rule ?_) | (with_reducible refine rev02 (by k_dflt rfl) (by k_dflt rfl) ?_) | (with_reducible refine rev03 (by k_dflt rfl) (by k_dflt rfl) ?_) | (with_reducible refine rev04 (by k_dflt rfl) (by k_dflt rfl) ?_) | (with_reducible refine rev13 (by k_dflt rfl) (by k_dflt rfl) ?_) | (with_reducible refine rev14 (by k_dflt rfl) (by k_dflt rfl) ?_) | (with_reducible refine rev24 (by k_dflt rfl) (by k_dflt rfl) ?_) | (with_reducible refine down10 (by k_dflt rfl) (by k_dflt rfl) ?_) | (with_reducible refine down11 (by k_dflt rfl) (by k_dflt rfl) ?_) | (with_reducible refine down20 (by k_dflt rfl) (by k_dflt rfl) ?_) | (with_reducible refine down21 (by k_dflt rfl) (by k_dflt rfl) ?_) | (with_reducible refine down22 (by k_dflt rfl) (by k_dflt rfl) ?_) | (with_reducible refine down30 (by k_dflt rfl) (by k_dflt rfl) ?_) | (with_reducible refine down31 (by k_dflt rfl) (by k_dflt rfl) ?_) | (with_reducible refine down32 (by k_dflt rfl) (by k_dflt rfl) ?_) | (with_reducible refine down33 (by k_dflt rfl) (by k_dflt rfl) ?_) | (with_reducible refine wpS_go (by k_dflt decide) ?_) | (with_reducible refine wpS_stop (by k_dflt decide) ?_) | (((with_reducible refine wpS_lt4 (by k_dflt rfl) (by k_dflt rfl) (by k_dflt rfl) ?_ ?_) <;> intro _)) | (rw [countRun'_eq]) | (rw [binarySort'_eq]) | ((rw [if_pos (by decide)])) | ((rw [if_neg (by decide)])) | (rw [back_nil]) | (rw [if_pos (by with_unfolding_all exact Nat.le_of_ble_eq_true rfl)]) | (dsimp only)))
  all_goals (first | (exact ⟨_, _, _, _, by with_unfolding_all rfl, by decide, by first | exact .inl (by assumption) | exact lexK_le (by assumption) (by decide) | (unfold lexK; lia), by first | exact .inl (by assumption) | exact lexK_le (by assumption) (by decide) | (unfold lexK; lia), by first | exact .inl (by assumption) | exact lexK_le (by assumption) (by decide) | (unfold lexK; lia)⟩) | (exfalso; lia))
end
end Mine
end

section
open PySem PySem.W PyProof.Rows PySem.Calls
set_option Elab.async false
set_option maxRecDepth 100000
set_option maxHeartbeats 8000000
set_option linter.unusedVariables false
namespace Mine
section
variable {prog : Program} {w : World} {A : Around} {E : Value → Shared → Prop} {s : Shared} {h₀ : Heap} {L : Addr} {m : Str → Option Value} {env : Env}
noncomputable def Four (x1 x2 x3 x4 : Str) (p1 p2 p3 p4 : Pos) : List Expr := [.Name x1 p1, .Name x2 p2, .Name x3 p3, .Name x4 p4]
noncomputable def Step4 (prog : Program) (w : World) (A : Around) (h₀ : Heap) (L : Addr) (m : Str → Option Value) (env : Env) (elt : Expr) (x1 x2 x3 x4 : Str) (scope : Scope) (cl : List (Str × Addr)) (s₂ : Shared) (S : Led → Prop) (n : Nat) (P : Nat → Value → Prop) (J : Nat → List Value → Led → Prop) : Prop :=
  ∀ i ys nw v, i < n → J i ys nw → P i v → ∃ t v1 v2 v3 v4, v = .ref t ∧ (t, tupO [v1, v2, v3, v4]) ∈ nw ∧
    ∀ I oI C oC D m₂ h tk (E' : Value → Shared → Prop), LCg.NsObj oC m₂ → m₂ x1 = some v1 → m₂ x2 = some v2 → m₂ x3 = some v3 → m₂ x4 = some v4 → Fr h₀ L h m → News h₀ L h ((I, oI) :: (C, oC) :: (D, LCg.lst ys) :: nw) → LCg.Off3 I C D nw → ((@Ne Nat I C) ∧ (@Ne Nat I D) ∧ (@Ne Nat C D)) →
      wpAny (model prog w) A (eval elt (compEnvC scope cl C env)) (LCg.CompEnd h₀ L m { s₂ with heap := h, toks := tk } I oI C oC D (LCg.lst ys) S (fun y nw' => J (i + 1) (ys ++ [y]) nw')) E' { s₂ with heap := h, toks := tk }
inductive Inv4 (h₀ : Heap) (L : Addr) (m : Str → Option Value) (s₂ : Shared) (n : Nat) (St : Nat → Heap → Prop) (I C D : Addr) (S : Led → Prop) (J : Nat → List Value → Led → Prop) : Nat → Shared → Prop
  | mk (h' : Heap) (tk i : Nat) (ys : List Value) (m' : Str → Option Value) (nw : Led) (hi : i ≤ n) (hyl : ys.length = i) (hst : St i h') (F : Fr h₀ L h' m) (hn : h'.Ns C m') (N : News h₀ L h' ((D, LCg.lst ys) :: nw)) (off : LCg.Off3 I C D nw) (hS : S nw) (hJ : J i ys nw) :
    Inv4 h₀ L m s₂ n St I C D S J (n + 1 - i) { s₂ with heap := h', toks := tk }
theorem block_4 {elt iter : Expr} {x1 x2 x3 x4 : Str} {p1 p2 p3 p4 tp : Pos} {tkd} {scope : Scope} {cl : List (Str × Addr)} {pos : Pos} {s₂ : Shared} {I : Addr} {fp : List Addr} {n : Nat} {P : Nat → Value → Prop} {St : Nat → Heap → Prop} {S : Led → Prop} {news : Led}
    {RR : Value → Addr → Result → Shared → Prop} (J : Nat → List Value → Led → Prop)
    (W : Walks prog w A I fp [I] n P St) (hsz : n ≤ 1000) (hIo : ∀ i h, St i h → ∃ o, h.get? I = some o)
    (hSt : ∀ i h h' o nw, St i h → h.get? I = some o → h'.get? I = some o → (∀ b o, h₀.get? b = some o → h'.get? b = some o) → News h₀ L h' nw → S nw → St i h')
    (hcell : ∀ y ∈ scope.names, y.2 ≠ .cell) (hkind : scope.kind = .function) (hx1 : scope.names.lookup x1 = some .local) (hx2 : scope.names.lookup x2 = some .local) (hx3 : scope.names.lookup x3 = some .local) (hx4 : scope.names.lookup x4 = some .local)
    (hd : [x1, x2, x3, x4].Nodup) (hh : A.handled = none) (hLI : ∀ i h, St i h → ∃ l j, h.IsListIter I l j) (hst : St 0 s₂.heap) (hfp : ∀ b ∈ fp, b < s₂.heap.objs.size)
    (F : Fr h₀ L s₂.heap m) (N : News h₀ L s₂.heap news) (hIL : L ≠ I) (hI₀ : h₀.get? I = none) (off : ∀ p ∈ news, p.1 ≠ I) (hS : S news) (hJ : J 0 [] news)
    (step : Step4 prog w A h₀ L m env elt x1 x2 x3 x4 scope cl s₂ S n P J)
    (hRR : ∀ D C h tk m' ys nw, Fr h₀ L h m → News h₀ L h ((D, LCg.lst ys) :: nw) → LCg.Off1 D nw → h.Ns C m' → h₀.get? C = none → h₀.get? D = none → C ≠ L → D ≠ L → C ≠ D → (∀ p ∈ nw, p.1 ≠ C) → J n ys nw → RR (.ref D) C (.ok .next) { s₂ with heap := h, toks := tk }) :
    wpAny (model prog w) A (newList []) (fun acc s₃ => wpAny (model prog w) A (newFunctionEnv scope env.globals cl [] env.qual none .none (some env)) (fun cenv s₄ =>
      codeAny (model prog w) A (.compStart (.ListComp elt [⟨.Tuple (Four x1 x2 x3 x4 p1 p2 p3 p4) tkd tp, iter, [], 0⟩] scope pos) 0 (.ref I) acc { cenv with scope := relabel scope env }) (RR acc cenv.locals) s₄) E s₃) E s₂ := by
  simp only [List.nodup_cons, List.mem_cons, List.not_mem_nil, or_false, not_or, List.nodup_nil, and_true, not_false_eq_true] at hd
  show (let gKz : Prop := ?_; gKz)
  intro gKz
  obtain ⟨⟨d12, d13, d14⟩, ⟨d23, d24⟩, d34⟩ := hd
  k_unfold
  (try clear gKz)
  refine wpAny_newObj_type (wpAny_newFunctionEnv hcell (by intro y hy; simp at hy) (fun h₁ hns₁ hsb₁ => ?_) hkind)
  dsimp only at hns₁ hsb₁ ⊢
  generalize hH2 : s₂.heap.push { cls := .type "list", dict := none, data := .seq ([] : List Value).toArray } = H2 at hns₁ hsb₁ ⊢
  have hC : H2.objs.size = s₂.heap.objs.size + 1 := by rw [← hH2, Heap.size_push]
  have nDC : s₂.heap.objs.size ≠ H2.objs.size := by rw [hC]; exact Nat.ne_of_lt (Nat.lt_succ_self _)
  have below : ∀ b, b < s₂.heap.objs.size → b ≠ H2.objs.size ∧ b ≠ s₂.heap.objs.size := fun b hb => ⟨by rw [hC]; exact Nat.ne_of_lt (Nat.lt_succ_of_lt hb), Nat.ne_of_lt hb⟩
  have hDf : s₂.heap.objs.size ∉ fp := fun hm => Nat.lt_irrefl _ (hfp _ hm)
  have hCf : H2.objs.size ∉ fp := fun hm => by have := hfp _ hm; rw [hC] at this; exact Nat.lt_irrefl _ (Nat.lt_of_succ_lt this)
  have hIlt : I < s₂.heap.objs.size := hfp I (W.sub I (List.mem_singleton.mpr rfl))
  have old : ∀ b o, s₂.heap.get? b = some o → h₁.get? b = some o := fun b o e => hsb₁.extBut b o (below b (Heap.lt_size e)).1 (Heap.get?_push_of_some _ (hH2 ▸ Heap.get?_push_of_some _ e))
  have hacc : h₁.get? s₂.heap.objs.size = some (LCg.lst []) := hsb₁.extBut _ _ nDC (Heap.get?_push_of_some _ (hH2 ▸ Heap.get?_push_size _ rfl))
  have hst₁ : St 0 h₁ := W.frame _ _ _ hst fun b _ o e => old b o e
  have fresh₀ : ∀ a, s₂.heap.objs.size ≤ a → h₀.get? a = none := fun a ha => by
    cases e : h₀.get? a with
    | none => rfl
    | some o' => exact absurd (Heap.lt_size (F.keep a o' e)) (Nat.not_lt.mpr ha)
  have hD₀ : h₀.get? s₂.heap.objs.size = none := fresh₀ _ (Nat.le_refl _)
  have hC₀ : h₀.get? H2.objs.size = none := fresh₀ _ (by rw [hC]; exact Nat.le_succ _)
  have hLlt : L < s₂.heap.objs.size := F.ns.lt
  have nDL : s₂.heap.objs.size ≠ L := Ne.symm (below L hLlt).2
  have nCL : H2.objs.size ≠ L := Ne.symm (below L hLlt).1
  have nIC : I ≠ H2.objs.size := (below I hIlt).1
  have nID : I ≠ s₂.heap.objs.size := (below I hIlt).2
  have off₀ : LCg.Off3 I H2.objs.size s₂.heap.objs.size news := LCg.Off3.of fun p hp => ⟨off p hp, (below _ (Heap.lt_size (N p hp).1)).1, (below _ (Heap.lt_size (N p hp).1)).2⟩
  have loop : ∀ s₃ : Shared, s₃ = { s₂ with heap := h₁, toks := s₂.toks + ([] : List (Str × Value)).length } →
      codeAny (model prog w) A (.compLoop (.ListComp elt [⟨.Tuple (Four x1 x2 x3 x4 p1 p2 p3 p4) tkd tp, iter, [], 0⟩] scope pos) 0 (.ref I) (.ref s₂.heap.objs.size) (compEnvC scope cl H2.objs.size env))
        (RR (.ref s₂.heap.objs.size) H2.objs.size) s₃ := by
    rintro s₃ rfl
    refine LCp.codeAny_compLoop_pair
      (Inv4 h₀ L m s₂ n St I H2.objs.size s₂.heap.objs.size S J) ?_ (n + 1)
      (.mk h₁ _ 0 [] _ news (Nat.zero_le _) rfl hst₁ (F.keeps old) hns₁ (fun p hp => ?_) off₀ hS hJ)
    · rintro k s' ⟨h', tk, i, ys, m', nw, hi, hyl, hst', F', hn', N', off', hS', hJ'⟩
      have off3 := off'.mem
      by_cases hlt : i < n
      · refine W.item i _ _ _ hlt hst' fun v h₂ tk₂ hPv hst₂ hk₂ => ?_
        show (let gKz : Prop := ?_; gKz)
        intro gKz
        obtain ⟨t, v1, v2, v3, v4, zq1, hmt, turn⟩ := step i ys nw v hlt hJ' hPv
        k_unfold
        (try clear gKz)
        subst zq1
        have N₂ : News h₀ L h₂ ((s₂.heap.objs.size, LCg.lst ys) :: nw) := LCg.news_but N' hk₂ fun p hp => by
          rcases List.mem_cons.mp hp with rfl | hp
          · exact Ne.symm nID
          · exact (off3 p hp).1
        have ht : IsTup h₂ t [v1, v2, v3, v4].toArray := ⟨_, (N₂ _ (List.mem_cons_of_mem _ hmt)).1, rfl, 0, rfl⟩
        obtain ⟨lI, jI, hLi⟩ := hLI _ _ hst₂
        refine wpAny_letOwnedTupleGo_listiter hLi ?_
        refine assign_Tuple_tuple hh ht rfl rfl fun h₃ he => ?_
        have he' : ∀ b o, h₂.get? b = some o → h₃.get? b = some o := fun b o e => he b o (Nat.ne_of_lt (Heap.lt_size e)) e
        have hn₃ : h₃.Ns H2.objs.size m' := (hn'.at' fun o e => hk₂ _ o (by simpa using Ne.symm nIC) e).at' fun o e => he' _ o e
        refine assignInOrder_cons (wpAny_assign_Name (wpAny_storeName_local (lookup_relabel_local hx1) hn₃ (fun h₄ hn₄ hs₄ => ?_) (by simp [compEnvC, relabel, hkind])))
        refine assignInOrder_cons (wpAny_assign_Name (wpAny_storeName_local (lookup_relabel_local hx2) hn₄ (fun h₅ hn₅ hs₅ => ?_) (by simp [compEnvC, relabel, hkind])))
        refine assignInOrder_cons (wpAny_assign_Name (wpAny_storeName_local (lookup_relabel_local hx3) hn₅ (fun h₆ hn₆ hs₆ => ?_) (by simp [compEnvC, relabel, hkind])))
        refine assignInOrder_cons (wpAny_assign_Name (wpAny_storeName_local (lookup_relabel_local hx4) hn₆ (fun h₇ hn₇ hs₇ => ?_) (by simp [compEnvC, relabel, hkind])))
        refine assignInOrder_nil ?_
        have old7 : ∀ b o, b ≠ H2.objs.size → h₂.get? b = some o → h₇.get? b = some o := fun b o hb e => hs₇.extBut b o hb (hs₆.extBut b o hb (hs₅.extBut b o hb (hs₄.extBut b o hb (he' b o e))))
        have hst₇ : St (i + 1) h₇ := W.frame _ _ _ hst₂ fun b hb o e => old7 b o (fun q => hCf (by rw [← q]; exact hb)) e
        obtain ⟨oI, heI⟩ := hIo _ _ hst₇
        obtain ⟨oC, heC, hoC⟩ := LCg.ns_obj hn₇
        have F₇ : Fr h₀ L h₇ m := (((((LCg.fr_but F' hk₂ hIL hI₀).keeps he').change hs₄ nCL hC₀).change hs₅ nCL hC₀).change hs₆ nCL hC₀).change hs₇ nCL hC₀
        have N₇ : News h₀ L h₇ ((I, oI) :: (H2.objs.size, oC) :: (s₂.heap.objs.size, LCg.lst ys) :: nw) := fun p hp => by
          rcases List.mem_cons.mp hp with rfl | hp
          · exact ⟨heI, Ne.symm hIL, hI₀⟩
          · rcases List.mem_cons.mp hp with rfl | hp
            · exact ⟨heC, nCL, hC₀⟩
            · have z := N₂ p hp
              refine ⟨old7 _ _ ?_ z.1, z.2⟩
              rcases List.mem_cons.mp hp with rfl | hp
              · exact nDC
              · exact (off3 p hp).2.1
        refine wpAny_mono (turn I oI H2.objs.size oC s₂.heap.objs.size _ h₇ _ _ hoC (by simp [d12, d13, d14]) (by simp [d23, d24]) (by simp [d34]) (by simp) F₇ N₇ off' ⟨nIC, nID, Ne.symm nDC⟩) (fun y s₄ h₄ => ?_) fun _ _ e => e
        show (let gKz : Prop := ?_; gKz)
        intro gKz
        obtain ⟨g₄, tk₄, nw₄, zq1, F₄, N₄, off₄, hS₄, hJ₄⟩ := h₄
        k_unfold
        (try clear gKz)
        subst zq1
        have zI := (N₄ (I, oI) List.mem_cons_self).1
        have zC := (N₄ (H2.objs.size, oC) (.tail _ (.head _))).1
        have zD := (N₄ (s₂.heap.objs.size, LCg.lst ys) (.tail _ (.tail _ (.head _)))).1
        have N₄' : News h₀ L g₄ nw₄ := fun p hp => N₄ p (.tail _ (.tail _ (.tail _ hp)))
        have hst₄ : St (i + 1) g₄ := hSt _ _ _ _ _ hst₇ heI zI F₄.keep N₄' hS₄
        refine append_at (hsz := by show ys.toArray.size ≤ sizeLine; rw [List.size_toArray, hyl, sizeLine_eq]; lia) zD fun g₅ hs₅ hD₅ => ?_
        have off4 := off₄.mem
        refine ⟨n + 1 - (i + 1), by lia, .mk g₅ tk₄ (i + 1) (ys ++ [y]) _ nw₄ hlt (by rw [List.length_append, List.length_singleton, hyl]) (W.frame _ _ _ hst₄ fun b hb o e => hs₅.extBut b o (fun q => hDf (q ▸ hb)) e) (F₄.change hs₅ nDL hD₀)
          ((hoC.ns zC).sameBut hs₅ (Ne.symm nDC)) (fun p hp => ?_) off₄ hS₄ hJ₄⟩
        rcases List.mem_cons.mp hp with rfl | hp
        · exact ⟨hD₅.trans (congrArg some (LCg.lst_snoc ys y)), nDL, hD₀⟩
        · exact ⟨hs₅.extBut _ _ (off4 p hp).2.2 (N₄' p hp).1, (N₄' p hp).2⟩
      · obtain rfl : i = n := Nat.le_antisymm hi (Nat.not_lt.mp hlt)
        refine W.done _ _ _ hst' fun h₂ tk₂ hk₂ => ?_
        exact hRR _ _ h₂ tk₂ _ ys nw (LCg.fr_but F' hk₂ hIL hI₀) (LCg.news_but N' hk₂ fun p hp => by
          rcases List.mem_cons.mp hp with rfl | hp
          · exact Ne.symm nID
          · exact (off3 p hp).1) off'.one (hn'.at' fun o e => hk₂ _ o (by simpa using Ne.symm nIC) e) hC₀ hD₀ nCL nDL (Ne.symm nDC) (fun p hp => (off3 p hp).2.1) hJ'
    · rcases List.mem_cons.mp hp with rfl | hp
      · exact ⟨hacc, nDL, hD₀⟩
      · exact ⟨old _ _ (N p hp).1, (N p hp).2⟩
  exact codeAny_compStart_list (loop _ rfl) (W.self 0 _ _ _ hst₁ (loop _ rfl))
noncomputable def Src4 (prog : Program) (w : World) (A : Around) (h₀ : Heap) (L : Addr) (m : Str → Option Value) (env : Env) (elt : Expr) (x1 x2 x3 x4 : Str) (scope : Scope) (cl : List (Str × Addr)) (Fin : Shared → List Value → Led → Prop) (xv : Value) (s₁ : Shared) : Prop :=
  ∃ ax vs k news n, ∃ J : Nat → List Value → Led → Prop, xv = .ref ax ∧ A.handled = none ∧ Fr h₀ L s₁.heap m ∧ News h₀ L s₁.heap news ∧ (ax, listO vs k) ∈ news ∧ vs.length = n ∧ n ≤ 1000 ∧ J 0 [] news ∧
    ∀ s₂ : Shared, (∃ h, s₂ = { s₁ with heap := h }) → Step4 prog w A h₀ L m env elt x1 x2 x3 x4 scope cl s₂ (LCg.SrcAt h₀ ax vs.toArray) n (fun i v => vs[i]? = some v) J ∧ ∀ ys nw, J n ys nw → Fin s₂ ys nw
theorem Eval_four {elt iter : Expr} {x1 x2 x3 x4 : Str} {p1 p2 p3 p4 tp : Pos} {tkd} {scope : Scope} {cl : List (Str × Addr)} {pos : Pos} {Q : Value → Shared → Prop} (F₀ : Fr h₀ L s.heap m)
    (hclos : closureFor scope env = pure cl) (hcell : ∀ y ∈ scope.names, y.2 ≠ .cell) (hkind : scope.kind = .function)
    (hnames : ∀ y ∈ scope.names, y.2 = .local → scope.names.lookup y.1 = some .local) (hx1 : scope.names.lookup x1 = some .local) (hx2 : scope.names.lookup x2 = some .local) (hx3 : scope.names.lookup x3 = some .local) (hx4 : scope.names.lookup x4 = some .local) (hd : [x1, x2, x3, x4].Nodup)
    (h : wpAny (model prog w) A (eval iter env) (Src4 prog w A h₀ L m env elt x1 x2 x3 x4 scope cl (fun s₂ => LCg.FinE h₀ L m s₂ Q)) E s)
    (hs : ∀ x, foldedSetIterable iter env x = pure x := by intro _; rfl) :
    wpAny (model prog w) A (eval (.ListComp elt [⟨.Tuple [.Name x1 p1, .Name x2 p2, .Name x3 p3, .Name x4 p4] tkd tp, iter, [], 0⟩] scope pos) env) Q E s := by
  rw [eval_ListComp]
  refine wpAny_comprehension_free (use := none) rfl hs hclos hkind hnames (wpAny_mono h (fun xv s₁ h₁ => ?_) fun _ _ e => e)
  show (let gKz : Prop := ?_; gKz)
  intro gKz
  obtain ⟨ax, vs, k, news, n, J, zq1, hh, F, N, hm, hn, hfit, hJ0, R⟩ := h₁
  k_unfold
  (try clear gKz)
  subst zq1
  have S : LCg.SrcAt h₀ ax vs.toArray news := .inr ⟨_, hm, rfl, _, rfl⟩
  have hl := S.list F.keep N
  have hlt : ax < s₁.heap.objs.size := by obtain ⟨_, e, _⟩ := hl; exact Heap.lt_size e
  refine wpAny_pyIter_list hl ?_
  have up : ∀ b o, s₁.heap.get? b = some o → (s₁.heap.push { cls := .type "list_iterator", data := .fields #[.ref ax, .int 0 0] }).get? b = some o := fun b o e => Heap.get?_push_of_some _ e
  obtain ⟨step, fin⟩ := R { s₁ with heap := s₁.heap.push { cls := .type "list_iterator", data := .fields #[.ref ax, .int 0 0] } } ⟨_, rfl⟩
  subst hn
  have W := Walks.list (prog := prog) (w := w) hh s₁.heap.objs.size ax (Nat.ne_of_lt hlt) vs.toArray
  simp only [List.size_toArray, List.getElem?_toArray] at W
  refine block_4 J W hfit (fun i h st => by obtain ⟨o, e, _⟩ := st.1; exact ⟨o, e⟩) LCg.list_st hcell hkind hx1 hx2 hx3 hx4 hd hh (fun i h st => ⟨_, _, st.1⟩) ⟨⟨_, Heap.get?_push_size _ rfl, rfl, rfl⟩, hl.push _⟩ (fun b hb => ?_)
    (F.keeps up) (N.grown up) (Nat.ne_of_lt F.ns.lt) (next_is_new F) (fun p hp => Nat.ne_of_lt (Heap.lt_size (N p hp).1)) S hJ0 step ?_
  · show b < (s₁.heap.push _).objs.size
    rw [Heap.size_push]
    rcases List.mem_cons.mp hb with rfl | hb
    · exact Nat.lt_succ_self _
    · rw [List.mem_singleton.mp hb]; exact Nat.lt_succ_of_lt hlt
  · intro D C h tk m' ys nw F' N' o1 hnC hC₀ hD₀ hCL hDL hCD offC hJn
    refine ⟨m', hnC, fun h'' hs'' => fin ys nw hJn D h'' tk (F'.change hs'' hCL hC₀) (fun p hp => ?_) o1⟩
    refine ⟨hs''.extBut _ _ ?_ (N' p hp).1, (N' p hp).2⟩
    rcases List.mem_cons.mp hp with rfl | hp
    · exact Ne.symm hCD
    · exact offC p hp
end
end Mine
end

section
open PySem PySem.W PyProof.Rows PySem.Calls
set_option Elab.async false
set_option maxRecDepth 100000
set_option maxHeartbeats 8000000
set_option linter.unusedVariables false
namespace Mine
noncomputable def Ord4 (kf : Nat → Int) (i0 i1 i2 i3 : Nat) : Prop := [i0, i1, i2, i3].Perm [0, 1, 2, 3] ∧ lexK kf i0 i1 ∧ lexK kf i1 i2 ∧ lexK kf i2 i3
noncomputable def L4 (vf : Nat → Value) : List Value := [vf 0, vf 1, vf 2, vf 3]
noncomputable def G4 (t0 t1 t2 t3 : Tok) : Nat → Tok
  | 0 => t0
  | 1 => t1
  | 2 => t2
  | _ => t3
theorem L4_get {vf : Nat → Value} {j : Nat} {x : Value} (h : (L4 vf)[j]? = some x) : j < 4 ∧ x = vf j := by
  have hj : j < 4 := (List.getElem?_eq_some_iff.mp h).1
  refine ⟨hj, ?_⟩
  have : j = 0 ∨ j = 1 ∨ j = 2 ∨ j = 3 := by lia
  rcases this with rfl | rfl | rfl | rfl <;> exact (Option.some.inj h).symm
theorem ints4 {vs : List Value} {a b c d : Int} (h : IntsAre vs [a, b, c, d]) : ∃ t0 t1 t2 t3, vs = [.int a t0, .int b t1, .int c t2, .int d t3] := by
  cases h with
  | cons _ t0 h => cases h with
    | cons _ t1 h => cases h with
      | cons _ t2 h => cases h with
        | cons _ t3 h => cases h with
          | nil => exact ⟨t0, t1, t2, t3, rfl⟩
section
variable {prog : Program} {w : World} {A : Around} {E : Value → Shared → Prop} {s : Shared} {h₀ : Heap} {L : Addr} {m : Str → Option Value} {news : Led} {a kS : Addr} {vf : Nat → Value} {kf : Nat → Int} {keys : Array Value} {e e1 : Nat} {P : PySem.Fin → Shared → Prop}
theorem s4_tail {tf : Nat → Tok} {st : SortSt} (F : Fr h₀ L s.heap m) (N : News h₀ L s.heap (news ++ [(kS, seqObj "list" keys e), (a, seqObj "list" #[] e1)])) (hka : kS ≠ a) (hnk : ∀ p ∈ news, p.1 ≠ kS) (hna : ∀ p ∈ news, p.1 ≠ a) (hks : keys.size = 4)
    (ho : Out4 kf tf vf (arrOf st)) (hfl : failedOf st = none)
    (h : ∀ h' tk i0 i1 i2 i3 c, Fr h₀ L h' m → News h₀ L h' ((a, listO [vf i0, vf i1, vf i2, vf i3] c) :: news) → Ord4 kf i0 i1 i2 i3 → P (.done (.ret .none)) { s with heap := h', toks := tk }) :
    wpAny (model prog w) A (ksk_tail a false e1 (.ref kS) st) P E s := by
  show (let gKz : Prop := ?_; gKz)
  intro gKz
  obtain ⟨i0, i1, i2, i3, hx, hp, o1, o2, o3⟩ := ho
  k_unfold
  (try clear gKz)
  have hout : (arrOf st).map (·.2) = [vf i0, vf i1, vf i2, vf i3].toArray := by
    apply Array.ext'
    rw [Array.toList_map, hx]; rfl
  have nk := N (kS, seqObj "list" keys e) (List.mem_append_right _ (.head _))
  have na := N (a, seqObj "list" #[] e1) (List.mem_append_right _ (.tail _ (.head _)))
  have Nn : News h₀ L s.heap news := fun p hp => N p (List.mem_append_left _ hp)
  have s1 := Heap.SameBut.update s.heap kS (Obj.mapSeq fun _ => (#[] : Array Value))
  have na1 : (s.heap.update kS (Obj.mapSeq fun _ => (#[] : Array Value))).get? a = some (seqObj "list" #[] e1) := (s1.2 a hka.symm).trans na.1
  have s2 := Heap.SameBut.update (s.heap.update kS (Obj.mapSeq fun _ => (#[] : Array Value))) a (Obj.mapSeq fun _ => [vf i0, vf i1, vf i2, vf i3].toArray)
  obtain ⟨c2, hc2⟩ : ∃ c2, ((s.heap.update kS (Obj.mapSeq fun _ => (#[] : Array Value))).update a (Obj.mapSeq fun _ => [vf i0, vf i1, vf i2, vf i3].toArray)).get? a = some (seqObj "list" [vf i0, vf i1, vf i2, vf i3].toArray c2) := ⟨_, get?_update_seq na1 fun _ => [vf i0, vf i1, vf i2, vf i3].toArray⟩
  have N2 := ksk_news (ksk_news Nn s1 hnk) s2 hna
  unfold ksk_tail
  dsimp only
  rw [hout]
  refine wpAny_bind (listUpdate_at nk.1 rfl ?_ (by rw [hks, sizeLine_eq]; lia) (Nat.zero_le _))
  refine wpAny_bind (wpAny_letGo ?_)
  refine wpAny_bind (seqEpoch_at na1 rfl ?_)
  refine wpAny_bind (listUpdate_at na1 rfl ?_ (Nat.zero_le _) (by rw [sizeLine_eq]; exact Nat.le_of_ble_eq_true rfl))
  rw [hfl]
  simp only [bne_self_eq_false, Bool.false_eq_true, if_false]
  refine wpAny_pure (h _ _ i0 i1 i2 i3 c2 (ksk_fr (ksk_fr F s1 nk.2.1 nk.2.2) s2 na.2.1 na.2.2) (fun p hp => ?_) ⟨hp, o1, o2, o3⟩)
  rcases List.mem_cons.mp hp with rfl | hp
  · exact ⟨hc2, na.2⟩
  · exact N2 p hp
theorem s4_end {t0 t1 t2 t3 : Tok} (F : Fr h₀ L s.heap m) (N : News h₀ L s.heap (news ++ [(kS, seqObj "list" keys e), (a, seqObj "list" #[] e1)])) (hka : kS ≠ a) (hnk : ∀ p ∈ news, p.1 ≠ kS) (hna : ∀ p ∈ news, p.1 ≠ a)
    (hk : keys = #[.int (kf 0) t0, .int (kf 1) t1, .int (kf 2) t2, .int (kf 3) t3])
    (h : ∀ h' tk i0 i1 i2 i3 c, Fr h₀ L h' m → News h₀ L h' ((a, listO [vf i0, vf i1, vf i2, vf i3] c) :: news) → Ord4 kf i0 i1 i2 i3 → P (.done (.ret .none)) { s with heap := h', toks := tk }) :
    wpAny (model prog w) A (ksk_end a false (L4 vf).toArray e1 (.ref kS) keys) P E s := by
  subst hk
  unfold ksk_end
  simp only [Bool.false_eq_true, if_false]
  have h2 : ¬ (L4 vf).toArray.size < 2 := by show ¬ 4 < 2; decide
  rw [if_neg h2, if_neg h2]
  have hkd : keyKind' #[.int (kf 0) t0, .int (kf 1) t1, .int (kf 2) t2, .int (kf 3) t3] = pure oneType' := ksk_kind (kz := [kf 0, kf 1, kf 2, kf 3]) (.cons _ _ (.cons _ _ (.cons _ _ (.cons _ _ .nil)))) (by show 2 ≤ 4; decide)
  rw [hkd]
  refine wpAny_bind (wpAny_pure ?_)
  have hz : (#[.int (kf 0) t0, .int (kf 1) t1, .int (kf 2) t2, .int (kf 3) t3] : Array Value).zip (L4 vf).toArray = #[P4 kf (G4 t0 t1 t2 t3) vf 0, P4 kf (G4 t0 t1 t2 t3) vf 1, P4 kf (G4 t0 t1 t2 t3) vf 2, P4 kf (G4 t0 t1 t2 t3) vf 3] := by
    apply Array.ext'
    rw [Array.toList_zip]; rfl
  rw [hz]
  refine wpAny_bind (wpAny_mono (wpS_sort4 (kf := kf) (tf := G4 t0 t1 t2 t3) (vf := vf) (Q := fun _ st' => Out4 kf (G4 t0 t1 t2 t3) vf (arrOf st') ∧ failedOf st' = none) fun st' a1 a2 => ⟨a1, a2⟩) ?_ fun _ _ e => e)
  rintro ⟨⟨⟩, st'⟩ s' ⟨rfl, ho, hf⟩
  exact s4_tail F N hka hnk hna rfl ho hf h
theorem s4_rest {f : Value} (F : Fr h₀ L s.heap m) (N : News h₀ L s.heap (news ++ [(kS, seqObj "list" #[] 0), (a, seqObj "list" #[] e1)])) (hka : kS ≠ a) (hnk : ∀ p ∈ news, p.1 ≠ kS) (hna : ∀ p ∈ news, p.1 ≠ a)
    (turn : ∀ i, i < 4 → ∀ (h : Heap) (tk : Nat) (own : Led), Fr h₀ L h m → News h₀ L h (news ++ own) →
      wpAny (model prog w) A (call f [vf i]) (KskEnd h₀ L m (news ++ own) (kf i) { s with heap := h, toks := tk }) (fun _ _ => False) { s with heap := h, toks := tk })
    (h : ∀ h' tk i0 i1 i2 i3 c, Fr h₀ L h' m → News h₀ L h' ((a, listO [vf i0, vf i1, vf i2, vf i3] c) :: news) → Ord4 kf i0 i1 i2 i3 → P (.done (.ret .none)) { s with heap := h', toks := tk }) :
    wpAny (model prog w) A (ksk_rest a f false (L4 vf).toArray e1 (.ref kS)) P E s := by
  unfold ksk_rest
  refine wpAny_bind (wpAny_rule ?_)
  rw [← Array.forIn_toList]
  refine wpAny_bind (ksk_fold (fun i s' => ∃ h' tk kA e, s' = { s with heap := h', toks := tk } ∧ Fr h₀ L h' m ∧ News h₀ L h' (news ++ [(kS, seqObj "list" kA e), (a, seqObj "list" #[] e1)]) ∧ IntsAre kA.toList ([kf 0, kf 1, kf 2, kf 3].take i)) (L4 vf) 0 s
    ⟨s.heap, s.toks, #[], 0, rfl, F, N, .nil⟩ ?step ?done)
  case step =>
    rintro j x s' hx ⟨h', tk, kA, e, rfl, F', N', hk⟩
    obtain ⟨hj, rfl⟩ := L4_get hx
    simp only [Nat.zero_add] at hk ⊢
    have hkj : [kf 0, kf 1, kf 2, kf 3][j]? = some (kf j) := by
      have : j = 0 ∨ j = 1 ∨ j = 2 ∨ j = 3 := by lia
      rcases this with rfl | rfl | rfl | rfl <;> rfl
    have hz : kA.size ≤ 4 := by
      have h1 := hk.length
      rw [Array.length_toList, List.length_take] at h1
      simp at h1; lia
    refine wpAny_bind (wpAny_attempt (wpAny_mono (turn j hj h' tk _ F' N') (fun v s'' he => ?_) fun _ _ hF => hF.elim))
    show (let gKz : Prop := ?_; gKz)
    intro gKz
    obtain ⟨g, tk2, t2, zq1, zq2, F2, N2⟩ := he
    k_unfold
    (try clear gKz)
    subst zq1
    subst zq2
    have nk := N2 (kS, seqObj "list" kA e) (List.mem_append_right _ (.head _))
    have na := N2 (a, seqObj "list" #[] e1) (List.mem_append_right _ (.tail _ (.head _)))
    have s1 := Heap.SameBut.update g kS (Obj.mapSeq (·.push (.int (kf j) t2)))
    obtain ⟨c2, hc2⟩ : ∃ c2, (g.update kS (Obj.mapSeq (·.push (.int (kf j) t2)))).get? kS = some (seqObj "list" (kA.push (.int (kf j) t2)) c2) := ⟨_, get?_update_seq nk.1 (·.push (.int (kf j) t2))⟩
    have ek : [kf 0, kf 1, kf 2, kf 3].take (j + 1) = [kf 0, kf 1, kf 2, kf 3].take j ++ [kf j] := by rw [List.take_add_one, hkj]; rfl
    have ea : (kA.push (Value.int (kf j) t2)).toList = kA.toList ++ [Value.int (kf j) t2] := by simp
    refine wpAny_bind (listUpdate_at nk.1 rfl ?_ (by rw [sizeLine_eq]; lia) (Nat.le_trans (Nat.le_of_eq (Array.size_push ..)) (by rw [sizeLine_eq]; lia)))
    refine wpAny_pure ⟨rfl, _, _, kA.push (.int (kf j) t2), c2, rfl, ksk_fr F2 s1 nk.2.1 nk.2.2, fun p hp => ?_, by rw [ea, ek]; exact ksk_snoc hk⟩
    rcases List.mem_append.mp hp with hp | hp
    · exact ksk_news (fun q hq => N2 q (List.mem_append_left _ hq)) s1 hnk p hp
    · rcases List.mem_cons.mp hp with rfl | hp
      · exact ⟨hc2, nk.2⟩
      · rw [List.mem_singleton.mp hp]
        exact ⟨(s1.2 a hka.symm).trans na.1, na.2⟩
  case done =>
    rintro s' ⟨h', tk, kA, e, rfl, F', N', hk⟩
    show (let gKz : Prop := ?_; gKz)
    intro gKz
    obtain ⟨t0, t1, t2, t3, hk'⟩ := ints4 (by exact hk)
    k_unfold
    (try clear gKz)
    have nk := N' (kS, seqObj "list" kA e) (List.mem_append_right _ (.head _))
    try dsimp only
    refine wpAny_bind (listItems_at nk.1 rfl ?_)
    exact s4_end F' N' hka hnk hna (Array.toList_inj.mp hk') fun h3 tk3 i0 i1 i2 i3 c F3 N3 k3 => h h3 tk3 i0 i1 i2 i3 c F3 N3 k3
theorem s4_sort {f : Value} {n : Nat} (F : Fr h₀ L s.heap m) (N : News h₀ L s.heap news) (ho : s.heap.get? a = some (seqObj "list" (L4 vf).toArray n)) (haL : a ≠ L) (ha0 : h₀.get? a = none) (hna : ∀ p ∈ news, p.1 ≠ a)
    (turn : ∀ i, i < 4 → ∀ (h : Heap) (tk : Nat) (own : Led), Fr h₀ L h m → News h₀ L h (news ++ own) →
      wpAny (model prog w) A (call f [vf i]) (KskEnd h₀ L m (news ++ own) (kf i) { s with heap := h, toks := tk }) (fun _ _ => False) { s with heap := h, toks := tk })
    (h : ∀ h' tk i0 i1 i2 i3 c, Fr h₀ L h' m → News h₀ L h' ((a, listO [vf i0, vf i1, vf i2, vf i3] c) :: news) → Ord4 kf i0 i1 i2 i3 → P (.done (.ret .none)) { s with heap := h', toks := tk }) :
    wpAny (model prog w) A (ksk_tree a f false) P E s := by
  have ha : a < s.heap.objs.size := Heap.lt_size ho
  have s1 := Heap.SameBut.update s.heap a (Obj.mapSeq fun _ => (#[] : Array Value))
  obtain ⟨e1, ho1⟩ : ∃ e1, (s.heap.update a (Obj.mapSeq fun _ => (#[] : Array Value))).get? a = some (seqObj "list" #[] e1) := ⟨_, get?_update_seq ho fun _ => #[]⟩
  have F1 := ksk_fr F s1 haL ha0
  have N1 := ksk_news N s1 hna
  have hkS : ((s.heap.update a (Obj.mapSeq fun _ => (#[] : Array Value))).push (seqObj "tuple" (L4 vf).toArray 0)).objs.size = s.heap.objs.size + 1 := by rw [size_push', Heap.size_update]
  have hLk : L < ((s.heap.update a (Obj.mapSeq fun _ => (#[] : Array Value))).push (seqObj "tuple" (L4 vf).toArray 0)).objs.size := (F1.push _).ns.lt
  have h4 : (L4 vf).toArray.size = 4 := rfl
  unfold ksk_tree
  refine wpAny_bind (listItems_at ho rfl ?_)
  refine wpAny_bind (listUpdate_at ho rfl ?_ (by rw [h4, sizeLine_eq]; lia) (Nat.zero_le _))
  refine wpAny_bind (seqEpoch_at ho1 rfl ?_)
  refine wpAny_bind (wpAny_newTuple ?_ (by show 4 ≤ _; rw [sizeLine_eq]; lia))
  refine wpAny_bind (wpAny_newList ?_ (Nat.zero_le _))
  refine wpAny_holding ?_
  refine s4_rest (s := { s with heap := ((s.heap.update a (Obj.mapSeq fun _ => (#[] : Array Value))).push (seqObj "tuple" (L4 vf).toArray 0)).push (seqObj "list" #[] 0) }) (kS := ((s.heap.update a (Obj.mapSeq fun _ => (#[] : Array Value))).push (seqObj "tuple" (L4 vf).toArray 0)).objs.size)
    ((F1.push _).push _) (fun p hp => ?_) (by rw [hkS]; exact Nat.ne_of_gt (Nat.lt_succ_of_lt ha)) (fun p hp => by rw [hkS]; exact Nat.ne_of_lt (Nat.lt_succ_of_lt (Heap.lt_size (N p hp).1))) hna turn h
  rcases List.mem_append.mp hp with hp | hp
  · exact ⟨Heap.get?_push_of_some _ (Heap.get?_push_of_some _ (N1 p hp).1), (N1 p hp).2⟩
  · rcases List.mem_cons.mp hp with rfl | hp
    · exact ⟨Heap.get?_push_size _ rfl, Nat.ne_of_gt hLk, Heap.get?_none_of_le (Nat.le_trans F.above (Nat.le_of_lt hLk))⟩
    · rw [List.mem_singleton.mp hp]
      exact ⟨Heap.get?_push_of_some _ (Heap.get?_push_of_some _ ho1), haL, ha0⟩
end
section
variable {prog : Program} {w : World} {A : Around} {E : Value → Shared → Prop} {s : Shared} {h₀ : Heap} {L l q : Addr} {m : Str → Option Value} {news : Led} {vf : Nat → Value} {kf : Nat → Int} {Q : Value → Shared → Prop}
theorem sorted_four (F : Fr h₀ L s.heap m) (N : News h₀ L s.heap news) (hl : s.heap.IsList l (L4 vf).toArray)
    (turn : ∀ i, i < 4 → ∀ (h : Heap) (tk : Nat) (own : Led), Fr h₀ L h m → News h₀ L h (news ++ own) →
      wpAny (model prog w) A.in1.in1 (call (.ref q) [vf i]) (KskEnd h₀ L m (news ++ own) (kf i) { s with heap := h, toks := tk }) (fun _ _ => False) { s with heap := h, toks := tk })
    (h : ∀ D h' tk i0 i1 i2 i3 c, Fr h₀ L h' m → News h₀ L h' ((D, listO [vf i0, vf i1, vf i2, vf i3] c) :: news) → (∀ q ∈ news, q.1 < D) → Ord4 kf i0 i1 i2 i3 → Q (.ref D) { s with heap := h', toks := tk }) :
    wpAny (model prog w) A (call (.builtin "sorted") [.ref l] [(Str.ofString "key", .ref q)]) Q E s := by
  have h4 : (L4 vf).toArray.size = 4 := rfl
  refine call_function_entry_kw kind_sorted plain_sorted entry_sorted (ksk_s1 _ _) ?_
  unfold Builtin.«sorted»
  refine wpAny_bind (m := checkCount "sorted" 1 1 _) (wpAny_pure ?_)
  refine wpAny_bind (collect_list hl ?_ (by show 4 ≤ _; rw [sizeLine_eq]; lia))
  refine wpAny_bind (wpAny_newList ?_ (by show 4 ≤ _; rw [sizeLine_eq]; lia))
  have hsz : ((s.heap.push (seqObj "list" #[] 0)).update s.heap.objs.size (Obj.mapSeq (· ++ (L4 vf).toArray))).objs.size = s.heap.objs.size + 1 := by
    rw [Heap.size_update, size_push']
  have hoL : (((s.heap.push (seqObj "list" #[] 0)).update s.heap.objs.size (Obj.mapSeq (· ++ (L4 vf).toArray))).push (seqObj "list" (L4 vf).toArray 0)).get? (s.heap.objs.size + 1) = some (seqObj "list" (L4 vf).toArray 0) := by
    rw [← hsz]; exact Heap.get?_push_size _ rfl
  have keep : ∀ b o, s.heap.get? b = some o → (((s.heap.push (seqObj "list" #[] 0)).update s.heap.objs.size (Obj.mapSeq (· ++ (L4 vf).toArray))).push (seqObj "list" (L4 vf).toArray 0)).get? b = some o := fun b o q => by
    have hlt : b < s.heap.objs.size := Heap.lt_size q
    rw [Heap.get?_push_ne _ _ _ (by rw [hsz]; exact Nat.ne_of_lt (Nat.lt_succ_of_lt hlt)), Heap.get?_update_ne _ _ _ _ (Nat.ne_of_lt hlt), Heap.get?_push_ne _ _ _ (Nat.ne_of_lt hlt)]
    exact q
  have hL : L < s.heap.objs.size := F.ns.lt
  show wpAny _ _ _ _ _ { s with heap := ((s.heap.push (seqObj "list" #[] 0)).update s.heap.objs.size (Obj.mapSeq (· ++ (L4 vf).toArray))).push (seqObj "list" (L4 vf).toArray 0) }
  rw [hsz]
  refine wpAny_bind (wpAny_holding (wpAny_call_entry_kw slot_list_sort ⟨_, hoL, rfl⟩ entry_list_sort ?body (ksk_l1 _ _)))
  case body =>
    have ht' := ksk_t1 q (s.heap.objs.size + 1)
    show wpAny (model prog w) A.in1.in1 (Builtin.«list.sort» ⟨[.ref (s.heap.objs.size + 1)], [(Str.ofString "key", .ref q)]⟩) _ _ _
    rw [ht']
    refine s4_sort (s := { s with heap := ((s.heap.push (seqObj "list" #[] 0)).update s.heap.objs.size (Obj.mapSeq (· ++ (L4 vf).toArray))).push (seqObj "list" (L4 vf).toArray 0) })
      (F.kept keep) (N.grown keep) hoL (Nat.ne_of_gt (Nat.lt_succ_of_lt hL)) (Heap.get?_none_of_le (Nat.le_trans F.above (Nat.le_succ_of_le (Nat.le_of_lt hL))))
      (fun p hp => Nat.ne_of_lt (Nat.lt_succ_of_lt (Heap.lt_size (N p hp).1))) turn fun h' tk i0 i1 i2 i3 c F' N' k' => ⟨_, rfl, ?_⟩
    exact wpAny_pure ⟨_, rfl, h _ h' tk i0 i1 i2 i3 c F' N' (fun q hq => Nat.lt_succ_of_lt (Heap.lt_size (N q hq).1)) k'⟩
end
end Mine
end

section
open PySem PySem.W PyProof.Rows PySem.Calls
set_option Elab.async false
set_option maxRecDepth 100000
set_option maxHeartbeats 8000000
set_option linter.unusedVariables false
namespace Mine
theorem perm4 {i0 i1 i2 i3 : Nat} (h : [i0, i1, i2, i3].Perm [0, 1, 2, 3]) : (i0 < 4 ∧ i1 < 4 ∧ i2 < 4 ∧ i3 < 4) ∧ (i0 ≠ i1 ∧ i0 ≠ i2 ∧ i0 ≠ i3 ∧ i1 ≠ i2 ∧ i1 ≠ i3 ∧ i2 ≠ i3) := by
  have hm : ∀ x, x ∈ [i0, i1, i2, i3] → x < 4 := fun x hx => by
    have := h.mem_iff.mp hx
    simp at this; lia
  have hn : [i0, i1, i2, i3].Nodup := h.symm.nodup (by decide)
  simp only [List.nodup_cons, List.mem_cons, List.not_mem_nil, or_false, not_or, List.nodup_nil, and_true, not_false_eq_true] at hn
  exact ⟨⟨hm _ (by simp), hm _ (by simp), hm _ (by simp), hm _ (by simp)⟩, hn.1.1, hn.1.2.1, hn.1.2.2, hn.2.1.1, hn.2.1.2, hn.2.2⟩
theorem insC_nil (c : Col) : insC [] c = [c] := rfl
theorem insC1 (a c : Col) : insC [a] c = if a.1 ≤ c.1 then [a, c] else [c, a] := by
  by_cases h : a.1 ≤ c.1 <;> simp [insC, countLe, h]
theorem insC2 {a b c : Col} (hs : a.1 ≤ b.1) : insC [a, b] c = if b.1 ≤ c.1 then [a, b, c] else if a.1 ≤ c.1 then [a, c, b] else [c, a, b] := by
  by_cases h1 : b.1 ≤ c.1
  · have h2 : a.1 ≤ c.1 := by lia
    simp [insC, countLe, h1, h2]
  · by_cases h2 : a.1 ≤ c.1 <;> simp [insC, countLe, h1, h2]
theorem insC3 {a b d c : Col} (hs : a.1 ≤ b.1) (hs2 : b.1 ≤ d.1) : insC [a, b, d] c = if d.1 ≤ c.1 then [a, b, d, c] else if b.1 ≤ c.1 then [a, b, c, d] else if a.1 ≤ c.1 then [a, c, b, d] else [c, a, b, d] := by
  by_cases h1 : d.1 ≤ c.1
  · have h2 : b.1 ≤ c.1 := by lia
    have h3 : a.1 ≤ c.1 := by lia
    simp [insC, countLe, h1, h2, h3]
  · by_cases h2 : b.1 ≤ c.1
    · have h3 : a.1 ≤ c.1 := by lia
      simp [insC, countLe, h1, h2, h3]
    · by_cases h3 : a.1 ≤ c.1 <;> simp [insC, countLe, h1, h2, h3]
theorem lexK_trans {kf : Nat → Int} {i j k : Nat} (h : lexK kf i j) (g : lexK kf j k) : lexK kf i k := by unfold lexK at *; lia
theorem ord_uniq {kf : Nat → Int} {l : List Nat} : ∀ {r : List Nat}, l.Pairwise (lexK kf) → r.Pairwise (lexK kf) → (∀ x, x ∈ l ↔ x ∈ r) → l = r := by
  induction l with
  | nil =>
    intro r _ _ h
    cases r with
    | nil => rfl
    | cons b r => exact absurd ((h b).mpr (.head _)) (by simp)
  | cons a l ih =>
    intro r hl hr h
    cases r with
    | nil => exact absurd ((h a).mp (.head _)) (by simp)
    | cons b r =>
      obtain ⟨ha, hl'⟩ := List.pairwise_cons.mp hl
      obtain ⟨hb, hr'⟩ := List.pairwise_cons.mp hr
      have irr : ∀ x, ¬ lexK kf x x := fun x h => by unfold lexK at h; lia
      have e : a = b := by
        rcases List.mem_cons.mp ((h a).mp (.head _)) with e | e
        · exact e
        · rcases List.mem_cons.mp ((h b).mpr (.head _)) with e2 | e2
          · exact e2.symm
          · exact absurd (lexK_trans (ha b e2) (hb a e)) (irr a)
      subst e
      rw [ih hl' hr' fun x => ⟨fun hx => ?_, fun hx => ?_⟩]
      · rcases List.mem_cons.mp ((h x).mp (.tail _ hx)) with e | e
        · subst e; exact absurd (ha x hx) (irr x)
        · exact e
      · rcases List.mem_cons.mp ((h x).mpr (.tail _ hx)) with e | e
        · subst e; exact absurd (hb x hx) (irr x)
        · exact e
theorem ins_idx (f : Nat → Col) : ∃ j0 j1 j2 j3, insAll f 4 = [f j0, f j1, f j2, f j3] ∧ [j0, j1, j2, j3].Perm [0, 1, 2, 3] ∧ [j0, j1, j2, j3].Pairwise (lexK fun k => (f k).1) := by
  have e4 : insAll f 4 = insC (insC (insC (insC [] (f 0)) (f 1)) (f 2)) (f 3) := rfl
  rw [e4, insC_nil, insC1]
  have fin : ∀ j0 j1 j2 j3 : Nat, ([f j0, f j1, f j2, f j3] : List Col) = [f j0, f j1, f j2, f j3] → [j0, j1, j2, j3].Perm [0, 1, 2, 3] → lexK (fun k => (f k).1) j0 j1 → lexK (fun k => (f k).1) j1 j2 → lexK (fun k => (f k).1) j2 j3 →
      ∃ k0 k1 k2 k3, ([f j0, f j1, f j2, f j3] : List Col) = [f k0, f k1, f k2, f k3] ∧ [k0, k1, k2, k3].Perm [0, 1, 2, 3] ∧ [k0, k1, k2, k3].Pairwise (lexK fun k => (f k).1) := fun j0 j1 j2 j3 _ hp h1 h2 h3 =>
    ⟨j0, j1, j2, j3, rfl, hp, by
      simp only [List.pairwise_cons, List.mem_cons, List.not_mem_nil, or_false, forall_eq_or_imp, forall_eq, List.Pairwise.nil, and_true]
      exact ⟨⟨h1, lexK_trans h1 h2, lexK_trans h1 (lexK_trans h2 h3)⟩, ⟨h2, lexK_trans h2 h3⟩, h3, fun _ h => nomatch h⟩⟩
  have q : ∀ i j : Nat, (f i).1 < (f j).1 ∨ ((f i).1 ≤ (f j).1 ∧ i < j) → lexK (fun k => (f k).1) i j := fun i j h => by unfold lexK; dsimp only; lia
  by_cases a : (f 0).1 ≤ (f 1).1
  · rw [if_pos a, insC2 a]
    by_cases b : (f 1).1 ≤ (f 2).1
    · rw [if_pos b, insC3 a b]
      by_cases c : (f 2).1 ≤ (f 3).1
      · rw [if_pos c]; exact fin 0 1 2 3 rfl (by decide) (q _ _ (by lia)) (q _ _ (by lia)) (q _ _ (by lia))
      · rw [if_neg c]
        by_cases d : (f 1).1 ≤ (f 3).1
        · rw [if_pos d]; exact fin 0 1 3 2 rfl (by decide) (q _ _ (by lia)) (q _ _ (by lia)) (q _ _ (by lia))
        · rw [if_neg d]
          by_cases e : (f 0).1 ≤ (f 3).1
          · rw [if_pos e]; exact fin 0 3 1 2 rfl (by decide) (q _ _ (by lia)) (q _ _ (by lia)) (q _ _ (by lia))
          · rw [if_neg e]; exact fin 3 0 1 2 rfl (by decide) (q _ _ (by lia)) (q _ _ (by lia)) (q _ _ (by lia))
    · rw [if_neg b]
      by_cases b2 : (f 0).1 ≤ (f 2).1
      · rw [if_pos b2, insC3 b2 (by lia)]
        by_cases c : (f 1).1 ≤ (f 3).1
        · rw [if_pos c]; exact fin 0 2 1 3 rfl (by decide) (q _ _ (by lia)) (q _ _ (by lia)) (q _ _ (by lia))
        · rw [if_neg c]
          by_cases d : (f 2).1 ≤ (f 3).1
          · rw [if_pos d]; exact fin 0 2 3 1 rfl (by decide) (q _ _ (by lia)) (q _ _ (by lia)) (q _ _ (by lia))
          · rw [if_neg d]
            by_cases e : (f 0).1 ≤ (f 3).1
            · rw [if_pos e]; exact fin 0 3 2 1 rfl (by decide) (q _ _ (by lia)) (q _ _ (by lia)) (q _ _ (by lia))
            · rw [if_neg e]; exact fin 3 0 2 1 rfl (by decide) (q _ _ (by lia)) (q _ _ (by lia)) (q _ _ (by lia))
      · rw [if_neg b2, insC3 (by lia) a]
        by_cases c : (f 1).1 ≤ (f 3).1
        · rw [if_pos c]; exact fin 2 0 1 3 rfl (by decide) (q _ _ (by lia)) (q _ _ (by lia)) (q _ _ (by lia))
        · rw [if_neg c]
          by_cases d : (f 0).1 ≤ (f 3).1
          · rw [if_pos d]; exact fin 2 0 3 1 rfl (by decide) (q _ _ (by lia)) (q _ _ (by lia)) (q _ _ (by lia))
          · rw [if_neg d]
            by_cases e : (f 2).1 ≤ (f 3).1
            · rw [if_pos e]; exact fin 2 3 0 1 rfl (by decide) (q _ _ (by lia)) (q _ _ (by lia)) (q _ _ (by lia))
            · rw [if_neg e]; exact fin 3 2 0 1 rfl (by decide) (q _ _ (by lia)) (q _ _ (by lia)) (q _ _ (by lia))
  · rw [if_neg a, insC2 (by lia)]
    by_cases b : (f 0).1 ≤ (f 2).1
    · rw [if_pos b, insC3 (by lia) b]
      by_cases c : (f 2).1 ≤ (f 3).1
      · rw [if_pos c]; exact fin 1 0 2 3 rfl (by decide) (q _ _ (by lia)) (q _ _ (by lia)) (q _ _ (by lia))
      · rw [if_neg c]
        by_cases d : (f 0).1 ≤ (f 3).1
        · rw [if_pos d]; exact fin 1 0 3 2 rfl (by decide) (q _ _ (by lia)) (q _ _ (by lia)) (q _ _ (by lia))
        · rw [if_neg d]
          by_cases e : (f 1).1 ≤ (f 3).1
          · rw [if_pos e]; exact fin 1 3 0 2 rfl (by decide) (q _ _ (by lia)) (q _ _ (by lia)) (q _ _ (by lia))
          · rw [if_neg e]; exact fin 3 1 0 2 rfl (by decide) (q _ _ (by lia)) (q _ _ (by lia)) (q _ _ (by lia))
    · rw [if_neg b]
      by_cases b2 : (f 1).1 ≤ (f 2).1
      · rw [if_pos b2, insC3 b2 (by lia)]
        by_cases c : (f 0).1 ≤ (f 3).1
        · rw [if_pos c]; exact fin 1 2 0 3 rfl (by decide) (q _ _ (by lia)) (q _ _ (by lia)) (q _ _ (by lia))
        · rw [if_neg c]
          by_cases d : (f 2).1 ≤ (f 3).1
          · rw [if_pos d]; exact fin 1 2 3 0 rfl (by decide) (q _ _ (by lia)) (q _ _ (by lia)) (q _ _ (by lia))
          · rw [if_neg d]
            by_cases e : (f 1).1 ≤ (f 3).1
            · rw [if_pos e]; exact fin 1 3 2 0 rfl (by decide) (q _ _ (by lia)) (q _ _ (by lia)) (q _ _ (by lia))
            · rw [if_neg e]; exact fin 3 1 2 0 rfl (by decide) (q _ _ (by lia)) (q _ _ (by lia)) (q _ _ (by lia))
      · rw [if_neg b2, insC3 (by lia) (by lia)]
        by_cases c : (f 0).1 ≤ (f 3).1
        · rw [if_pos c]; exact fin 2 1 0 3 rfl (by decide) (q _ _ (by lia)) (q _ _ (by lia)) (q _ _ (by lia))
        · rw [if_neg c]
          by_cases d : (f 1).1 ≤ (f 3).1
          · rw [if_pos d]; exact fin 2 1 3 0 rfl (by decide) (q _ _ (by lia)) (q _ _ (by lia)) (q _ _ (by lia))
          · rw [if_neg d]
            by_cases e : (f 2).1 ≤ (f 3).1
            · rw [if_pos e]; exact fin 2 3 1 0 rfl (by decide) (q _ _ (by lia)) (q _ _ (by lia)) (q _ _ (by lia))
            · rw [if_neg e]; exact fin 3 2 1 0 rfl (by decide) (q _ _ (by lia)) (q _ _ (by lia)) (q _ _ (by lia))
theorem ord_ins {f : Nat → Col} {i0 i1 i2 i3 : Nat} (h : Ord4 (fun k => (f k).1) i0 i1 i2 i3) : insAll f 4 = [f i0, f i1, f i2, f i3] := by
  show (let gKz : Prop := ?_; gKz)
  intro gKz
  obtain ⟨hp, h1, h2, h3⟩ := h
  k_unfold
  (try clear gKz)
  show (let gKz : Prop := ?_; gKz)
  intro gKz
  obtain ⟨j0, j1, j2, j3, e, hq, hw⟩ := ins_idx f
  k_unfold
  (try clear gKz)
  have hw2 : [i0, i1, i2, i3].Pairwise (lexK fun k => (f k).1) := by
    simp only [List.pairwise_cons, List.mem_cons, List.not_mem_nil, or_false, forall_eq_or_imp, forall_eq, List.Pairwise.nil, and_true]
    exact ⟨⟨h1, lexK_trans h1 h2, lexK_trans h1 (lexK_trans h2 h3)⟩, ⟨h2, lexK_trans h2 h3⟩, h3, fun _ h => nomatch h⟩
  have := ord_uniq hw2 hw fun x => (hp.mem_iff).trans (hq.mem_iff).symm
  simp only [List.cons.injEq, and_true] at this
  show (let gKz : Prop := ?_; gKz)
  intro gKz
  obtain ⟨zq1, zq2, zq3, zq4⟩ := this
  k_unfold
  (try clear gKz)
  subst zq1
  subst zq2
  subst zq3
  subst zq4
  exact e
theorem ord_kcol {mcs : Nat → Col4} {i0 i1 i2 i3 : Nat} (h : Ord4 (fun k => (fcol mcs k).1) i0 i1 i2 i3) : kcol mcs 0 = fcol mcs i0 ∧ kcol mcs 1 = fcol mcs i1 ∧ kcol mcs 2 = fcol mcs i2 ∧ kcol mcs 3 = fcol mcs i3 := by
  unfold kcol
  rw [ord_ins h]
  exact ⟨rfl, rfl, rfl, rfl⟩
end Mine
end

section
open PySem PySem.W PyProof.Rows PySem.Calls
set_option Elab.async false
set_option maxRecDepth 100000
set_option maxHeartbeats 8000000
namespace Mine
variable {w : World} {p : Program} {loose : List Str} {mean : ExcName → Option Value} {mg mb : Str → Option Value}
noncomputable def amOf (vs : List Value) (k : Nat) : Addr := match vs[k]? with
  | some (.ref a) => a
  | _ => 0
theorem ColsIn.am {nw : Led} {M : Addr} {mcs : Nat → Col4} (h : ColsIn nw M 4 mcs) : ∃ (am : Nat → Addr) (c : Nat), (M, listO (L4 fun k => .ref (am k)) c) ∈ nw ∧ ∀ k : Nat, k < 4 → ColAt nw (am k) (mcs k) ∧ ColOk (mcs k) := by
  obtain ⟨vs, c, h1, h2, h3⟩ := h
  have e : ∀ k : Nat, k < 4 → vs[k]? = some (.ref (amOf vs k)) ∧ ColAt nw (amOf vs k) (mcs k) ∧ ColOk (mcs k) := fun k hk => by
    obtain ⟨a, e1, e2, e3⟩ := h3 k hk
    have : amOf vs k = a := by unfold amOf; rw [e1]
    rw [this]; exact ⟨e1, e2, e3⟩
  have hv : vs = L4 fun k => .ref (amOf vs k) := list4 h2 (e 0 (by decide)).1 (e 1 (by decide)).1 (e 2 (by decide)).1 (e 3 (by decide)).1
  exact ⟨amOf vs, c, hv ▸ h1, fun k hk => (e k hk).2⟩
noncomputable def pick4 (i0 i1 i2 i3 : Nat) : Nat → Nat
  | 0 => i0
  | 1 => i1
  | 2 => i2
  | _ => i3
theorem pick4_get {α : Type} {f : Nat → α} {i0 i1 i2 i3 k : Nat} {v : α} (h : [f i0, f i1, f i2, f i3][k]? = some v) : v = f (pick4 i0 i1 i2 i3 k) := by
  have hk : k < 4 := (List.getElem?_eq_some_iff.mp h).1
  have : k = 0 ∨ k = 1 ∨ k = 2 ∨ k = 3 := by lia
  rcases this with rfl | rfl | rfl | rfl <;> exact (Option.some.inj h).symm
theorem pick4_lt {i0 i1 i2 i3 : Nat} (h : [i0, i1, i2, i3].Perm [0, 1, 2, 3]) (k : Nat) : pick4 i0 i1 i2 i3 k < 4 := by
  obtain ⟨⟨h0, h1, h2, h3⟩, _⟩ := perm4 h
  unfold pick4; split <;> assumption
theorem kskE {h₀ h' : Heap} {L : Addr} {m : Str → Option Value} {need news' : Led} {k n : Int} {s₁ : Shared} {t' : Tok} {tk : Nat} (e : n = k) (F : Fr h₀ L h' m) (N : News h₀ L h' news') (hn : ∀ p ∈ need, p ∈ news') :
    KskEnd h₀ L m need k s₁ (.int n t') { s₁ with heap := h', toks := tk } := by subst e; exact KskEnd.intro F N hn
theorem order_con (M : Addr) (mcs : Nat → Col4) (news : Led) (hM : ColsIn news M 4 mcs) :
    Con w p loose mean mg mb 139 [.ref M] news 6 64 (fun r n' => ∃ a t0 t1 t2 t3 c, r = .ref a ∧ (a, listO [.int (wC (kcol mcs 0)) t0, .int (wC (kcol mcs 1)) t1, .int (wC (kcol mcs 2)) t2, .int (wC (kcol mcs 3)) t3] c) ∈ n' ∧ ∀ p ∈ news, p ∈ n') := by
  unfold Con
  k_fill
  intro dp un gd cn cs a ccd cl outer A₀ base h₀ L m s Q E B F X N T hk hd hu hret
  show (let gKz : Prop := ?_; gKz)
  intro gKz
  obtain ⟨am, cM, hMm, hMa⟩ := hM.am
  k_unfold
  (try clear gKz)
  refine wpAny_call ?_
  k_dflt cell_enter
  w_on
  w_top on
  (try (rename Fr _ _ _ _ => F0z; revert F0z; show (let mKz := ?_; (Fr _ _ _ mKz → _)); intro mKz F0z))
  w_strict (repeat' (first
    | (k_unfold; (try dsimp only))
    | ((with_reducible show wpAny _ _ (exec _ _) _ _ _); k_fold) 
    | ((with_reducible show wpAny _ _ (eval (Expr.ListComp ..) _) _ _ _); (with_reducible ((k_here; k_dflt (refine Eval_four (F₀ := by k_asm) (by with_unfolding_all rfl) (by decide) (by rfl) (by decide) (by rfl) (by rfl) (by rfl) (by rfl) (by decide) ?_)))))
    | ((with_reducible show wpAny _ _ (call (Value.builtin _) _ _) _ _ _); ((with_reducible refine unstop ?_)))
    | (k_end; wrow_close)
    | walk1
    | (leave1; (try dsimp only))
    | dsimp only))
  delta Stop
  rename News _ _ _ _ => N0
  k_dflt refine sorted_four (vf := fun k => .ref (am k)) (kf := fun k => (fcol mcs k).1) (by k_asm) N0 ⟨_, (N0 _ hMm).1, rfl, cM, rfl⟩ ?_ ?_
  · intro i hi h tk own F1 N1
    clear N0
    show (let gKz : Prop := ?_; gKz)
    intro gKz
    obtain ⟨⟨t1, t2, t3, t4, hm1⟩, _⟩ := hMa i hi
    k_unfold
    (try clear gKz)
    have hm2 := List.mem_append_left own hm1
    refine wpAny_call ?_
    ((k_dflt (refine code_def (by (k_asm)) (by (k_asm)) (by (k_asm)) (by (k_asm)) (by (k_asm)) (by (exact rfl)) (by (exact rfl)) (by (exact rfl)) (by (k_is)) (by (k_is)) (by (ktr_room)) (by (exact BindsTo.of_eq rfl)) (by (exact locs rfl)) ?_ (by (exact rfl)) (by (exact rfl)) (by (exact rfl)) (by (decide)); intro _ _ _ _ _ _ B'z _ _; (try dsimp only); (try k_lift B'z); (try k_fold))))
    w_strict (repeat' (first
      | (k_unfold; (try dsimp only))
      | ((with_reducible show wpAny _ _ (exec _ _) _ _ _); k_fold) 
      | ((with_reducible show KskEnd ..); ((with_reducible refine unstop ?_)))
      | (k_end; wrow_close)
      | walk1
      | (leave1; (try dsimp only))
      | dsimp only))
    all_goals delta Stop
    · k_dflt exact kskE (if_pos (by assumption)).symm (by k_asm) (by k_asm) (fun p9 hp9 => hp9)
    · k_dflt exact kskE (if_neg (by assumption)).symm (by k_asm) (by k_asm) (fun p9 hp9 => hp9)
  · intro D h' tk' i0 i1 i2 i3 c F1 N1 l1 ho
    clear N0
    have hpl := pick4_lt ho.1
    refine ⟨D, _, c, _, 4, JG (IsW fun k => wC (fcol mcs (pick4 i0 i1 i2 i3 k))) _, rfl, rfl, by k_asm, N1, .head _, rfl, by decide, JG.nil _ _, ?_⟩
    rintro s₂ ⟨g, rfl⟩
    refine ⟨?_, ?_⟩
    · intro i ys nw v hi hj hP
      have hv := pick4_get (f := fun k => Value.ref (am k)) hP
      show (let gKz : Prop := ?_; gKz)
      intro gKz
      obtain ⟨⟨t1, t2, t3, t4, hm1⟩, _⟩ := hMa _ (hpl i)
      k_unfold
      (try clear gKz)
      refine ⟨_, _, _, _, _, hv, hj.2.2 _ (.tail _ hm1), ?_⟩
      intro I oI C oC D2 m2 h2 tk2 E2 hC hx1 hx2 hx3 hx4 F2 N2 off2 ne2
      clear N1
      w_strict (repeat' (first
        | (k_unfold; (try dsimp only))
        | ((with_reducible show wpAny _ _ (exec _ _) _ _ _); k_fold) 
        | ((with_reducible (((with_reducible show wpAny _ _ (eval (Expr.Name _ _) (compEnvC _ _ _ _)) _ _ _); first | (k_dflt refine LCgL.ld_own (by k_asm) (by k_mem) (by with_reducible assumption) (by with_reducible assumption) ?_) | (k_dflt (refine LCgL.ld_global (by (k_asm)) (by (k_asm)) (by (k_asm)) (by (k_is)) ?_)) | (k_dflt (refine LCgL.ld_built (by (k_asm)) (by (k_asm)) (by (k_asm)) (by (k_is)) (by (boot_by_name)) (by (decide)) ?_))))))
        | ((with_reducible show LCg.CompEnd ..); ((with_reducible refine unstop ?_)))
        | (k_end; wrow_close)
        | walk1
        | (leave1; (try dsimp only))
        | dsimp only))
      delta Stop
      k_dflt exact comp_val (by k_asm) (by k_asm) (fun p9 hp9 => hp9) off2 (.inr ⟨_, hj.2.2 _ (.head _), rfl, _, rfl⟩) (hj.next ⟨_, rfl⟩ (fun _ _ h9 => h9) fun p hp => hp)
    · intro ys nw hj D2 h2 tk2 F2 N2 off2
      clear N1
      show (let gKz : Prop := ?_; gKz)
      intro gKz
      obtain ⟨q0, q1, q2, q3⟩ := ord_kcol ho
      obtain ⟨t0, t1, t2, t3, hys⟩ := hj.w4
      k_unfold
      (try clear gKz)
      subst hys
      w_strict (repeat' (first
        | (k_unfold; (try dsimp only))
        | ((with_reducible show wpAny _ _ (exec _ _) _ _ _); k_fold) 
        | (k_end; wrow_close)
        | walk1
        | (leave1; (try dsimp only))
        | dsimp only))
      all_goals exact hret _ _ _ _ (by k_asm) (by k_asm) ⟨D2, t0, t1, t2, t3, _, rfl, by rw [q0, q1, q2, q3]; exact .head _, fun p hp => .tail _ (hj.2.2 _ (.tail _ hp))⟩
end Mine
end

section
open PySem PySem.W PyProof.Rows PySem.Calls
set_option Elab.async false
set_option maxRecDepth 100000
set_option maxHeartbeats 8000000
set_option linter.unusedVariables false
namespace Mine
noncomputable def TurnEnd (h₀ : Heap) (L I : Addr) (it : Obj) (rest : (Str → Option Value) → Led → Prop) (s₁ : Shared) (f : Flow) (s₂ : Shared) : Prop := f = .next ∧ UnrEnd h₀ L s₁ I it rest s₂
section
variable {prog : Program} {w : World} {A : Around} {E : Value → Shared → Prop} {s : Shared} {env : Env} {h₀ : Heap} {target : Expr} {body : List Stmt} {Q : Flow → Shared → Prop}
theorem own_two {h h' : Heap} {L I ax : Addr} {it lo : Obj} {own news news' : Led} (hit : h.get? I = some it) (hlo : (ax, lo) ∈ news) (N : News h₀ L h news) (hown : ∀ p ∈ own, p.1 ∈ [I, ax]) (hget : ∀ p ∈ own, h.get? p.1 = some p.2) (N' : News h₀ L h' ((I, it) :: news')) (hlo' : (ax, lo) ∈ news') :
    News h₀ L h' (own ++ news') := fun p hp => by
  rcases List.mem_append.mp hp with hp | hp
  · have h2 := hget p hp
    rcases List.mem_cons.mp (hown p hp) with h1 | h1
    · have h3 : p = (I, it) := by
        rw [h1, hit] at h2
        exact Prod.ext h1 (Option.some.inj h2).symm
      rw [h3]; exact N' _ (.head _)
    · have h1' : p.1 = ax := List.mem_singleton.mp h1
      have h3 : p = (ax, lo) := by
        rw [h1', (N _ hlo).1] at h2
        exact Prod.ext h1' (Option.some.inj h2).symm
      rw [h3]; exact N' _ (.tail _ hlo')
  · exact N' _ (.tail _ hp)
theorem list_TT {ax : Addr} {c n : Nat} {m₀ : Str → Option Value} {news nw₀ : Led} (vs : List Value) (MI : Nat → (Str → Option Value) → Prop) (J : Nat → Led → Prop) (hn : vs.length = n)
    (hh : A.handled = none) (F : Fr h₀ env.locals s.heap m₀) (N : News h₀ env.locals s.heap news) (sub : ∀ p ∈ nw₀, p ∈ news) (hlp : ∀ i nw, J i nw → (ax, listO vs c) ∈ nw) (hM : MI 0 m₀) (hJ : J 0 nw₀)
    (step : ∀ I i v m s₁ nw it, vs[i]? = some v → MI i m → J i nw → (∀ p ∈ nw, p.1 ≠ I) → it.cls = .type "list_iterator" → Fr h₀ env.locals s₁.heap m → News h₀ env.locals s₁.heap ((I, it) :: nw) →
      wpAny (model prog w) A (assign target env v) (fun _ s₃ => wpAny (model prog w) A (execs body env) (TurnEnd h₀ env.locals I it (fun m' n' => MI (i + 1) m' ∧ J (i + 1) n') s₁) E s₃) E s₁)
    (done : ∀ h tk m nw, MI n m → J n nw → Fr h₀ env.locals h m → News h₀ env.locals h nw → Q .next { s with heap := h, toks := tk }) :
    wpAny (model prog w) A (pyIter (.ref ax)) (fun it s₂ => LoopAtT prog w A h₀ env target body Q E it s₂) E s := by
  subst hn
  have N := News.sub N sub
  have hax := N _ (hlp _ _ hJ)
  have hl : s.heap.IsList ax vs.toArray := ⟨_, hax.1, rfl, c, rfl⟩
  have hlt : ax < s.heap.objs.size := Heap.lt_size hax.1
  have hne : ax ≠ s.heap.objs.size := Nat.ne_of_lt hlt
  refine wpAny_pyIter_list hl ?_
  have W := Walks.list (prog := prog) (w := w) hh s.heap.objs.size ax hne vs.toArray
  have hnew := next_is_new F
  simp only [List.size_toArray, List.getElem?_toArray] at W
  refine ⟨_, _, _, vs.length, _, _, m₀, nw₀, (fun i m nw => (MI i m ∧ J i nw) ∧ i ≤ vs.length), rfl, W, ?_, ?_, ?_, ⟨⟨_, Heap.get?_push_size _ rfl, rfl, rfl⟩, hl.at fun o e => Heap.get?_push_of_some _ e⟩, F.push _, (fun p hp => ⟨Heap.get?_push_of_some _ (N p hp).1, (N p hp).2⟩), (fun i s' v Q' st hQ' => letGo_listiter st.1 hQ'), ⟨⟨hM, hJ⟩, Nat.zero_le _⟩, ?_, ?_⟩
  · intro hmm
    rcases List.mem_cons.mp hmm with e | hmm
    · exact absurd F.ns.lt (e ▸ Nat.lt_irrefl _)
    · exact hax.2.1 (List.mem_singleton.mp hmm).symm
  · intro b hb
    rw [List.mem_singleton.mp hb]; exact hnew
  · intro p hp hI
    exact absurd (Heap.lt_size (N p hp).1) ((List.mem_singleton.mp hI) ▸ Nat.lt_irrefl _)
  · intro i v m₁ news₁ s₁ own hin hP ⟨⟨hm, hj⟩, _⟩ hoff hown hget hall hst F₁ N₁
    show (let gKz : Prop := ?_; gKz)
    intro gKz
    obtain ⟨it, hit, hic, hid⟩ := hst.1
    k_unfold
    (try clear gKz)
    have hmemI := hall s.heap.objs.size (.head _) hnew _ hit
    have N₂ : News h₀ env.locals s₁.heap ((s.heap.objs.size, it) :: news₁) := fun p hp => by
      rcases List.mem_cons.mp hp with rfl | hp
      · exact N₁ _ (List.mem_append_left _ hmemI)
      · exact N₁ _ (List.mem_append_right _ hp)
    refine wpAny_mono (step s.heap.objs.size i v m₁ s₁ news₁ it hP hm hj (fun p hp e => hoff p hp (List.mem_singleton.mpr e)) hic F₁ N₂) (fun _ s₃ h₃ => wpAny_mono h₃ (fun f s₄ h₄ => ?_) fun _ _ e => e) fun _ _ e => e
    show (let gKz : Prop := ?_; gKz)
    intro gKz
    obtain ⟨zq1, h', tk, m', news', zq2, F', N', ho, hm', hj'⟩ := h₄
    k_unfold
    (try clear gKz)
    subst zq1
    subst zq2
    exact ⟨rfl, h', tk, m', news', rfl, F', own_two hit (hlp _ _ hj) (News.right N₁) hown hget N' (hlp _ _ hj'), fun p hp hI => ho p hp (List.mem_singleton.mp hI), ⟨hm', hj'⟩, hin⟩
  · rintro h' tk m' news' F' N' _ ⟨⟨hm, hj⟩, _⟩
    exact done h' tk m' news' hm hj F' N'
theorem range_TT {r : Addr} {a₀ b₀ : Int} {t₀ u₀ v₀ : Tok} {n : Nat} {m₀ : Str → Option Value} {news nw₀ : Led} (MI : Nat → (Str → Option Value) → Prop) (J : Nat → Led → Prop)
    (hh : A.handled = none) (hr : IsRange s.heap r a₀ b₀ 1 t₀ u₀ v₀) (hsmall : Builtin.Range.small a₀ b₀ 1 = true) (hn : Builtin.Range.rangeSize a₀ b₀ 1 = (n : Int)) (F : Fr h₀ env.locals s.heap m₀) (N : News h₀ env.locals s.heap news) (sub : ∀ p ∈ nw₀, p ∈ news) (hM : MI 0 m₀) (hJ : J 0 nw₀)
    (step : ∀ I i t m s₁ nw it, i < n → MI i m → J i nw → (∀ p ∈ nw, p.1 ≠ I) → Fr h₀ env.locals s₁.heap m → News h₀ env.locals s₁.heap ((I, it) :: nw) →
      wpAny (model prog w) A (assign target env (.int (a₀ + (i : Int)) t)) (fun _ s₃ => wpAny (model prog w) A (execs body env) (TurnEnd h₀ env.locals I it (fun m' n' => MI (i + 1) m' ∧ J (i + 1) n') s₁) E s₃) E s₁)
    (done : ∀ h tk m nw, MI n m → J n nw → Fr h₀ env.locals h m → News h₀ env.locals h nw → Q .next { s with heap := h, toks := tk }) 
    (hgo : ∀ (s' : Shared) v I (Q' : Unit → Shared → Prop), Q' () s' → wpAny (model prog w) A (letOwnedTupleGo target (.ref I) v) Q' E s') :
    wpAny (model prog w) A (pyIter (.ref r)) (fun it s₂ => LoopAtT prog w A h₀ env target body Q E it s₂) E s := by
  have N := News.sub N sub
  refine wpAny_pyIter_range hr hsmall ?_
  have W : Walks prog w A s.heap.objs.size [s.heap.objs.size] [s.heap.objs.size] n (fun i v => i < n ∧ ∃ t, v = .int (a₀ + i * 1) t)
      (fun i h => IsRangeIter h s.heap.objs.size (a₀ + (i : Nat) * 1) ((n : Int) - (i : Nat)) 1) := (Walks.range hh _ a₀ 1 n).bound
  have hnew := next_is_new F
  refine ⟨_, _, _, n, _, _, m₀, nw₀, (fun i m nw => (MI i m ∧ J i nw) ∧ i ≤ n), rfl, W, ?_, ?_, ?_, (by show IsRangeIter _ _ _ _ _; rw [hn]; simpa using Heap.get?_push_size _ rfl), F.push _, (fun p hp => ⟨Heap.get?_push_of_some _ (N p hp).1, (N p hp).2⟩), (fun i s' v Q' st hQ' => hgo s' v _ Q' hQ'), ⟨⟨hM, hJ⟩, Nat.zero_le _⟩, ?_, ?_⟩
  · intro hm
    exact absurd F.ns.lt ((List.mem_singleton.mp hm) ▸ Nat.lt_irrefl _)
  · intro b hb
    rw [List.mem_singleton.mp hb]; exact hnew
  · intro p hp hI
    exact absurd (Heap.lt_size (N p hp).1) ((List.mem_singleton.mp hI) ▸ Nat.lt_irrefl _)
  · rintro i v m₁ news₁ s₁ own hin ⟨_, t, rfl⟩ ⟨⟨hm, hj⟩, _⟩ hoff hown hget hall hst F₁ N₁
    obtain ⟨it, hit⟩ : ∃ it, s₁.heap.get? s.heap.objs.size = some it := ⟨_, hst⟩
    have hmemI := hall s.heap.objs.size (List.mem_singleton.mpr rfl) hnew _ hit
    have N₂ : News h₀ env.locals s₁.heap ((s.heap.objs.size, it) :: news₁) := fun p hp => by
      rcases List.mem_cons.mp hp with rfl | hp
      · exact N₁ _ (List.mem_append_left _ hmemI)
      · exact N₁ _ (List.mem_append_right _ hp)
    have e1 : a₀ + (i : Int) * 1 = a₀ + (i : Int) := by rw [Int.mul_one]
    rw [e1]
    refine wpAny_mono (step s.heap.objs.size i t m₁ s₁ news₁ it hin hm hj (fun p hp e => hoff p hp (List.mem_singleton.mpr e)) F₁ N₂) (fun _ s₃ h₃ => wpAny_mono h₃ (fun f s₄ h₄ => ?_) fun _ _ e => e) fun _ _ e => e
    show (let gKz : Prop := ?_; gKz)
    intro gKz
    obtain ⟨zq1, h', tk, m', news', zq2, F', N', ho, hm', hj'⟩ := h₄
    k_unfold
    (try clear gKz)
    subst zq1
    subst zq2
    refine ⟨rfl, h', tk, m', news', rfl, F', fun p hp => ?_, fun p hp hI => ho p hp (List.mem_singleton.mp hI), ⟨hm', hj'⟩, hin⟩
    rcases List.mem_append.mp hp with hp | hp
    · have h1 : p.1 = s.heap.objs.size := List.mem_singleton.mp (hown p hp)
      have h2 : s₁.heap.get? p.1 = some p.2 := hget p hp
      have h3 : p = (s.heap.objs.size, it) := by
        rw [h1, hit] at h2
        exact Prod.ext h1 (Option.some.inj h2).symm
      rw [h3]; exact N' _ (.head _)
    · exact N' _ (.tail _ hp)
  · rintro h' tk m' news' F' N' _ ⟨⟨hm, hj⟩, _⟩
    exact done h' tk m' news' hm hj F' N'
theorem letGo_name {x : Str} {px : Pos} {I v : Value} {Q' : Unit → Shared → Prop} {s' : Shared} (h : Q' () s') : wpAny (model prog w) A (letOwnedTupleGo (.Name x px) I v) Q' E s' := by
  unfold letOwnedTupleGo
  exact wpAny_pure h
end
end Mine
end

section
open PySem PySem.W PyProof.Rows PySem.Calls
set_option Elab.async false
set_option maxRecDepth 100000
set_option maxHeartbeats 8000000
set_option linter.unusedVariables false
namespace Mine
noncomputable def comeN (f : Nat → Col) (p : Int) : Nat → Nat
  | 0 => 0
  | i + 1 => comeN f p i + if (f i).1 ≤ p then 1 else 0
theorem countLe_ins (cs : List Col) (c : Col) (p : Int) : countLe (List.map Prod.fst (insC cs c)) p = countLe (List.map Prod.fst cs) p + if c.1 ≤ p then 1 else 0 := by
  unfold insC
  generalize countLe (List.map Prod.fst cs) c.1 = k
  conv => rhs; rw [← List.take_append_drop k cs]
  unfold countLe
  simp only [List.map_append, List.map_cons, List.filter_append, List.length_append, List.filter_cons]
  by_cases h : c.1 ≤ p
  · simp [h]; lia
  · simp [h]
theorem come_is (f : Nat → Col) (p : Int) : ∀ n, countLe (List.map Prod.fst (insAll f n)) p = comeN f p n
  | 0 => rfl
  | n + 1 => by rw [insAll, countLe_ins, come_is f p n]; rfl
theorem come_le (f : Nat → Col) (p : Int) : ∀ n, comeN f p n ≤ n
  | 0 => Nat.le_refl _
  | n + 1 => by have := come_le f p n; unfold comeN; split <;> lia
theorem come_yes {f : Nat → Col} {p : Int} {i : Nat} (h : (f i).1 ≤ p) : comeN f p i + 1 = comeN f p (i + 1) := by show _ = comeN f p i + if (f i).1 ≤ p then 1 else 0; rw [if_pos h]
theorem come_no {f : Nat → Col} {p : Int} {i : Nat} (h : ¬ (f i).1 ≤ p) : comeN f p i = comeN f p (i + 1) := by show _ = comeN f p i + if (f i).1 ≤ p then 1 else 0; rw [if_neg h]; rfl
noncomputable def spZ (pcs mcs : Nat → Col4) (more : Int) (k : Nat) : Int := if 1 + (comeN (fcol mcs) (fcol pcs k).1 4 : Int) + more < 5 then 1 + (comeN (fcol mcs) (fcol pcs k).1 4 : Int) + more else 5
structure PJ (news : Led) (L D2 SP R : Addr) (pcs mcs : Nat → Col4) (more : Int) (lefts rights : List Value) (cL cR : Nat) (i : Nat) (nw : Led) : Prop where
  hN : ∀ p ∈ news, NoCell p.2 → p ∈ nw
  hL : (D2, listO lefts cL) ∈ nw
  hR : (R, listO rights cR) ∈ nw
  hj : ∃ o v, (L + 1 + 1 + 1 + 1, o) ∈ nw ∧ o.data = .cell v
  hp : ∃ o v, (L + 1 + 1 + 1, o) ∈ nw ∧ o.data = .cell v
  hs : ∃ o, (L + 1 + 1, o) ∈ nw ∧ o.data = .cell (some (.ref SP))
  hl : ∃ o, (L + 1, o) ∈ nw ∧ o.data = .cell (some (.ref D2))
  hS : ∃ vs c, (SP, listO vs c) ∈ nw ∧ vs.length = i ∧ ∀ k : Nat, k < i → ∃ t, vs[k]? = some (.int (spZ pcs mcs more k) t)
structure PCst (news : Led) (L D2 SP R : Addr) : Prop where
  cN : ∀ p ∈ news, NoCell p.2 → p.1 ≠ SP
  cD : D2 ≠ SP
  cR : R ≠ SP
  c4 : L + 1 + 1 + 1 + 1 ≠ SP
  c3 : L + 1 + 1 + 1 ≠ SP
  c2 : L + 1 + 1 ≠ SP
  c1 : L + 1 ≠ SP
theorem nocell_ne {o o' : Obj} {v : Option Value} (hn : NoCell o) (hd : o'.data = .cell v) : o ≠ o' := fun e => hn _ (by rw [e]; exact hd)
theorem push_listO (vs : List Value) (c : Nat) (v : Value) : (listOf (vs.toArray.push v) (c + 1) : Obj) = listO (vs ++ [v]) (c + 1) := by
  have : vs.toArray.push v = (vs ++ [v]).toArray := by simp
  rw [this]
theorem pj_turn {news nw nwN : Led} {h₀ h' : Heap} {Lc Lx D2 SP R I ap : Addr} {pcs mcs : Nat → Col4} {more : Int} {lefts rights : List Value} {cL cR i cS : Nat} {o opt it : Obj} {vpt : Option Value} {vsS : List Value} {t : Tok} {v : Int} {X : Addr × Obj} {s₁ : Shared} {tk : Nat} {MI : (Str → Option Value) → Prop} {m' : Str → Option Value}
    (hj : PJ news Lc D2 SP R pcs mcs more lefts rights cL cR i nw) (C : PCst news Lc D2 SP R) (hI : ∀ p ∈ nw, p.1 ≠ I) (upA : ∀ p ∈ (I, it) :: nw, p.1 ≠ Lc + 1 + 1 + 1 → p ∈ nwN) (upB : ∀ p ∈ (I, it) :: nw, p.2 ≠ opt → p ∈ nwN) (hcp : (Lc + 1 + 1 + 1, opt) ∈ nw) (hop : opt.data = .cell vpt)
    (hcN : (Lc + 1 + 1 + 1, o) ∈ nwN) (hdN : o.data = .cell (some (.ref ap))) (hSm : (SP, listO vsS cS) ∈ nw) (hSl : vsS.length = i) (hSk : ∀ k : Nat, k < i → ∃ t, vsS[k]? = some (.int (spZ pcs mcs more k) t)) (hv : v = spZ pcs mcs more i)
    (F : Fr h₀ Lx h' m') (N : News h₀ Lx h' ((SP, listOf (vsS.toArray.push (.int v t)) (cS + 1)) :: (X :: nwN).filter (fun p => p.1 != SP))) (hM : MI m') :
    TurnEnd h₀ Lx I it (fun m' n' => MI m' ∧ PJ news Lc D2 SP R pcs mcs more lefts rights cL cR (i + 1) n') s₁ .next { s₁ with heap := h', toks := tk } := by
  rw [push_listO] at N
  have hSI := hI _ hSm
  refine ⟨rfl, UnrEnd.intro F N ((SP, listO (vsS ++ [.int v t]) (cS + 1)) :: nwN.filter (fun p => p.1 != SP && p.1 != I)) (fun p hp => ?_) (fun p hp => ?_) ⟨hM, ?_⟩⟩
  · rcases List.mem_cons.mp hp with rfl | hp
    · exact .tail _ (List.mem_filter.mpr ⟨.tail _ (upA _ (.head _) (Ne.symm (hI _ hcp))), by simpa using Ne.symm hSI⟩)
    · rcases List.mem_cons.mp hp with rfl | hp
      · exact .head _
      · obtain ⟨h1, h2⟩ := List.mem_filter.mp hp
        simp only [Bool.and_eq_true, bne_iff_ne] at h2
        exact .tail _ (List.mem_filter.mpr ⟨.tail _ h1, by simpa using h2.1⟩)
  · rcases List.mem_cons.mp hp with rfl | hp
    · exact hSI
    · obtain ⟨h1, h2⟩ := List.mem_filter.mp hp
      simp only [Bool.and_eq_true, bne_iff_ne] at h2
      exact h2.2
  · have mk : ∀ p ∈ nwN, p.1 ≠ SP → p.1 ≠ I → p ∈ (SP, listO (vsS ++ [.int v t]) (cS + 1)) :: nwN.filter (fun p => p.1 != SP && p.1 != I) := fun p hp h1 h2 =>
      .tail _ (List.mem_filter.mpr ⟨hp, by simp only [Bool.and_eq_true, bne_iff_ne]; exact ⟨h1, h2⟩⟩)
    show (let gKz : Prop := ?_; gKz)
    intro gKz
    obtain ⟨jN, jL, jR, ⟨oj, vj, hcj, hdj⟩, _, ⟨os, hcs, hds⟩, ⟨ol, hcl, hdl⟩, _⟩ := hj
    k_unfold
    (try clear gKz)
    refine ⟨fun p hp hn => mk _ (upB _ (.tail _ (jN p hp hn)) (nocell_ne hn hop)) (C.cN p hp hn) (hI _ (jN p hp hn)), mk _ (upB _ (.tail _ jL) (nocell_ne (nocell_list _ _) hop)) C.cD (hI _ jL), mk _ (upB _ (.tail _ jR) (nocell_ne (nocell_list _ _) hop)) C.cR (hI _ jR),
      ⟨oj, vj, mk _ (upA _ (.tail _ hcj) (by show Nat.succ _ ≠ Nat.succ _; lia)) C.c4 (hI _ hcj), hdj⟩, ⟨o, _, mk _ hcN C.c3 (show Lc + 1 + 1 + 1 ≠ I from hI _ hcp), hdN⟩, ⟨os, mk _ (upA _ (.tail _ hcs) (by show Nat.succ _ ≠ Nat.succ _; lia)) C.c2 (hI _ hcs), hds⟩, ⟨ol, mk _ (upA _ (.tail _ hcl) (by show Nat.succ _ ≠ Nat.succ _; lia)) C.c1 (hI _ hcl), hdl⟩,
      ⟨_, _, .head _, by simp [hSl], fun k hk => ?_⟩⟩
    by_cases e : k < i
    · obtain ⟨t', ht'⟩ := hSk k e
      exact ⟨t', by rw [List.getElem?_append_left (by lia)]; exact ht'⟩
    · have : k = i := by lia
      subst this
      exact ⟨t, by rw [List.getElem?_append_right (by lia), hSl, Nat.sub_self, ← hv]; rfl⟩
end Mine
end

section
open PySem PySem.W PyProof.Rows PySem.Calls
set_option Elab.async false
set_option maxRecDepth 100000
set_option maxHeartbeats 8000000
set_option linter.unusedVariables false
namespace Mine
noncomputable def prL (ws : List Int) (i : Nat) : Int := (ws.take i).foldl (· * ·) 1
theorem prL_succ {ws : List Int} {i : Nat} {k : Int} (h : ws[i]? = some k) : prL ws i * k = prL ws (i + 1) := by
  unfold prL
  rw [List.take_add_one, h, Option.toList_some, List.foldl_append]; rfl
theorem Agree.form2v {a b : Str} {m m₀ : Str → Option Value} {w : Option Value} (h : Agree [a, b] m m₀) (hv : m b = w) : ∃ x, m = fun q => if q = a then x else if q = b then w else m₀ q :=
  ⟨m a, funext fun q => by
    by_cases h1 : q = a
    · rw [h1, if_pos rfl]
    · rw [if_neg h1]
      by_cases h2 : q = b
      · rw [h2, if_pos rfl, hv]
      · rw [if_neg h2]; exact h q (by simp [h1, h2])⟩
theorem Agree.form1v {b : Str} {m m₀ : Str → Option Value} {w : Option Value} (h : Agree [b] m m₀) (hv : m b = w) : m = fun q => if q = b then w else m₀ q :=
  funext fun q => by
    by_cases h2 : q = b
    · rw [h2, if_pos rfl, hv]
    · rw [if_neg h2]; exact h q (by simp [h2])
theorem mulR {prog : Program} {w : World} {A : Around} {E : Value → Shared → Prop} {s : Shared} {a b : Int} {t u : Tok} {Q : Value → Shared → Prop} (h0 : 0 ≤ b ∧ b ≤ 10000) (h : ∀ r tk', Q (.int (a * b) r) { s with toks := tk' }) : wpAny (model prog w) A (binaryOp .Mult (.int a t) (.int b u)) Q E s :=
  mul_int (h _ _) (IntMulOk.of_right (intBits_le_64 (by lia) (by lia)))
section
variable {prog : Program} {w : World} {A : Around} {E : Value → Shared → Prop} {s : Shared} {h₀ : Heap} {L l : Addr} {m : Str → Option Value} {news : Led}
theorem pick_from1 (a0 a1 a2 a3 a4 : Value) : (slicePick [a0, a1, a2, a3, a4].toArray (some 1) none none).toList = [a1, a2, a3, a4] := by with_unfolding_all rfl
theorem slice_from1 {value slice : PySem.Expr} {a0 a1 a2 a3 a4 : Value} {c : Nat} {t : Tok} {Q : Value → Shared → Prop} (F : Fr h₀ L s.heap m) (N : News h₀ L s.heap news) (hl : (l, listO [a0, a1, a2, a3, a4] c) ∈ news)
    (h : ∀ D h', Fr h₀ L h' m → News h₀ L h' ((D, listO [a1, a2, a3, a4] 0) :: news) → (∀ p ∈ news, p.1 < D) → Q (.ref D) { s with heap := h' })
    (hs : subscripted slice false (.ref l) (.ref s.heap.objs.size) = operate [.ref s.heap.objs.size, .ref l] (getItem (.ref l) (.ref s.heap.objs.size))) (ht : ∀ r, letTemporaryGo value (.ref l) r = pure ()) :
    wpAny (model prog w) A (subscriptTail value slice (.ref l) (.ref s.heap.objs.size)) Q E { s with heap := s.heap.push { cls := .type "slice", data := .fields #[.int 1 t, .none, .none] } } :=
  kmk_slice_lit F N ⟨_, (N _ hl).1, rfl, _, rfl⟩ (IsPart.int _ _) IsPart.none (pick_from1 _ _ _ _ _) h hs ht (by rw [sizeLine_eq]; exact Nat.le_of_ble_eq_true rfl)
theorem pick_to {a0 a1 a2 a3 a4 : Value} {x : Int} (h0 : 1 ≤ x) (h1 : x ≤ 5) : (slicePick [a0, a1, a2, a3, a4].toArray none (some x) none).toList = [a0, a1, a2, a3, a4].take x.toNat := by
  have : x = 1 ∨ x = 2 ∨ x = 3 ∨ x = 4 ∨ x = 5 := by lia
  rcases this with rfl | rfl | rfl | rfl | rfl <;> with_unfolding_all rfl
theorem slice_to {value slice : PySem.Expr} {a0 a1 a2 a3 a4 : Value} {c : Nat} {t : Tok} {x : Int} {Q : Value → Shared → Prop} (F : Fr h₀ L s.heap m) (N : News h₀ L s.heap news) (hl : (l, listO [a0, a1, a2, a3, a4] c) ∈ news) (hx : 1 ≤ x ∧ x ≤ 5)
    (h : ∀ D h', Fr h₀ L h' m → News h₀ L h' ((D, listO ([a0, a1, a2, a3, a4].take x.toNat) 0) :: news) → (∀ p ∈ news, p.1 < D) → Q (.ref D) { s with heap := h' })
    (hs : subscripted slice false (.ref l) (.ref s.heap.objs.size) = operate [.ref s.heap.objs.size, .ref l] (getItem (.ref l) (.ref s.heap.objs.size))) (ht : ∀ r, letTemporaryGo value (.ref l) r = pure ()) :
    wpAny (model prog w) A (subscriptTail value slice (.ref l) (.ref s.heap.objs.size)) Q E { s with heap := s.heap.push { cls := .type "slice", data := .fields #[.none, .int x t, .none] } } :=
  kmk_slice_lit F N ⟨_, (N _ hl).1, rfl, _, rfl⟩ IsPart.none (IsPart.int _ _) (pick_to hx.1 hx.2) h hs ht (by rw [sizeLine_eq]; exact Nat.le_of_ble_eq_true rfl)
theorem ints_take : ∀ {vs : List Value} {ns : List Int}, IntsAre vs ns → ∀ n, IntsAre (vs.take n) (ns.take n)
  | _, _, .nil, n => by rw [List.take_nil, List.take_nil]; exact .nil
  | _, _, .cons k t h, 0 => .nil
  | _, _, .cons k t h, n + 1 => .cons k t (ints_take h n)
theorem sum_led {vs : List Value} {ns : List Int} {c : Nat} {Q : Value → Shared → Prop} (hh : A.handled = none) (F : Fr h₀ L s.heap m) (N : News h₀ L s.heap news) (hl : (l, listO vs c) ∈ news) (hi : IntsAre vs ns)
    (h : ∀ h' tk t', Fr h₀ L h' m → News h₀ L h' news → Q (.int ns.sum t') { s with heap := h', toks := tk }) : wpAny (model prog w) A (call (.builtin "sum") [.ref l]) Q E s :=
  sumK hh F N ⟨_, (N _ hl).1, rfl, _, rfl⟩ hi h
end
theorem ten_at {vs : List Value} {ns : List Int} (hi : IntsAre vs ns) {i : Nat} {v : Value} (h : vs[i]? = some v) : ∃ k t, v = .int k t ∧ ns[i]? = some k := IntsAre.at hi i v h
noncomputable def rhoL (rs : List Int) (x : Int) : Int := (rs.take x.toNat).sum
theorem sum_bd : ∀ {l : List Int} {b : Int}, (∀ x ∈ l, 0 ≤ x ∧ x ≤ b) → 0 ≤ l.sum ∧ l.sum ≤ b * l.length
  | [], b, _ => by simp
  | a :: l, b, h => by
    have h1 := h a (.head _)
    have h2 := sum_bd (l := l) (b := b) fun x hx => h x (.tail _ hx)
    rw [List.sum_cons, List.length_cons, Int.natCast_add, Int.mul_add]
    simp only [Int.natCast_one, Int.mul_one]
    lia
theorem rhoL_bd {rs : List Int} {x : Int} (h5 : rs.length = 5) (h : ∀ y ∈ rs, 0 ≤ y ∧ y ≤ 320) : 0 ≤ rhoL rs x ∧ rhoL rs x ≤ 10000 := by
  have h2 := sum_bd (l := rs.take x.toNat) (b := 320) fun y hy => h y (List.mem_of_mem_take hy)
  have h3 : (rs.take x.toNat).length ≤ 5 := by rw [List.length_take]; lia
  unfold rhoL; lia
theorem spZ_bd (pcs mcs : Nat → Col4) {more : Int} (h : 0 ≤ more) (k : Nat) : 1 ≤ spZ pcs mcs more k ∧ spZ pcs mcs more k ≤ 5 := by
  unfold spZ; split <;> lia
end Mine
end

section
open PySem PySem.W PyProof.Rows PySem.Calls
set_option maxHeartbeats 400000
set_option maxRecDepth 100000
set_option Elab.async false
namespace Mine
theorem wC_bd {c : Col} (h : (0 ≤ c.2.1 ∧ c.2.1 ≤ 4) ∧ (1 ≤ c.2.2 ∧ c.2.2 ≤ 64)) : 1 ≤ wC c ∧ wC c ≤ 320 := by
  obtain ⟨a, b, d⟩ := c
  unfold wC; dsimp only at *; lia
theorem lW_bd {nw : Led} {P : Addr} {pcs : Nat → Col4} (h : ColsIn nw P 5 pcs) (k : Nat) (hk : k < 5) : 1 ≤ lW pcs k ∧ lW pcs k ≤ 320 := wC_bd ⟨(h.ok k hk).2.1, (h.ok k hk).2.2.1⟩
theorem kW_bd {nw : Led} {M : Addr} {mcs : Nat → Col4} (h : ColsIn nw M 4 mcs) (k : Nat) (hk : k < 4) : 1 ≤ wC (kcol mcs k) ∧ wC (kcol mcs k) ≤ 320 := wC_bd (kcol_ok h.ok k hk)
noncomputable def lL (pcs : Nat → Col4) : List Int := [lW pcs 0, lW pcs 1, lW pcs 2, lW pcs 3, lW pcs 4]
noncomputable def rL (fst : Int) (mcs : Nat → Col4) : List Int := [fst, wC (kcol mcs 0), wC (kcol mcs 1), wC (kcol mcs 2), wC (kcol mcs 3)]
theorem all5 {P : Int → Prop} {a b c d e : Int} (ha : P a) (hb : P b) (hc : P c) (hd : P d) (he : P e) : ∀ x ∈ [a, b, c, d, e], P x := fun x hx => by
  simp only [List.mem_cons, List.not_mem_nil, or_false] at hx
  rcases hx with rfl | rfl | rfl | rfl | rfl <;> assumption
theorem wide_bd {x : Int} (h : 1 ≤ x ∧ x ≤ 320) : 0 ≤ x ∧ x ≤ 320 := by lia
theorem lL_bd {nw : Led} {P : Addr} {pcs : Nat → Col4} (h : ColsIn nw P 5 pcs) : ∀ x ∈ lL pcs, 0 ≤ x ∧ x ≤ 320 :=
  all5 (P := fun x => 0 ≤ x ∧ x ≤ 320) (wide_bd (lW_bd h 0 (by decide))) (wide_bd (lW_bd h 1 (by decide))) (wide_bd (lW_bd h 2 (by decide))) (wide_bd (lW_bd h 3 (by decide))) (wide_bd (lW_bd h 4 (by decide)))
theorem rL_bd {nw : Led} {M : Addr} {mcs : Nat → Col4} {fst : Int} (h : ColsIn nw M 4 mcs) (hf : 1 ≤ fst ∧ fst ≤ 64) : ∀ x ∈ rL fst mcs, 0 ≤ x ∧ x ≤ 320 :=
  all5 (P := fun x => 0 ≤ x ∧ x ≤ 320) (by lia) (wide_bd (kW_bd h 0 (by decide))) (wide_bd (kW_bd h 1 (by decide))) (wide_bd (kW_bd h 2 (by decide))) (wide_bd (kW_bd h 3 (by decide)))
theorem lr_bd {nw : Led} {P M : Addr} {pcs mcs : Nat → Col4} {fst : Int} (hP : ColsIn nw P 5 pcs) (h : ColsIn nw M 4 mcs) (hf : 1 ≤ fst ∧ fst ≤ 64) : ∀ x ∈ lL pcs ++ rL fst mcs, 0 ≤ x ∧ x ≤ 10000 := fun x hx => by
  have : 0 ≤ x ∧ x ≤ 320 := by
    rcases List.mem_append.mp hx with h1 | h1
    · exact lL_bd hP x h1
    · exact rL_bd h hf x h1
  lia
theorem lr_ints {pcs mcs : Nat → Col4} {fst : Int} {t0 t1 t2 t3 t4 tf u0 u1 u2 u3 : Tok} : IntsAre [.int (lW pcs 0) t0, .int (lW pcs 1) t1, .int (lW pcs 2) t2, .int (lW pcs 3) t3, .int (lW pcs 4) t4, .int fst tf, .int (wC (kcol mcs 0)) u0, .int (wC (kcol mcs 1)) u1, .int (wC (kcol mcs 2)) u2, .int (wC (kcol mcs 3)) u3] (lL pcs ++ rL fst mcs) :=
  .cons _ _ (.cons _ _ (.cons _ _ (.cons _ _ (.cons _ _ (.cons _ _ (.cons _ _ (.cons _ _ (.cons _ _ (.cons _ _ .nil)))))))))
theorem r_ints {mcs : Nat → Col4} {fst : Int} {tf u0 u1 u2 u3 : Tok} : IntsAre [.int fst tf, .int (wC (kcol mcs 0)) u0, .int (wC (kcol mcs 1)) u1, .int (wC (kcol mcs 2)) u2, .int (wC (kcol mcs 3)) u3] (rL fst mcs) := .cons _ _ (.cons _ _ (.cons _ _ (.cons _ _ (.cons _ _ .nil))))
theorem rho_bd {nw : Led} {M : Addr} {mcs : Nat → Col4} {fst : Int} (h : ColsIn nw M 4 mcs) (hf : 1 ≤ fst ∧ fst ≤ 64) (x : Int) : 0 ≤ rhoL (rL fst mcs) x ∧ rhoL (rL fst mcs) x ≤ 10000 := rhoL_bd rfl (rL_bd h hf)
end Mine
end

section
open PySem PySem.W PyProof.Rows PySem.Calls
set_option Elab.async false
set_option maxRecDepth 100000
set_option maxHeartbeats 8000000
set_option linter.unusedVariables false
namespace Mine
noncomputable def selL (pcs mcs : Nat → Col4) (more j : Int) : Nat → List Int
  | 0 => []
  | k + 1 => selL pcs mcs more j k ++ if spZ pcs mcs more k > j then [lW pcs k] else []
theorem selL_yes {pcs mcs : Nat → Col4} {more j : Int} {k : Nat} (h : spZ pcs mcs more k > j) : selL pcs mcs more j (k + 1) = selL pcs mcs more j k ++ [lW pcs k] := by
  show selL pcs mcs more j k ++ (if spZ pcs mcs more k > j then [lW pcs k] else []) = _
  rw [if_pos h]
theorem selL_no {pcs mcs : Nat → Col4} {more j : Int} {k : Nat} (h : ¬ spZ pcs mcs more k > j) : selL pcs mcs more j (k + 1) = selL pcs mcs more j k := by
  show selL pcs mcs more j k ++ (if spZ pcs mcs more k > j then [lW pcs k] else []) = _
  rw [if_neg h, List.append_nil]
theorem selL_bd {nw : Led} {P : Addr} {pcs mcs : Nat → Col4} {more j : Int} (h : ColsIn nw P 5 pcs) : 0 ≤ (selL pcs mcs more j 5).sum ∧ (selL pcs mcs more j 5).sum ≤ 10000 := by
  have q : ∀ k : Nat, k ≤ 5 → (∀ x ∈ selL pcs mcs more j k, 0 ≤ x ∧ x ≤ 320) ∧ (selL pcs mcs more j k).length ≤ k := fun k => by
    induction k with
    | zero => exact fun _ => ⟨fun x hx => by simp [selL] at hx, Nat.le_refl _⟩
    | succ k ih =>
      intro hk
      obtain ⟨h1, h2⟩ := ih (by lia)
      by_cases e : spZ pcs mcs more k > j
      · rw [selL_yes e]
        refine ⟨fun x hx => ?_, by rw [List.length_append, List.length_singleton]; lia⟩
        rcases List.mem_append.mp hx with hx | hx
        · exact h1 x hx
        · rw [List.mem_singleton.mp hx]; exact wide_bd (lW_bd h k (by lia))
      · rw [selL_no e]; exact ⟨h1, by lia⟩
  obtain ⟨h1, h2⟩ := q 5 (Nat.le_refl _)
  have := sum_bd h1
  lia
structure QJ (news : Led) (L D2 SP : Addr) (lefts spans : List Value) (cL cS : Nat) (nw : Led) : Prop where
  hN : ∀ p ∈ news, NoCell p.2 → p ∈ nw
  hL : (D2, listO lefts cL) ∈ nw
  hS : (SP, listO spans cS) ∈ nw
  hj : ∃ o v, (L + 1 + 1 + 1 + 1, o) ∈ nw ∧ o.data = .cell v
  hs : ∃ o, (L + 1 + 1, o) ∈ nw ∧ o.data = .cell (some (.ref SP))
  hl : ∃ o, (L + 1, o) ∈ nw ∧ o.data = .cell (some (.ref D2))
theorem qj_turn {news nw nwN : Led} {h₀ h' : Heap} {Lc Lx D2 SP I : Addr} {lefts spans : List Value} {cL cS : Nat} {o opt it : Obj} {vpt : Option Value} {v : Value} {X : Addr × Obj} {s₁ : Shared} {tk : Nat} {MI : (Str → Option Value) → Prop} {m' : Str → Option Value}
    (hj : QJ news Lc D2 SP lefts spans cL cS nw) (hI : ∀ p ∈ nw, p.1 ≠ I) (upA : ∀ p ∈ (I, it) :: nw, p.1 ≠ Lc + 1 + 1 + 1 + 1 → p ∈ nwN) (upB : ∀ p ∈ (I, it) :: nw, p.2 ≠ opt → p ∈ nwN) (hcp : (Lc + 1 + 1 + 1 + 1, opt) ∈ nw) (hop : opt.data = .cell vpt)
    (hcN : (Lc + 1 + 1 + 1 + 1, o) ∈ nwN) (hdN : o.data = .cell (some v)) (F : Fr h₀ Lx h' m') (N : News h₀ Lx h' (X :: nwN)) (hM : MI m') :
    TurnEnd h₀ Lx I it (fun m' n' => MI m' ∧ QJ news Lc D2 SP lefts spans cL cS n') s₁ .next { s₁ with heap := h', toks := tk } := by
  refine ⟨rfl, UnrEnd.intro F N (nwN.filter (fun p => p.1 != I)) (fun p hp => ?_) (fun p hp => by simpa using (List.mem_filter.mp hp).2) ⟨hM, ?_⟩⟩
  · rcases List.mem_cons.mp hp with rfl | hp
    · exact .tail _ (upA _ (.head _) (Ne.symm (hI _ hcp)))
    · exact .tail _ (List.mem_filter.mp hp).1
  · have mk : ∀ p ∈ nwN, p.1 ≠ I → p ∈ nwN.filter (fun p => p.1 != I) := fun p hp h1 => List.mem_filter.mpr ⟨hp, by simpa using h1⟩
    show (let gKz : Prop := ?_; gKz)
    intro gKz
    obtain ⟨jN, jL, jS, _, ⟨os, hcs, hds⟩, ⟨ol, hcl, hdl⟩⟩ := hj
    k_unfold
    (try clear gKz)
    exact ⟨fun p hp hn => mk _ (upB _ (.tail _ (jN p hp hn)) (nocell_ne hn hop)) (hI _ (jN p hp hn)), mk _ (upB _ (.tail _ jL) (nocell_ne (nocell_list _ _) hop)) (hI _ jL), mk _ (upB _ (.tail _ jS) (nocell_ne (nocell_list _ _) hop)) (hI _ jS),
      ⟨o, _, mk _ hcN (show Lc + 1 + 1 + 1 + 1 ≠ I from hI _ hcp), hdN⟩, ⟨os, mk _ (upA _ (.tail _ hcs) (by show Nat.succ _ ≠ Nat.succ _; lia)) (hI _ hcs), hds⟩, ⟨ol, mk _ (upA _ (.tail _ hcl) (by show Nat.succ _ ≠ Nat.succ _; lia)) (hI _ hcl), hdl⟩⟩
theorem five_at {f : Nat → Int} {t0 t1 t2 t3 t4 : Tok} {i : Nat} (hi : i < 5) : ∃ t, ([.int (f 0) t0, .int (f 1) t1, .int (f 2) t2, .int (f 3) t3, .int (f 4) t4] : List Value)[(0 + (i : Int)).toNat]? = some (.int (f i) t) := by
  rw [show (0 + (i : Int)).toNat = i by lia]
  have : i = 0 ∨ i = 1 ∨ i = 2 ∨ i = 3 ∨ i = 4 := by lia
  rcases this with rfl | rfl | rfl | rfl | rfl
  · exact ⟨t0, rfl⟩
  · exact ⟨t1, rfl⟩
  · exact ⟨t2, rfl⟩
  · exact ⟨t3, rfl⟩
  · exact ⟨t4, rfl⟩
theorem ints_snoc {vs : List Value} {ns : List Int} {k : Int} {t : Tok} (h : IntsAre vs ns) : IntsAre (vs ++ [.int k t]) (ns ++ [k]) := h.append (.cons k t .nil)
noncomputable def prodV (pcs mcs : Nat → Col4) (fst more : Int) : Int :=
  prL (lL pcs ++ rL fst mcs) 10 * prL [rhoL (rL fst mcs) (spZ pcs mcs more 1), rhoL (rL fst mcs) (spZ pcs mcs more 2), rhoL (rL fst mcs) (spZ pcs mcs more 3), rhoL (rL fst mcs) (spZ pcs mcs more 4)] 4 * prL [(selL pcs mcs more 1 5).sum, (selL pcs mcs more 2 5).sum, (selL pcs mcs more 3 5).sum, (selL pcs mcs more 4 5).sum] 4
end Mine
end

section
open PySem PySem.W PyProof.Rows PySem.Calls
set_option Elab.async false
set_option maxRecDepth 100000
set_option maxHeartbeats 8000000
set_option linter.unusedVariables false
namespace Mine
variable {w : World} {p : Program} {loose : List Str} {mean : ExcName → Option Value} {mg mb : Str → Option Value}
theorem product_con (P M : Addr) (pcs mcs : Nat → Col4) (news : Led) (hP : ColsIn news P 5 pcs) (hM : ColsIn news M 4 mcs) (fst more : Int) (tf tm : Tok) (hf : 1 ≤ fst ∧ fst ≤ 64) (hm : 0 ≤ more ∧ more ≤ 1) :
    Con w p loose mean mg mb 144 [.ref P, .ref M, .int fst tf, .int more tm] news 8 96 (fun r n' => ∃ t, r = .int (prodV pcs mcs fst more) t ∧ ∀ p ∈ news, NoCell p.2 → p ∈ n') := by
  unfold Con
  k_fill
  intro dp un gd cn cs a ccd cl outer A₀ base h₀ L m s Q E B F X N T hk hd hu hret
  refine wpAny_call ?_
  k_dflt ((refine code_defC (by (k_asm)) (by (k_asm)) (by (k_asm)) (by (k_asm)) (by (k_asm)) (by (exact rfl)) (by (exact rfl)) (by (assumption)) (by (k_is)) (by (k_is)) (by (ktr_room)) (by (exact BindsTo.of_eq rfl)) (by (exact rfl)) (by (decide +kernel)) ?_ (by (exact rfl)) (by (exact rfl)) (by (exact rfl)); intro _ _ _ _ _ _ _ N'z Y'z B'z _ _ _; k_cells Y'z; (try simp only [List.cons_append, List.nil_append] at N'z); (try dsimp only); (try k_lift B'z); (try k_fold)))
  w_on
  w_top off
  (try (rename Fr _ _ _ _ => F0z; revert F0z; show (let mKz := ?_; (Fr _ _ _ mKz → _)); intro mKz F0z))
  (try (show (let aKz := ?_; wpAny _ aKz _ _ _ _); intro aKz))
  w_strict (repeat' (first
    | (k_unfold; (try dsimp only))
    | ((with_reducible show wpAny _ _ (exec _ _) _ _ _); k_fold; (try (rename Fr _ _ _ _ => F0z; revert F0z; show (let mKz := ?_; (Fr _ _ _ mKz → _)); intro mKz F0z))) 
    | ((with_reducible show wpAny _ _ (exec (Stmt.Assign (_ :: _) (Expr.ListComp ..) _) _) _ _ _); (with_reducible ((k_dflt refine wpAny_Assign_Name ?_))))
    | ((with_reducible (((with_reducible show wpAny _ _ (eval (Expr.ListComp (Expr.BinOp _ _ _ _) _ _ _) _) _ _ _); k_here; k_dflt (refine Eval_four (F₀ := by k_asm) (by with_unfolding_all rfl) (by decide) (by rfl) (by decide) (by rfl) (by rfl) (by rfl) (by rfl) (by decide) ?_)))))
    | ((with_reducible show Src4 ..); ((with_reducible refine unstop ?_)))
    | (k_end; wrow_close)
    | walk1
    | (leave1; (try dsimp only))
    | dsimp only))
  delta Stop
  rename News _ _ _ _ => N0
  show (let gKz : Prop := ?_; gKz)
  intro gKz
  obtain ⟨vsP, cP, hPm, hPl, hPk⟩ := id hP
  k_unfold
  (try clear gKz)
  refine ⟨P, vsP, cP, _, 5, JG (IsW (lW pcs)) _, rfl, rfl, by k_asm, N0, (by (repeat (first | with_reducible assumption | with_reducible exact List.mem_cons_self | with_reducible apply List.mem_cons_of_mem))), hPl, by decide, JG.nil _ _, ?_⟩
  rintro s₂ ⟨g, rfl⟩
  refine ⟨?_, ?_⟩
  · intro i ys nw v hi hj hPv
    show (let gKz : Prop := ?_; gKz)
    intro gKz
    obtain ⟨ai, ei, ⟨t1, t2, t3, t4, hm1⟩, _⟩ := hPk i hi
    k_unfold
    (try clear gKz)
    obtain rfl : v = .ref ai := Option.some.inj (hPv.symm.trans ei)
    have hlf : ∀ x ∈ news, x ∈ nw := fun x hx => hj.2.2 _ (by (repeat (first | with_reducible assumption | with_reducible exact List.mem_cons_self | with_reducible apply List.mem_cons_of_mem)))
    refine ⟨_, _, _, _, _, rfl, hlf _ hm1, ?_⟩
    intro I oI C oC D2 m2 h2 tk2 E2 hC hx1 hx2 hx3 hx4 F2 N2 off2 ne2
    have hsrc := hlf _ hPm
    clear N0
    w_strict (repeat' (first
      | (k_unfold; (try dsimp only))
      | ((with_reducible show wpAny _ _ (exec _ _) _ _ _); k_fold; (try (rename Fr _ _ _ _ => F0z; revert F0z; show (let mKz := ?_; (Fr _ _ _ mKz → _)); intro mKz F0z))) 
      | ((with_reducible (((with_reducible show wpAny _ _ (eval (Expr.Name _ _) (compEnvC _ _ _ _)) _ _ _); first | (k_dflt (refine lcf_free (by (k_asm)) (by (rfl)) (by ((repeat (first | with_reducible assumption | with_reducible exact List.mem_cons_self | with_reducible apply List.mem_cons_of_mem)))) (by (with_reducible assumption)) ?_ (by (rfl)) (by (rfl)))) | (k_dflt (refine lcf_cell (by (k_asm)) (by (rfl)) (by ((repeat (first | with_reducible assumption | with_reducible exact List.mem_cons_self | with_reducible apply List.mem_cons_of_mem)))) (by (with_reducible assumption)) ?_ (by (rfl)) (by (rfl)))) | (k_dflt refine LCgL.ld_own (by k_asm) (by k_mem) (by with_reducible assumption) (by with_reducible assumption) ?_) | (k_dflt (refine LCgL.ld_global (by (k_asm)) (by (k_asm)) (by (k_asm)) (by (k_is)) ?_)) | (k_dflt (refine LCgL.ld_built (by (k_asm)) (by (k_asm)) (by (k_asm)) (by (k_is)) (by (boot_by_name)) (by (decide)) ?_))))))
      | ((with_reducible show LCg.CompEnd ..); ((with_reducible refine unstop ?_)))
      | (k_end; wrow_close)
      | walk1
      | (leave1; (try dsimp only))
      | dsimp only))
    delta Stop
    k_dflt exact comp_val (by k_asm) (by k_asm) (fun p9 hp9 => hp9) off2 (.inr ⟨_, hsrc, rfl, _, rfl⟩) (hj.next ⟨_, rfl⟩ (fun _ _ h9 => h9) fun p hp => hp)
  · intro ys nw hj D2 h2 tk2 F2 N2 off2
    show (let gKz : Prop := ?_; gKz)
    intro gKz
    obtain ⟨tl0, tl1, tl2, tl3, tl4, hys⟩ := hj.w5
    k_unfold
    (try clear gKz)
    subst hys
    have hsb := lift_tail (x := (D2, LCg.lst [.int (lW pcs 0) tl0, .int (lW pcs 1) tl1, .int (lW pcs 2) tl2, .int (lW pcs 3) tl3, .int (lW pcs 4) tl4])) hj.2.2
    have hcl1 := hsb _ (.head _)
    have hcl2 := hsb _ (.tail _ (.head _))
    have hcl3 := hsb _ (.tail _ (.tail _ (.head _)))
    have hcl4 := hsb _ (.tail _ (.tail _ (.tail _ (.head _))))
    clear N0
    w_strict (repeat' (first
      | (k_unfold; (try dsimp only))
      | ((with_reducible show wpAny _ _ (exec _ _) _ _ _); k_fold; (try (rename Fr _ _ _ _ => F0z; revert F0z; show (let mKz := ?_; (Fr _ _ _ mKz → _)); intro mKz F0z))) 
      | ((with_reducible show wpAny _ _ (storeName _ _ (Value.ref _)) _ _ _); (with_reducible ((k_dflt (refine IsCell.store (by (k_asm)) (by (k_asm)) (by (rfl)) (by ((repeat (first | with_reducible assumption | with_reducible exact List.mem_cons_self | with_reducible apply List.mem_cons_of_mem)))) (by (with_reducible assumption)) ?_ (by (rfl)) (by (rfl))); intro _ _ nwN _ _ hcN hdN upA upB; try dsimp only))))
      | ((with_reducible show wpAny _ _ (newList ..) _ _ _); (with_reducible ((k_dflt refine newList_any (by k_asm) (by k_asm) (by exact Nat.le_of_ble_eq_true rfl) ?_; intro _ _ _ _ _; try dsimp only))))
      | ((with_reducible show wpAny _ _ (call (Value.ref _) _ _) _ _ _); ((with_reducible refine unstop ?_)))
      | (k_end; wrow_close)
      | walk1
      | (leave1; (try dsimp only))
      | dsimp only))
    delta Stop
    have hnc : ∀ p9 ∈ (D2, _) :: nw, NoCell p9.2 → p9 ∈ nwN := fun p9 hp9 hn9 => upB p9 hp9 (fun e9 => hn9 _ (by rw [e9]; with_reducible assumption))
    have hNN : ∀ p9 ∈ news, NoCell p9.2 → p9 ∈ nwN := fun p9 hp9 hn9 => hnc p9 (hsb _ (.tail _ (.tail _ (.tail _ (.tail _ hp9))))) hn9
    have hMa := hM.upS hNN
    have hPa := hP.upS hNN
    have hLa := hnc _ (.head _) (nocell_list _ _)
    have hce1 := upA _ hcl1 (by show Nat.succ _ ≠ Nat.succ _; lia)
    have hce2 := upA _ hcl2 (by show Nat.succ _ ≠ Nat.succ _; lia)
    have hce3 := upA _ hcl3 (by show Nat.succ _ ≠ Nat.succ _; lia)
    have hce4 := hcN
    have hde4 := hdN
    clear hcN hcl1 hcl2 hcl3 hcl4 upA upB hnc hsb hj hPm hPl hPk off2
    rename News _ _ _ _ => N1
    k_dflt refine Con.use (order_con M mcs _ (hMa.up fun p9 hp9 => .tail _ hp9)) (by k_asm) (by k_asm) (by k_asm) N1 (by k_asm) rfl (by ktr_room) (by ktr_units) ?_
    intro r9 n9 h9 tk9 F9 N9 hp9
    obtain ⟨a9, u0, u1, u2, u3, c9, rfl, hm9, hs9⟩ := hp9
    have hf9 := hs9 _ (.head _)
    have hNo : ∀ p9 ∈ news, NoCell p9.2 → p9 ∈ n9 := fun p9 hp9 hn9 => hs9 _ (.tail _ (hNN p9 hp9 hn9))
    have hMb := hMa.up fun p9 hp9 => hs9 p9 (.tail _ hp9)
    have hPb := hPa.up fun p9 hp9 => hs9 p9 (.tail _ hp9)
    have hLb := hs9 _ (.tail _ hLa)
    have hcf1 := hs9 _ (.tail _ hce1)
    have hcf2 := hs9 _ (.tail _ hce2)
    have hcf3 := hs9 _ (.tail _ hce3)
    have hcf4 := hs9 _ (.tail _ hce4)
    clear hMa hPa hLa hce1 hce2 hce3 hce4 hs9 hNN N1
    w_strict (repeat' (first
      | (k_unfold; (try dsimp only))
      | ((with_reducible show wpAny _ _ (exec _ _) _ _ _); k_fold; (try (rename Fr _ _ _ _ => F0z; revert F0z; show (let mKz := ?_; (Fr _ _ _ mKz → _)); intro mKz F0z))) 
      | ((with_reducible show wpAny _ _ (binaryOp Operator.Add (Value.ref _) (Value.ref _)) _ _ _); (with_reducible ((k_dflt (refine add_any (by (k_asm)) (by (k_asm)) (by ((repeat (first | with_reducible assumption | with_reducible exact List.mem_cons_self | with_reducible apply List.mem_cons_of_mem)))) (by ((repeat (first | with_reducible assumption | with_reducible exact List.mem_cons_self | with_reducible apply List.mem_cons_of_mem)))) (by (((try simp only [List.cons_append, List.nil_append]); exact rfl))) (by (((simp only [List.length_cons, List.length_nil]); lia))) ?_); intro _ _ _ _ _; try dsimp only))))
      | ((with_reducible show wpAny _ _ (exec (Stmt.For (Expr.Name ..) (Expr.Name ..) (_ :: _) [] _) _) _ _ _); (with_reducible (((rename Fr _ _ _ _ => lF'z); (with_unfolding_all refine For_invTF lF'z ?_ (by (intro _; rfl)))))))
      | ((with_reducible show wpAny _ _ (storeName _ _ (Value.ref _)) _ _ _); (with_reducible ((k_dflt (refine IsCell.store (by (k_asm)) (by (k_asm)) (by (rfl)) (by ((repeat (first | with_reducible assumption | with_reducible exact List.mem_cons_self | with_reducible apply List.mem_cons_of_mem)))) (by (with_reducible assumption)) ?_ (by (rfl)) (by (rfl))); intro _ _ nwN _ _ hcN hdN upA upB; try dsimp only))))
      | ((with_reducible show wpAny _ _ (newList ..) _ _ _); (with_reducible ((k_dflt refine newList_any (by k_asm) (by k_asm) (by exact Nat.le_of_ble_eq_true rfl) ?_; intro _ _ _ _ _; try dsimp only))))
      | ((with_reducible show wpAny _ _ (pyIter (Value.ref _)) _ _ _); ((with_reducible refine unstop ?_)))
      | (k_end; wrow_close)
      | walk1
      | (leave1; (try dsimp only))
      | dsimp only))
    delta Stop
    have hnc := fun p9 (hp9 : p9 ∈ _ :: _ :: n9) (hn9 : NoCell p9.2) => upB p9 hp9 (fun e9 => hn9 _ (by rw [e9]; with_reducible assumption))
    have hJ0 : PJ news _ _ _ _ pcs mcs more _ _ _ _ 0 nwN := ⟨fun p9 hp9 hn9 => hnc p9 (.tail _ (.tail _ (hNo p9 hp9 hn9))) hn9, hnc _ (.tail _ (.tail _ hLb)) (nocell_list _ _), hnc _ (.tail _ (.head _)) (nocell_list _ _), ⟨_, _, upA _ (.tail _ (.tail _ hcf1)) (by show Nat.succ _ ≠ Nat.succ _; lia), by with_reducible assumption⟩,
      ⟨_, _, upA _ (.tail _ (.tail _ hcf2)) (by show Nat.succ _ ≠ Nat.succ _; lia), by with_reducible assumption⟩, ⟨_, hcN, hdN⟩, ⟨_, upA _ (.tail _ (.tail _ hcf4)) (by show Nat.succ _ ≠ Nat.succ _; lia), hde4⟩, ⟨[], 0, hnc _ (.head _) (nocell_list _ _), rfl, fun k hk => absurd hk (Nat.not_lt_zero k)⟩⟩
    rename (∀ q ∈ _ :: n9, q.1 < _) => hlt
    have hCC : PCst news _ _ _ _ := ⟨fun p9 hp9 hn9 => Nat.ne_of_lt (hlt _ (.tail _ (hNo p9 hp9 hn9))), Nat.ne_of_lt (hlt _ (.tail _ hLb)), Nat.ne_of_lt (hlt _ (.head _)), Nat.ne_of_lt (hlt _ (.tail _ hcf1)), Nat.ne_of_lt (hlt _ (.tail _ hcf2)), Nat.ne_of_lt (hlt _ (.tail _ hcf3)), Nat.ne_of_lt (hlt _ (.tail _ hcf4))⟩
    clear hnc upA upB hLb hcf1 hcf2 hcf3 hcf4 hcN hNo hMb hPb hm9 hf9
    show (let gKz : Prop := ?_; gKz)
    intro gKz
    obtain ⟨vsP, cP, hPm, hPl, hPk⟩ := id hP
    obtain ⟨am, cM, hMm, hMa⟩ := hM.am
    k_unfold
    (try clear gKz)
    k_dflt refine list_TT vsP (fun _ m => Agree [Str.ofString "come"] m _) (PJ news _ _ _ _ pcs mcs more _ _ _ _) hPl rfl (by k_asm) (by k_asm) (fun p hp => hp) (fun i9 nw9 hj9 => hj9.hN _ hPm (nocell_list _ _)) (Agree.refl _) hJ0 ?_ ?_
    · intro I1 i1 v1 m1 s1 nw1 it1 hv1 hm1 hj1 hI1 hit1 F1 N1
      obtain ⟨vc1, rfl⟩ := hm1.form1
      have hi5 : i1 < 5 := by have := (List.getElem?_eq_some_iff.mp hv1).1; lia
      show (let gKz : Prop := ?_; gKz)
      intro gKz
      obtain ⟨ap, ep, ⟨t1, t2, t3, t4, hpm⟩, _⟩ := hPk i1 hi5
      k_unfold
      (try clear gKz)
      obtain rfl : v1 = .ref ap := Option.some.inj (hv1.symm.trans ep)
      show (let gKz : Prop := ?_; gKz)
      intro gKz
      obtain ⟨jN, jL, jR, ⟨oj, vj, hcj, hdj⟩, ⟨opt, vpt, hcp, hdp⟩, ⟨os, hcs, hds⟩, ⟨ol, hcl, hdl⟩, vsS, cS, hSm, hSl, hSk⟩ := id hj1
      k_unfold
      (try clear gKz)
      (try dsimp only at F1)
      clear hJ0
      w_strict (repeat' (first
        | (k_unfold; (try dsimp only))
        | ((with_reducible show wpAny _ _ (exec _ _) _ _ _); k_fold; (try (rename Fr _ _ _ _ => F0z; revert F0z; show (let mKz := ?_; (Fr _ _ _ mKz → _)); intro mKz F0z))) 
        | ((with_reducible (((with_reducible show wpAny _ _ (eval (Expr.ListComp (Expr.Name (Str.ofString "mark") _) _ _ _) _) _ _ _); k_here; k_dflt (refine LCt.ListComp_T (F₀ := by k_asm) (by with_unfolding_all rfl) (by decide) (by rfl) (by decide) (by rfl) ?_)))))
        | ((with_reducible show wpAny _ _ (storeName _ _ (Value.ref _)) _ _ _); (with_reducible ((k_dflt (refine IsCell.store (by (k_asm)) (by (k_asm)) (by (rfl)) (by ((repeat (first | with_reducible assumption | with_reducible exact List.mem_cons_self | with_reducible apply List.mem_cons_of_mem)))) (by (with_reducible assumption)) ?_ (by (rfl)) (by (rfl))); intro _ _ nwN _ _ hcN hdN upA upB; try dsimp only))))
        | ((with_reducible show LCt.CompSrcT ..); ((with_reducible refine unstop ?_)))
        | (k_end; wrow_close)
        | walk1
        | (leave1; (try dsimp only))
        | dsimp only))
      delta Stop
      have hnc := fun p9 (hp9 : p9 ∈ (I1, it1) :: nw1) (hn9 : NoCell p9.2) => upB p9 hp9 (fun e9 => hn9 _ (by rw [e9]; with_reducible assumption))
      have kI := upA _ (.head _) (Ne.symm (hI1 _ hcp))
      have kN := fun p9 (hp9 : p9 ∈ news) (hn9 : NoCell p9.2) => hnc p9 (.tail _ (jN p9 hp9 hn9)) hn9
      have kL := hnc _ (.tail _ jL) (nocell_list _ _)
      have kR := hnc _ (.tail _ jR) (nocell_list _ _)
      have kS := hnc _ (.tail _ hSm) (nocell_list _ _)
      have kj := upA _ (.tail _ hcj) (by show Nat.succ _ ≠ Nat.succ _; lia)
      have ks := upA _ (.tail _ hcs) (by show Nat.succ _ ≠ Nat.succ _; lia)
      have kl := upA _ (.tail _ hcl) (by show Nat.succ _ ≠ Nat.succ _; lia)
      have hpm1 := kN _ hpm (nocell_tup _)
      have hMm1 := kN _ hMm (nocell_list _ _)
      have kcN := hcN
      have kdN := hdN
      k_dflt refine srcT_n (n := 4) rfl (by decide) rfl (by k_asm) (by k_asm) hMm1 fun g => ?_
      refine comp_restT (fun k ys9 nw9 => nw9 = nwN ∧ ys9.length = comeN (fcol mcs) (fcol pcs i1).1 k) ?_ ?_ 4 0 [] _ rfl ⟨rfl, rfl⟩
      · intro i2 ys2 nw2 v2 I2 oI2 C2 oC2 D3 m2 h2 tk2 E2 hi2 hj2 hP2 hC2 hx2 F2' N2 off2 ne2
        obtain ⟨rfl, hyl⟩ := hj2
        obtain ⟨_, rfl⟩ := L4_get hP2
        show (let gKz : Prop := ?_; gKz)
        intro gKz
        obtain ⟨⟨u1, u2, u3, u4, hmm⟩, _⟩ := hMa i2 hi2
        k_unfold
        (try clear gKz)
        have hmm1 := kN _ hmm (nocell_tup _)
        w_strict (repeat' (first
          | (k_unfold; (try dsimp only))
          | ((with_reducible show wpAny _ _ (exec _ _) _ _ _); k_fold; (try (rename Fr _ _ _ _ => F0z; revert F0z; show (let mKz := ?_; (Fr _ _ _ mKz → _)); intro mKz F0z))) 
          | ((with_reducible (((with_reducible show wpAny _ _ (call (Value.ref 134) [Value.ref _] _) _ _ _); k_dflt (refine Con.useN (by (k_asm)) (by (k_asm)) (by (k_asm)) (by (k_asm)) (by (k_asm)) (place_con _ _ _ _ _ _ _ _ _ _ (by ((repeat (first | with_reducible assumption | with_reducible exact List.mem_cons_self | with_reducible apply List.mem_cons_of_mem))))) rfl (by (ktr_room)) (by (ktr_units)) ?_); intro _ _ _ _ _ _ hp9z; obtain ⟨_, e1z, e2z⟩ := hp9z; subst e1z; subst e2z; try dsimp only))))
          | ((with_reducible (((with_reducible show wpAny _ _ (eval (Expr.Name _ _) (compEnvC _ _ _ _)) _ _ _); first | (k_dflt (refine lcf_free (by (k_asm)) (by (rfl)) (by ((repeat (first | with_reducible assumption | with_reducible exact List.mem_cons_self | with_reducible apply List.mem_cons_of_mem)))) (by (with_reducible assumption)) ?_ (by (rfl)) (by (rfl)))) | (k_dflt (refine lcf_cell (by (k_asm)) (by (rfl)) (by ((repeat (first | with_reducible assumption | with_reducible exact List.mem_cons_self | with_reducible apply List.mem_cons_of_mem)))) (by (with_reducible assumption)) ?_ (by (rfl)) (by (rfl)))) | (k_dflt refine LCgL.ld_own (by k_asm) (by k_mem) (by with_reducible assumption) (by with_reducible assumption) ?_) | (k_dflt (refine LCgL.ld_global (by (k_asm)) (by (k_asm)) (by (k_asm)) (by (k_is)) ?_)) | (k_dflt (refine LCgL.ld_built (by (k_asm)) (by (k_asm)) (by (k_asm)) (by (k_is)) (by (boot_by_name)) (by (decide)) ?_))))))
          | ((with_reducible show LCg.CompEnd ..); ((with_reducible refine unstop ?_)))
          | (k_end; wrow_close)
          | walk1
          | (leave1; (try dsimp only))
          | dsimp only))
        all_goals delta Stop
        · rename _ ≤ _ => hle
          k_dflt exact comp_val (by k_asm) (by k_asm) (fun p9 hp9 => hp9) off2 (.inr ⟨_, hMm1, rfl, _, rfl⟩) ⟨rfl, by rw [List.length_append, hyl]; exact come_yes hle⟩
        · rename ¬ (_ ≤ _) => hle
          k_dflt exact comp_val (by k_asm) (by k_asm) (fun p9 hp9 => hp9) off2 (.inr ⟨_, hMm1, rfl, _, rfl⟩) ⟨rfl, hyl.trans (come_no hle)⟩
      · intro ys2 nw2 hj2 D3 h2 tk2 F2' N2 off2
        obtain ⟨rfl, hyl⟩ := hj2
        have hc4 := come_le (fcol mcs) (fcol pcs i1).1 4
        have hD3 : (D3, listO ys2 ys2.length) ∈ (D3, LCg.lst ys2) :: nw2 := .head _
        have hyl : ys2.length = comeN (fcol mcs) (fcol pcs i1).1 4 := hyl
        have hl9 : ys2.length < 1000 := by rw [hyl]; lia
        w_strict walk1
        k_dflt refine len_led (by k_asm) hD3 hl9 ?_
        intro t9 tk9
        rw [hyl]
        have hS3 := List.mem_cons_of_mem (D3, LCg.lst ys2) kS
        clear hyl hl9 hD3
        w_strict (repeat' (first
          | (k_unfold; (try dsimp only))
          | ((with_reducible show wpAny _ _ (exec _ _) _ _ _); k_fold; (try (rename Fr _ _ _ _ => F0z; revert F0z; show (let mKz := ?_; (Fr _ _ _ mKz → _)); intro mKz F0z))) 
          | ((with_reducible (((with_reducible show wpAny _ _ (getMethod (Value.ref _) (PySem.Str.ofString "append") _) _ _ _); k_dflt (refine listMethod_K (by (k_asm)) (by ((repeat (first | with_reducible assumption | with_reducible exact List.mem_cons_self | with_reducible apply List.mem_cons_of_mem)))) PySem.F.slot_list_append PySem.F.type_list_append ?_)))))
          | ((with_reducible (((with_reducible show wpAny _ _ (eval (Expr.Name _ _) (envOfC _ _ _ _ _)) _ _ _); k_dflt (refine nameX_C (by (k_asm)) (by (rfl)) (by ((repeat (first | with_reducible assumption | with_reducible exact List.mem_cons_self | with_reducible apply List.mem_cons_of_mem)))) (by (with_reducible assumption)) ?_ (by (rfl)) (by (rfl)))))))
          | ((with_reducible show wpAny _ _ (call (Value.builtin "list.append") _ _) _ _ _); ((with_reducible refine unstop ?_)))
          | (k_end; wrow_close)
          | walk1
          | (leave1; (try dsimp only))
          | dsimp only))
        all_goals delta Stop
        all_goals rename News _ _ _ _ => Na
        all_goals (k_dflt refine append_K (by k_asm) (News.front Na hS3) (upd_filter _) ?_ (by rw [List.size_toArray, hSl, sizeLine_eq]; lia))
        all_goals intro hz Fz Nz
        all_goals clear Na
        all_goals w_strict (repeat' (first
          | (k_unfold; (try dsimp only))
          | ((with_reducible show wpAny _ _ (exec _ _) _ _ _); k_fold; (try (rename Fr _ _ _ _ => F0z; revert F0z; show (let mKz := ?_; (Fr _ _ _ mKz → _)); intro mKz F0z))) 
          | (k_end; wrow_close)
          | walk1
          | (leave1; (try dsimp only))
          | dsimp only))
        k_dflt refine pj_turn hj1 hCC hI1 upA upB hcp hdp kcN kdN hSm hSl hSk rfl (by k_asm) Nz ?_
        intro y9 hy9
        simp only [List.mem_cons, List.not_mem_nil, or_false] at hy9
        repeat (first | (with_reducible exact rfl) | refine (if_neg hy9).trans ?_)
    · intro h3 tk3 m3 nw3 hm3 hj3 F3 N3
      obtain ⟨vc1, rfl⟩ := hm3.form1
      (try dsimp only at F3 ⊢)
      show (let gKz : Prop := ?_; gKz)
      intro gKz
      obtain ⟨jN, jL, jR, ⟨oj, vj, hcj, hdj⟩, ⟨opt, vpt, hcp, hdp⟩, ⟨os, hcs, hds⟩, ⟨ol, hcl, hdl⟩, vsS, cS, hSm, hSl, hSk⟩ := hj3
      k_unfold
      (try clear gKz)
      clear hJ0 hCC hlt
      show (let gKz : Prop := ?_; gKz)
      intro gKz
      obtain ⟨ts0, es0⟩ := hSk 0 (by decide)
      obtain ⟨ts1, es1⟩ := hSk 1 (by decide)
      obtain ⟨ts2, es2⟩ := hSk 2 (by decide)
      obtain ⟨ts3, es3⟩ := hSk 3 (by decide)
      obtain ⟨ts4, es4⟩ := hSk 4 (by decide)
      k_unfold
      (try clear gKz)
      obtain rfl := list5 hSl es0 es1 es2 es3 es4
      clear es0 es1 es2 es3 es4 hSk hSl
      w_strict (repeat' (first
        | (k_unfold; (try dsimp only))
        | ((with_reducible show wpAny _ _ (exec _ _) _ _ _); k_fold; (try (rename Fr _ _ _ _ => F0z; revert F0z; show (let mKz := ?_; (Fr _ _ _ mKz → _)); intro mKz F0z))) 
        | ((with_reducible show wpAny _ _ (exec (Stmt.For (Expr.Name ..) (Expr.BinOp ..) (_ :: _) [] _) _) _ _ _); (with_reducible (((rename Fr _ _ _ _ => lF'z); (with_unfolding_all refine For_invVF lF'z (by (exact rfl)) (by (exact rfl)) ?_)))))
        | ((with_reducible show wpAny _ _ (binaryOp Operator.Add (Value.ref _) (Value.ref _)) _ _ _); (with_reducible ((k_dflt (refine add_any (by (k_asm)) (by (k_asm)) (by ((repeat (first | with_reducible assumption | with_reducible exact List.mem_cons_self | with_reducible apply List.mem_cons_of_mem)))) (by ((repeat (first | with_reducible assumption | with_reducible exact List.mem_cons_self | with_reducible apply List.mem_cons_of_mem)))) (by (((try simp only [List.cons_append, List.nil_append]); exact rfl))) (by (((simp only [List.length_cons, List.length_nil]); lia))) ?_); intro _ _ _ _ _; try dsimp only))))
        | ((with_reducible (((with_reducible show wpAny _ _ (eval (Expr.Name _ _) (envOfC _ _ _ _ _)) _ _ _); k_dflt (refine nameX_C (by (k_asm)) (by (rfl)) (by ((repeat (first | with_reducible assumption | with_reducible exact List.mem_cons_self | with_reducible apply List.mem_cons_of_mem)))) (by (with_reducible assumption)) ?_ (by (rfl)) (by (rfl)))))))
        | ((with_reducible show wpAny _ _ (pyIter (Value.ref _)) _ _ _); ((with_reducible refine unstop ?_)))
        | (k_end; wrow_close)
        | walk1
        | (leave1; (try dsimp only))
        | dsimp only))
      delta Stop
      have hws := lr_bd hP hM hf
      have hia := lr_ints (pcs := pcs) (mcs := mcs) (fst := fst) (t0 := tl0) (t1 := tl1) (t2 := tl2) (t3 := tl3) (t4 := tl4) (tf := tf) (u0 := u0) (u1 := u1) (u2 := u2) (u3 := u3)
      rename News _ _ _ (_ :: nw3) => Nw
      k_dflt refine list_T (n := 10) _ (fun i m => Agree [Str.ofString "weight", Str.ofString "product"] m _ ∧ ∃ t, m (Str.ofString "product") = some (.int (prL (lL pcs ++ rL fst mcs) i) t)) (fun _ nw9 => ∀ p ∈ _ :: nw3, p ∈ nw9) rfl rfl (by k_asm) Nw (fun p hp => hp) (fun i9 nw9 hj9 => hj9 _ (.head _)) ⟨Agree.refl _, _, if_pos rfl⟩ (fun p hp => hp) ?_ ?_
      · intro I1 i1 v1' m1 h1 tk1 nw1 it1 hv1 hm1 hj1 hI1 hit1 F1 N1
        show (let gKz : Prop := ?_; gKz)
        intro gKz
        obtain ⟨ha1, tp1, hp1⟩ := hm1
        k_unfold
        (try clear gKz)
        obtain ⟨vw1, rfl⟩ := ha1.form2v hp1
        obtain ⟨k1, tk1', rfl, hk1⟩ := ten_at hia hv1
        have hb2 := hws k1 (List.mem_of_getElem? hk1)
        clear hws hia Nw ha1 hp1
        (try dsimp only at F1)
        w_strict (repeat' (first
          | (k_unfold; (try dsimp only))
          | ((with_reducible show wpAny _ _ (exec _ _) _ _ _); k_fold; (try (rename Fr _ _ _ _ => F0z; revert F0z; show (let mKz := ?_; (Fr _ _ _ mKz → _)); intro mKz F0z))) 
          | ((with_reducible show wpAny _ _ (binaryOp Operator.Mult (Value.int _ _) (Value.int _ _)) _ _ _); (with_reducible ((k_dflt refine mulR (by with_reducible assumption) (fun _ _ => ?_); try dsimp only))))
          | ((with_reducible show UnrEnd ..); ((with_reducible refine unstop ?_)))
          | (k_end; wrow_close)
          | walk1
          | (leave1; (try dsimp only))
          | dsimp only))
        delta Stop
        k_dflt refine UnrEnd.intro (by k_asm) (by k_asm) nw1 (fun p9 hp9 => hp9) hI1 ⟨⟨?_, ?_⟩, hj1, hI1⟩
        · intro y9 hy9
          simp only [List.mem_cons, List.not_mem_nil, or_false, not_or] at hy9
          simp +zetaDelta only [if_neg hy9.1, if_neg hy9.2]
        · rw [← prL_succ hk1]
          exact ⟨_, if_pos rfl⟩
      · intro h4 tk4 m4 nw4 hm4 hj4 F4 N4
        show (let gKz : Prop := ?_; gKz)
        intro gKz
        obtain ⟨ha4, tp4, hp4⟩ := hm4
        k_unfold
        (try clear gKz)
        obtain ⟨vw4, rfl⟩ := ha4.form2v hp4
        clear Nw ha4 hp4 hia hws
        (try dsimp only at F4 ⊢)
        have hri := r_ints (mcs := mcs) (fst := fst) (tf := tf) (u0 := u0) (u1 := u1) (u2 := u2) (u3 := u3)
        have kN := fun p9 (hp9 : p9 ∈ news) (hn9 : NoCell p9.2) => hj4 _ (.tail _ (jN p9 hp9 hn9))
        have kL := hj4 _ (.tail _ jL)
        have kR := hj4 _ (.tail _ jR)
        have kj := hj4 _ (.tail _ hcj)
        have ks := hj4 _ (.tail _ hcs)
        have kl := hj4 _ (.tail _ hcl)
        have kS := hj4 _ (.tail _ hSm)
        clear jN jL jR hcj hcs hcl hSm hcp hdp hj4
        w_strict (repeat' (first
          | (k_unfold; (try dsimp only))
          | ((with_reducible show wpAny _ _ (exec _ _) _ _ _); k_fold; (try (rename Fr _ _ _ _ => F0z; revert F0z; show (let mKz := ?_; (Fr _ _ _ mKz → _)); intro mKz F0z))) 
          | ((with_reducible (((with_reducible show wpAny _ _ (subscriptTail _ (PySem.Expr.Slice (some _) none none _) (Value.ref _) (Value.ref _)) _ _ _); k_dflt (refine slice_from1 (by (k_asm)) (by (k_asm)) (by ((repeat (first | with_reducible assumption | with_reducible exact List.mem_cons_self | with_reducible apply List.mem_cons_of_mem)))) ?_ (by (with_unfolding_all rfl)) (by (kmk_pure))); intro _ _ _ _ _; try dsimp only))))
          | ((with_reducible show wpAny _ _ (exec (Stmt.For (Expr.Name ..) (Expr.Subscript ..) (_ :: _) [] _) _) _ _ _); (with_reducible (((rename Fr _ _ _ _ => lF'z); (with_unfolding_all refine For_invVF lF'z (by (exact rfl)) (by (exact rfl)) ?_)))))
          | ((with_reducible (((with_reducible show wpAny _ _ (eval (Expr.Name _ _) (envOfC _ _ _ _ _)) _ _ _); k_dflt (refine nameX_C (by (k_asm)) (by (rfl)) (by ((repeat (first | with_reducible assumption | with_reducible exact List.mem_cons_self | with_reducible apply List.mem_cons_of_mem)))) (by (with_reducible assumption)) ?_ (by (rfl)) (by (rfl)))))))
          | ((with_reducible show wpAny _ _ (pyIter (Value.ref _)) _ _ _); ((with_reducible refine unstop ?_)))
          | (k_end; wrow_close)
          | walk1
          | (leave1; (try dsimp only))
          | dsimp only))
        delta Stop
        have hsp := fun k => spZ_bd pcs mcs hm.1 k
        have hrb := rho_bd hM hf
        rename News _ _ _ (_ :: nw4) => Nw
        have hia : IntsAre [.int (spZ pcs mcs more 1) ts1, .int (spZ pcs mcs more 2) ts2, .int (spZ pcs mcs more 3) ts3, .int (spZ pcs mcs more 4) ts4] [spZ pcs mcs more 1, spZ pcs mcs more 2, spZ pcs mcs more 3, spZ pcs mcs more 4] := .cons _ _ (.cons _ _ (.cons _ _ (.cons _ _ .nil)))
        k_dflt refine list_T (n := 4) _ (fun i m => Agree [Str.ofString "span", Str.ofString "product"] m _ ∧ ∃ t, m (Str.ofString "product") = some (.int (prL (lL pcs ++ rL fst mcs) 10 * prL [rhoL (rL fst mcs) (spZ pcs mcs more 1), rhoL (rL fst mcs) (spZ pcs mcs more 2), rhoL (rL fst mcs) (spZ pcs mcs more 3), rhoL (rL fst mcs) (spZ pcs mcs more 4)] i) t)) (fun _ nw9 => ∀ p ∈ _ :: nw4, p ∈ nw9) rfl rfl (by k_asm) Nw (fun p hp => hp) (fun i9 nw9 hj9 => hj9 _ (.head _)) ⟨Agree.refl _, ?_⟩ (fun p hp => hp) ?_ ?_
        · rw [show prL [rhoL (rL fst mcs) (spZ pcs mcs more 1), rhoL (rL fst mcs) (spZ pcs mcs more 2), rhoL (rL fst mcs) (spZ pcs mcs more 3), rhoL (rL fst mcs) (spZ pcs mcs more 4)] 0 = 1 from rfl, Int.mul_one]
          exact ⟨_, (if_neg (by decide)).trans (if_pos rfl)⟩
        · intro I1 i1 v1' m1 h1 tk1 nw1 it1 hv1 hm1 hj1 hI1 hit1 F1 N1
          show (let gKz : Prop := ?_; gKz)
          intro gKz
          obtain ⟨ha1, tp1, hp1⟩ := hm1
          k_unfold
          (try clear gKz)
          obtain ⟨vw1, rfl⟩ := ha1.form2v hp1
          obtain ⟨j1, tj1, hi4, hx1, hk1⟩ : ∃ j1 tj1, 1 ≤ j1 ∧ v1' = .int (spZ pcs mcs more j1) tj1 ∧ [rhoL (rL fst mcs) (spZ pcs mcs more 1), rhoL (rL fst mcs) (spZ pcs mcs more 2), rhoL (rL fst mcs) (spZ pcs mcs more 3), rhoL (rL fst mcs) (spZ pcs mcs more 4)][i1]? = some (rhoL (rL fst mcs) (spZ pcs mcs more j1)) := by
            have hi4 : i1 < 4 := (List.getElem?_eq_some_iff.mp hv1).1
            have : i1 = 0 ∨ i1 = 1 ∨ i1 = 2 ∨ i1 = 3 := by lia
            rcases this with rfl | rfl | rfl | rfl
            · exact ⟨1, ts1, by decide, (Option.some.inj hv1).symm, rfl⟩
            · exact ⟨2, ts2, by decide, (Option.some.inj hv1).symm, rfl⟩
            · exact ⟨3, ts3, by decide, (Option.some.inj hv1).symm, rfl⟩
            · exact ⟨4, ts4, by decide, (Option.some.inj hv1).symm, rfl⟩
          subst hx1
          have hx5 := hsp j1
          have hb2 : 0 ≤ (List.take (spZ pcs mcs more j1).toNat (rL fst mcs)).sum ∧ (List.take (spZ pcs mcs more j1).toNat (rL fst mcs)).sum ≤ 10000 := hrb (spZ pcs mcs more j1)
          have kR1 := hj1 _ (.tail _ kR)
          clear hia Nw ha1 hp1 hsp hrb
          (try dsimp only at F1)
          w_strict (repeat' (first
            | (k_unfold; (try dsimp only))
            | ((with_reducible show wpAny _ _ (exec _ _) _ _ _); k_fold; (try (rename Fr _ _ _ _ => F0z; revert F0z; show (let mKz := ?_; (Fr _ _ _ mKz → _)); intro mKz F0z))) 
            | ((with_reducible show wpAny _ _ (call (Value.builtin "sum") _ _) _ _ _); (with_reducible ((k_dflt (refine sum_led (by (exact rfl)) (by (k_asm)) (by (k_asm)) (by ((repeat (first | with_reducible assumption | with_reducible exact List.mem_cons_self | with_reducible apply List.mem_cons_of_mem)))) (by (first | with_reducible assumption | exact ints_take (by with_reducible assumption) _)) ?_); intro _ _ _ _ _; try dsimp only))))
            | ((with_reducible (((with_reducible show wpAny _ _ (subscriptTail _ (PySem.Expr.Slice none (some _) none _) (Value.ref _) (Value.ref _)) _ _ _); k_dflt (refine slice_to (by (k_asm)) (by (k_asm)) (by ((repeat (first | with_reducible assumption | with_reducible exact List.mem_cons_self | with_reducible apply List.mem_cons_of_mem)))) (by (with_reducible assumption)) ?_ (by (with_unfolding_all rfl)) (by (kmk_pure))); intro _ _ _ _ _; try dsimp only))))
            | ((with_reducible show wpAny _ _ (binaryOp Operator.Mult (Value.int _ _) (Value.int _ _)) _ _ _); (with_reducible ((k_dflt refine mulR (by with_reducible assumption) (fun _ _ => ?_); try dsimp only))))
            | ((with_reducible show UnrEnd ..); ((with_reducible refine unstop ?_)))
            | (k_end; wrow_close)
            | walk1
            | (leave1; (try dsimp only))
            | dsimp only))
          delta Stop
          k_dflt refine UnrEnd.intro (by k_asm) (by k_asm) nw1 (fun p9 hp9 => .tail _ hp9) hI1 ⟨⟨?_, ?_⟩, hj1, hI1⟩
          · intro y9 hy9
            simp only [List.mem_cons, List.not_mem_nil, or_false, not_or] at hy9
            simp +zetaDelta only [if_neg hy9.1, if_neg hy9.2]
          · rw [← prL_succ hk1, ← Int.mul_assoc]
            exact ⟨_, if_pos rfl⟩
        · intro h5 tk5 m5 nw5 hm5 hj5 F5 N5
          show (let gKz : Prop := ?_; gKz)
          intro gKz
          obtain ⟨ha5, tp5, hp5⟩ := hm5
          k_unfold
          (try clear gKz)
          obtain ⟨vw5, rfl⟩ := ha5.form2v hp5
          clear Nw ha5 hp5 hia hrb
          (try dsimp only at F5 ⊢)
          have hJ0 : QJ news _ _ _ _ _ _ _ nw5 := ⟨fun p9 hp9 hn9 => hj5 _ (.tail _ (kN p9 hp9 hn9)), hj5 _ (.tail _ kL), hj5 _ (.tail _ kS), ⟨_, _, hj5 _ (.tail _ kj), hdj⟩, ⟨_, hj5 _ (.tail _ ks), hds⟩, ⟨_, hj5 _ (.tail _ kl), hdl⟩⟩
          clear kN kL kR kS kj ks kl hj5 hri hsp
          w_strict (repeat' (first
            | (k_unfold; (try dsimp only))
            | ((with_reducible show wpAny _ _ (exec _ _) _ _ _); k_fold; (try (rename Fr _ _ _ _ => F0z; revert F0z; show (let mKz := ?_; (Fr _ _ _ mKz → _)); intro mKz F0z))) 
            | ((with_reducible show wpAny _ _ (exec (Stmt.For (Expr.Name ..) (Expr.Call ..) (_ :: _) [] _) _) _ _ _); (with_reducible (((rename Fr _ _ _ _ => lF'z); (with_unfolding_all refine For_invTF lF'z ?_ (by (intro _; rfl)))))))
            | ((with_reducible show wpAny _ _ (pyIter (Value.ref _)) _ _ _); ((with_reducible refine unstop ?_)))
            | (k_end; wrow_close)
            | walk1
            | (leave1; (try dsimp only))
            | dsimp only))
          delta Stop
          rename Fr _ _ _ _ => Fw
          k_dflt refine range_TT (n := 4) (fun i m => Agree [Str.ofString "product"] m _ ∧ ∃ t, m (Str.ofString "product") = some (.int (prL (lL pcs ++ rL fst mcs) 10 * prL [rhoL (rL fst mcs) (spZ pcs mcs more 1), rhoL (rL fst mcs) (spZ pcs mcs more 2), rhoL (rL fst mcs) (spZ pcs mcs more 3), rhoL (rL fst mcs) (spZ pcs mcs more 4)] 4 * prL [(selL pcs mcs more 1 5).sum, (selL pcs mcs more 2 5).sum, (selL pcs mcs more 3 5).sum, (selL pcs mcs more 4 5).sum] i) t)) (fun _ nw9 => QJ news _ _ _ _ _ _ _ nw9) rfl (by assumption) (by decide) (by decide) Fw (by k_asm) (fun p hp => hp) ⟨Agree.refl _, ?_⟩ hJ0 ?_ ?_ (fun s' v I Q' hq => letGo_name hq)
          · rw [show prL [(selL pcs mcs more 1 5).sum, (selL pcs mcs more 2 5).sum, (selL pcs mcs more 3 5).sum, (selL pcs mcs more 4 5).sum] 0 = 1 from rfl, Int.mul_one]
            exact ⟨_, (if_neg (by decide)).trans (if_pos rfl)⟩
          · intro I1 i1 ti1 m1 s1 nw1 it1 hi4 hm1 hj1 hI1 F1 N1
            show (let gKz : Prop := ?_; gKz)
            intro gKz
            obtain ⟨ha1, tp1, hp1⟩ := hm1
            k_unfold
            (try clear gKz)
            obtain rfl := ha1.form1v hp1
            show (let gKz : Prop := ?_; gKz)
            intro gKz
            obtain ⟨jN, jL, jS, ⟨oj, vj, hcj, hdj⟩, ⟨os, hcs, hds⟩, ⟨ol, hcl, hdl⟩⟩ := id hj1
            k_unfold
            (try clear gKz)
            clear hJ0 Fw ha1 hp1
            w_strict (repeat' (first
              | (k_unfold; (try dsimp only))
              | ((with_reducible show wpAny _ _ (exec _ _) _ _ _); k_fold; (try (rename Fr _ _ _ _ => F0z; revert F0z; show (let mKz := ?_; (Fr _ _ _ mKz → _)); intro mKz F0z))) 
              | ((with_reducible (((with_reducible show wpAny _ _ (eval (Expr.ListComp (Expr.Subscript _ _ _) _ _ _) _) _ _ _); k_here; k_dflt (refine LCt.ListComp_T (F₀ := by k_asm) (by with_unfolding_all rfl) (by decide) (by rfl) (by decide) (by rfl) ?_)))))
              | ((with_reducible show wpAny _ _ (storeName _ _ (Value.int _ _)) _ _ _); (with_reducible ((k_dflt (refine IsCell.store (by (k_asm)) (by (k_asm)) (by (rfl)) (by ((repeat (first | with_reducible assumption | with_reducible exact List.mem_cons_self | with_reducible apply List.mem_cons_of_mem)))) (by (with_reducible assumption)) ?_ (by (rfl)) (by (rfl))); intro _ _ nwN _ _ hcN hdN upA upB; try dsimp only))))
              | ((with_reducible show LCt.CompSrcT ..); ((with_reducible refine unstop ?_)))
              | (k_end; wrow_close)
              | walk1
              | (leave1; (try dsimp only))
              | dsimp only))
            delta Stop
            have kL := upB _ (.tail _ jL) (nocell_ne (nocell_list _ _) hdj)
            have kS := upB _ (.tail _ jS) (nocell_ne (nocell_list _ _) hdj)
            have ks := upA _ (.tail _ hcs) (by show Nat.succ _ ≠ Nat.succ _; lia)
            have kl := upA _ (.tail _ hcl) (by show Nat.succ _ ≠ Nat.succ _; lia)
            k_dflt refine LCt.CompSrcT.range (n := 5) rfl (by k_asm) (by k_asm) (by assumption) (by decide) (by decide) (by decide) fun g => ?_
            refine comp_restT (fun k ys9 nw9 => nw9 = nwN ∧ IntsAre ys9 (selL pcs mcs more (1 + (i1 : Int)) k)) ?_ ?_ 5 0 [] _ rfl ⟨rfl, .nil⟩
            · intro i2 ys2 nw2 v2 I2 oI2 C2 oC2 D3 m2 h2 tk2 E2 hi2 hj2 hP2 hC2 hx2 F2' N2 off2 ne2
              obtain ⟨rfl, hyl⟩ := hj2
              obtain ⟨t2, rfl⟩ := hP2
              show (let gKz : Prop := ?_; gKz)
              intro gKz
              obtain ⟨tsi, hsi⟩ := five_at (f := spZ pcs mcs more) (t0 := ts0) (t1 := ts1) (t2 := ts2) (t3 := ts3) (t4 := ts4) hi2
              obtain ⟨tli, hli⟩ := five_at (f := lW pcs) (t0 := tl0) (t1 := tl1) (t2 := tl2) (t3 := tl3) (t4 := tl4) hi2
              k_unfold
              (try clear gKz)
              w_strict (repeat' (first
                | (k_unfold; (try dsimp only))
                | ((with_reducible show wpAny _ _ (exec _ _) _ _ _); k_fold; (try (rename Fr _ _ _ _ => F0z; revert F0z; show (let mKz := ?_; (Fr _ _ _ mKz → _)); intro mKz F0z))) 
                | ((with_reducible show wpAny _ _ (subscriptTail (Expr.Name ..) (Expr.Name ..) (Value.ref _) (Value.int _ _)) _ _ _); (with_reducible ((k_dflt (refine item_any (by (k_asm)) (by ((repeat (first | with_reducible assumption | with_reducible exact List.mem_cons_self | with_reducible apply List.mem_cons_of_mem)))) (by (lia)) (by (lia)) (by (with_reducible assumption)) ?_)))))
                | ((with_reducible (((with_reducible show wpAny _ _ (eval (Expr.Name _ _) (compEnvC _ _ _ _)) _ _ _); first | (k_dflt (refine lcf_free (by (k_asm)) (by (rfl)) (by ((repeat (first | with_reducible assumption | with_reducible exact List.mem_cons_self | with_reducible apply List.mem_cons_of_mem)))) (by (with_reducible assumption)) ?_ (by (rfl)) (by (rfl)))) | (k_dflt (refine lcf_cell (by (k_asm)) (by (rfl)) (by ((repeat (first | with_reducible assumption | with_reducible exact List.mem_cons_self | with_reducible apply List.mem_cons_of_mem)))) (by (with_reducible assumption)) ?_ (by (rfl)) (by (rfl)))) | (k_dflt refine LCgL.ld_own (by k_asm) (by k_mem) (by with_reducible assumption) (by with_reducible assumption) ?_) | (k_dflt (refine LCgL.ld_global (by (k_asm)) (by (k_asm)) (by (k_asm)) (by (k_is)) ?_)) | (k_dflt (refine LCgL.ld_built (by (k_asm)) (by (k_asm)) (by (k_asm)) (by (k_is)) (by (boot_by_name)) (by (decide)) ?_))))))
                | ((with_reducible show LCg.CompEnd ..); ((with_reducible refine unstop ?_)))
                | (k_end; wrow_close)
                | walk1
                | (leave1; (try dsimp only))
                | dsimp only))
              all_goals delta Stop
              · rename _ > _ => hgt
                k_dflt exact comp_val (by k_asm) (by k_asm) (fun p9 hp9 => hp9) off2 trivial ⟨rfl, by rw [selL_yes hgt]; exact ints_snoc hyl⟩
              · rename ¬ (_ > _) => hgt
                k_dflt exact comp_val (by k_asm) (by k_asm) (fun p9 hp9 => hp9) off2 trivial ⟨rfl, by rw [selL_no hgt]; exact hyl⟩
            · intro ys2 nw2 hj2 D3 h2 tk2 F2' N2 off2
              obtain ⟨rfl, hyl⟩ := hj2
              have hyl : IntsAre ys2 (selL pcs mcs more (1 + (i1 : Int)) 5) := hyl
              have hD3 : (D3, listO ys2 ys2.length) ∈ (D3, LCg.lst ys2) :: nw2 := .head _
              have hb2 := selL_bd (mcs := mcs) (more := more) (j := 1 + (i1 : Int)) hP
              have hk1 : [(selL pcs mcs more 1 5).sum, (selL pcs mcs more 2 5).sum, (selL pcs mcs more 3 5).sum, (selL pcs mcs more 4 5).sum][i1]? = some (selL pcs mcs more (1 + (i1 : Int)) 5).sum := by
                have : i1 = 0 ∨ i1 = 1 ∨ i1 = 2 ∨ i1 = 3 := by lia
                rcases this with rfl | rfl | rfl | rfl <;> rfl
              clear kL kS ks kl
              w_strict (repeat' (first
                | (k_unfold; (try dsimp only))
                | ((with_reducible show wpAny _ _ (exec _ _) _ _ _); k_fold; (try (rename Fr _ _ _ _ => F0z; revert F0z; show (let mKz := ?_; (Fr _ _ _ mKz → _)); intro mKz F0z))) 
                | ((with_reducible show wpAny _ _ (call (Value.builtin "sum") _ _) _ _ _); (with_reducible ((k_dflt (refine sum_led (by (exact rfl)) (by (k_asm)) (by (k_asm)) (by ((repeat (first | with_reducible assumption | with_reducible exact List.mem_cons_self | with_reducible apply List.mem_cons_of_mem)))) (by (first | with_reducible assumption | exact ints_take (by with_reducible assumption) _)) ?_); intro _ _ _ _ _; try dsimp only))))
                | ((with_reducible show wpAny _ _ (binaryOp Operator.Mult (Value.int _ _) (Value.int _ _)) _ _ _); (with_reducible ((k_dflt refine mulR (by with_reducible assumption) (fun _ _ => ?_); try dsimp only))))
                | (k_end; wrow_close)
                | walk1
                | (leave1; (try dsimp only))
                | dsimp only))
              k_dflt refine qj_turn hj1 hI1 upA upB hcj hdj hcN hdN (by k_asm) (by k_asm) ⟨?_, ?_⟩
              · intro y9 hy9
                simp only [List.mem_cons, List.not_mem_nil, or_false] at hy9
                repeat (first | (with_reducible exact rfl) | refine (if_neg hy9).trans ?_)
              · rw [← prL_succ hk1, ← Int.mul_assoc]
                exact ⟨_, if_pos rfl⟩
          · intro h6 tk6 m6 nw6 hm6 hj6 F6 N6
            show (let gKz : Prop := ?_; gKz)
            intro gKz
            obtain ⟨ha6, tp6, hp6⟩ := hm6
            k_unfold
            (try clear gKz)
            obtain rfl := ha6.form1v hp6
            clear Fw ha6 hp6 hJ0
            try dsimp only at F6 ⊢
            w_strict (repeat' (first
              | (k_unfold; (try dsimp only))
              | ((with_reducible show wpAny _ _ (exec _ _) _ _ _); k_fold; (try (rename Fr _ _ _ _ => F0z; revert F0z; show (let mKz := ?_; (Fr _ _ _ mKz → _)); intro mKz F0z))) 
              | (k_end; wrow_close)
              | walk1
              | (leave1; (try dsimp only))
              | dsimp only))
            exact hret _ _ _ _ (by k_asm) (by k_asm) ⟨_, rfl, fun p9 hp9 hn9 => hj6.hN p9 hp9 hn9⟩
end Mine
end

section
open PySem PySem.W PyProof.Rows PySem.Calls
set_option Elab.async false
set_option maxRecDepth 100000
set_option maxHeartbeats 300000
set_option linter.unusedVariables false
namespace Mine
noncomputable def spI (pcs mcs : Nat → Col4) (more : Int) (i : Int) : Int := spZ pcs mcs more i.toNat
theorem cx_sel (pcs mcs : Nat → Col4) {more : Int} (hm : 0 ≤ more) (j : Int) : ∀ n : Nat, n ≤ 5 → Cx (Ls (five (lW pcs)) (spI pcs mcs more) n) j = (selL pcs mcs more j n).sum := fun n => by
  induction n with
  | zero =>
    intro _
    show Cx (fun _ => 0) j = 0
    unfold Cx
    split <;> split <;> split <;> split <;> split <;> rfl
  | succ n ih =>
    intro hn
    have e1 : spI pcs mcs more ((n : Nat) : Int) = spZ pcs mcs more n := by unfold spI; rw [Int.toNat_natCast]
    have e2 : five (lW pcs) ((n : Nat) : Int) = lW pcs n := by unfold five; rw [if_pos (by lia), Int.toNat_natCast]
    rw [cx_step _ _ _ _ (by rw [e1]; exact spZ_bd pcs mcs hm n), ih (by lia), e1, e2]
    by_cases q : spZ pcs mcs more n > j
    · rw [if_pos q, selL_yes q, List.sum_append, List.sum_cons, List.sum_nil, Int.add_zero]
    · rw [if_neg q, selL_no q, Int.add_zero]
section
variable (g : Nat → Int)
theorem five0 : five g 0 = g 0 := by unfold five; rw [if_pos (by decide)]; rfl
theorem five1 : five g 1 = g 1 := by unfold five; rw [if_pos (by decide)]; rfl
theorem five2 : five g 2 = g 2 := by unfold five; rw [if_pos (by decide)]; rfl
theorem five3 : five g 3 = g 3 := by unfold five; rw [if_pos (by decide)]; rfl
theorem five4 : five g 4 = g 4 := by unfold five; rw [if_pos (by decide)]; rfl
end
theorem rho_five {a b c d e x : Int} {r : Int → Int} (h0 : r 0 = a) (h1 : r 1 = b) (h2 : r 2 = c) (h3 : r 3 = d) (h4 : r 4 = e) (h : 1 ≤ x ∧ x ≤ 5) : rho r x = rhoL [a, b, c, d, e] x := by
  unfold rho rhoL
  rw [h0, h1, h2, h3, h4]
  have : x = 1 ∨ x = 2 ∨ x = 3 ∨ x = 4 ∨ x = 5 := by lia
  rcases this with rfl | rfl | rfl | rfl | rfl
  · show a = a + 0; lia
  · show a + b = a + (b + 0); lia
  · show a + b + c = a + (b + (c + 0)); lia
  · show a + b + c + d = a + (b + (c + (d + 0))); lia
  · show a + b + c + d + e = a + (b + (c + (d + (e + 0)))); lia
theorem prL4 (a b c d : Int) : prL [a, b, c, d] 4 = a * b * c * d := by
  show 1 * a * b * c * d = _; rw [Int.one_mul]
theorem prL10 (a b c d e a' b' c' d' e' : Int) : prL ([a, b, c, d, e] ++ [a', b', c', d', e']) 10 = (a' * b' * c' * d' * e') * (a * b * c * d * e) := by
  show 1 * a * b * c * d * e * a' * b' * c' * d' * e' = _
  rw [Int.one_mul, Int.mul_comm (a' * b' * c' * d' * e')]
  simp only [Int.mul_assoc]
theorem rW_succ (fst : Int) (mcs : Nat → Col4) (k : Nat) : rW fst mcs (k + 1) = wC (kcol mcs k) := rfl
theorem trees_gen {a b c d e a' b' c' d' e' x1 x2 x3 x4 s1 s2 s3 s4 : Int} {l r : Int → Int} (h0 : r 0 = a') (h1 : r 1 = b') (h2 : r 2 = c') (h3 : r 3 = d') (h4 : r 4 = e') (g0 : l 0 = a) (g1 : l 1 = b) (g2 : l 2 = c) (g3 : l 3 = d) (g4 : l 4 = e)
    (q1 : 1 ≤ x1 ∧ x1 ≤ 5) (q2 : 1 ≤ x2 ∧ x2 ≤ 5) (q3 : 1 ≤ x3 ∧ x3 ≤ 5) (q4 : 1 ≤ x4 ∧ x4 ≤ 5) :
    (r 0 * r 1 * r 2 * r 3 * r 4) * (l 0 * l 1 * l 2 * l 3 * l 4) * (rho r x1 * rho r x2 * rho r x3 * rho r x4) * (s1 * s2 * s3 * s4) =
      prL ([a, b, c, d, e] ++ [a', b', c', d', e']) 10 * prL [rhoL [a', b', c', d', e'] x1, rhoL [a', b', c', d', e'] x2, rhoL [a', b', c', d', e'] x3, rhoL [a', b', c', d', e'] x4] 4 * prL [s1, s2, s3, s4] 4 := by
  rw [rho_five h0 h1 h2 h3 h4 q1, rho_five h0 h1 h2 h3 h4 q2, rho_five h0 h1 h2 h3 h4 q3, rho_five h0 h1 h2 h3 h4 q4, prL4, prL4, prL10, h0, h1, h2, h3, h4, g0, g1, g2, g3, g4]
theorem trees_prod (pcs mcs : Nat → Col4) (fst : Int) {more : Int} (hm : 0 ≤ more) :
    (five (rW fst mcs) 0 * five (rW fst mcs) 1 * five (rW fst mcs) 2 * five (rW fst mcs) 3 * five (rW fst mcs) 4) * (five (lW pcs) 0 * five (lW pcs) 1 * five (lW pcs) 2 * five (lW pcs) 3 * five (lW pcs) 4) * (rho (five (rW fst mcs)) (spI pcs mcs more 1) * rho (five (rW fst mcs)) (spI pcs mcs more 2) * rho (five (rW fst mcs)) (spI pcs mcs more 3) * rho (five (rW fst mcs)) (spI pcs mcs more 4)) *
      (Cx (Ls (five (lW pcs)) (spI pcs mcs more) 5) 1 * Cx (Ls (five (lW pcs)) (spI pcs mcs more) 5) 2 * Cx (Ls (five (lW pcs)) (spI pcs mcs more) 5) 3 * Cx (Ls (five (lW pcs)) (spI pcs mcs more) 5) 4) = prodV pcs mcs fst more := by
  rw [cx_sel pcs mcs hm 1 5 (by decide), cx_sel pcs mcs hm 2 5 (by decide), cx_sel pcs mcs hm 3 5 (by decide), cx_sel pcs mcs hm 4 5 (by decide)]
  have x1 : spI pcs mcs more 1 = spZ pcs mcs more 1 := rfl
  have x2 : spI pcs mcs more 2 = spZ pcs mcs more 2 := rfl
  have x3 : spI pcs mcs more 3 = spZ pcs mcs more 3 := rfl
  have x4 : spI pcs mcs more 4 = spZ pcs mcs more 4 := rfl
  rw [x1, x2, x3, x4]
  unfold prodV lL rL
  exact trees_gen (five0 _) ((five1 _).trans (rW_succ fst mcs 0)) ((five2 _).trans (rW_succ fst mcs 1)) ((five3 _).trans (rW_succ fst mcs 2)) ((five4 _).trans (rW_succ fst mcs 3)) (five0 _) (five1 _) (five2 _) (five3 _) (five4 _) (spZ_bd _ _ hm 1) (spZ_bd _ _ hm 2) (spZ_bd _ _ hm 3) (spZ_bd _ _ hm 4)
theorem come_all {f : Nat → Col} {p : Int} : ∀ n, (∀ k, k < n → (f k).1 ≤ p) → comeN f p n = n
  | 0, _ => rfl
  | n + 1, h => by rw [← come_yes (h n (by lia)), come_all n fun k hk => h k (by lia)]
theorem place_le {c : Col4} (h : ColOk c) : placeI c.1 c.2.1 ≤ 63 := by
  obtain ⟨⟨h1, h2⟩, _⟩ := h
  unfold placeI; split <;> lia
theorem sp_zero {pcs mcs : Nat → Col4} {more : Int} (hm : 0 ≤ more) (h0 : (pcs 0).1 = 63) (h1 : (pcs 0).2.1 = 4) (hM : ∀ k : Nat, k < 4 → ColOk (mcs k)) : spI pcs mcs more 0 = 5 := by
  have e : (fcol pcs 0).1 = 63 := by show placeI (pcs 0).1 (pcs 0).2.1 = 63; rw [h0, h1]; rfl
  have c : comeN (fcol mcs) (fcol pcs 0).1 4 = 4 := come_all 4 fun k hk => by rw [e]; exact place_le (hM k hk)
  show spZ pcs mcs more 0 = 5
  unfold spZ
  rw [c, if_neg (by lia)]
theorem reach_key {c n j : Nat} {o z : Int} (e : c = n) (ho : 0 ≤ o) (hz : z = if 1 + (c : Int) + o < 5 then 1 + (c : Int) + o else 5) (hj : j < 5) : j + 2 ≤ 1 + n + 1 + o.toNat ↔ (j : Int) < z := by
  subst e
  subst hz
  obtain ⟨k, rfl⟩ := Int.eq_ofNat_of_zero_le ho
  rw [Int.toNat_natCast]
  by_cases h : 1 + (c : Int) + (k : Int) < 5
  · rw [if_pos h]; lia
  · rw [if_neg h]; lia
theorem reach {pcs mcs : Nat → Col4} {total : Int} {n0 n1 n2 n3 n4 : Nat} (e0 : countLe (List.map Prod.fst (insAll (fcol mcs) 4)) (fcol pcs 0).1 = n0) (e1 : countLe (List.map Prod.fst (insAll (fcol mcs) 4)) (fcol pcs 1).1 = n1) (e2 : countLe (List.map Prod.fst (insAll (fcol mcs) 4)) (fcol pcs 2).1 = n2) (e3 : countLe (List.map Prod.fst (insAll (fcol mcs) 4)) (fcol pcs 3).1 = n3) (e4 : countLe (List.map Prod.fst (insAll (fcol mcs) 4)) (fcol pcs 4).1 = n4) :
    ∀ i j : Int, 0 ≤ i → i < 5 → 0 ≤ j → j < 5 → isIn (mmS j.toNat i.toNat) ⟨(textL 33 [(1 + n0 + 1 + (total % 2).toNat, 0), (1 + n1 + 1 + (total % 2).toNat, 1), (1 + n2 + 1 + (total % 2).toNat, 2), (1 + n3 + 1 + (total % 2).toNat, 3), (1 + n4 + 1 + (total % 2).toNat, 4)]).toArray⟩ = decide (j < spI pcs mcs (total.fmod 2) i) := fun i j i0 i1 j0 j1 => by
  rw [joins_law _ _ _ _ _ _ _ (by lia)]
  rw [come_is] at e0 e1 e2 e3 e4
  have hf : total.fmod 2 = total % 2 := Int.fmod_eq_emod_of_nonneg _ (by decide)
  have ho : 0 ≤ total % 2 ∧ total % 2 ≤ 1 := by lia
  rw [hf]
  generalize total % 2 = o at *
  have key : ∀ (k n : Nat), comeN (fcol mcs) (fcol pcs k).1 4 = n → (j.toNat + 2 ≤ 1 + n + 1 + o.toNat ↔ j < spZ pcs mcs o k) := fun k n e => by
    have := reach_key (j := j.toNat) (z := spZ pcs mcs o k) e ho.1 rfl (by clear e0 e1 e2 e3 e4 hf; lia)
    rw [Int.toNat_of_nonneg j0] at this
    exact this
  rw [decide_eq_decide]
  have : i = 0 ∨ i = 1 ∨ i = 2 ∨ i = 3 ∨ i = 4 := by lia
  rcases this with rfl | rfl | rfl | rfl | rfl
  · exact key 0 n0 e0
  · exact key 1 n1 e1
  · exact key 2 n2 e2
  · exact key 3 n3 e3
  · exact key 4 n4 e4
theorem ne_int_same {prog : Program} {w : World} {A : Around} {E : Value → Shared → Prop} {s : Shared} {a b : Int} {t u : Tok} {Q : Value → Shared → Prop} (e : a = b) (h : Q (.bool false) s) : wpAny (model prog w) A (compareOp .NotEq (.int a t) (.int b u)) Q E s := by
  subst e
  exact ne_int (by simpa using h)
theorem eq_led {prog : Program} {w : World} {A : Around} {E : Value → Shared → Prop} {s : Shared} {h₀ : Heap} {L : Addr} {news : Led} {l l' : Addr} {vs us : List Value} {c c' : Nat} {ns : List Int} {Q : Value → Shared → Prop} (N : News h₀ L s.heap news) (hl : (l, listO vs c) ∈ news) (hi : IntsAre vs ns) (hl' : (l', listO us c') ∈ news) (hi' : IntsAre us ns) (hu : A.units + 64 < cLine)
    (h : Q (.bool true) s) : wpAny (model prog w) A (compareOp .Eq (.ref l) (.ref l')) Q E s :=
  eq_intsK ⟨_, (N _ hl).1, rfl, _, rfl⟩ hi ⟨_, (N _ hl').1, rfl, _, rfl⟩ hi' hu (by rw [decide_eq_true rfl]; exact h)
end Mine
end

section
namespace Mine
structure Cut (P : Prop) : Prop where
  get : P
end Mine
namespace Mine
theorem openP {P : Prop} {α : Prop → Prop} {F : α P} (h : P) : (PSigma.mk (β := α) P F).1 := h
end Mine
end

section
open PySem PySem.W PyProof.Rows PySem.Calls
set_option Elab.async false
set_option maxRecDepth 100000
set_option maxHeartbeats 8000000
namespace Mine
noncomputable def cut1 : Σ' P : Prop, (Cut P → PySem.Challenge.rw_sc0043_01.Holds) := by
  refine' ⟨_, fun hcut => hd ?m⟩
  case m =>
    w_on
    w_top off
    w_strict (
      k_fill;
      intro wz9 s₀z9 s₁z9 mgz9 mbz9 Gz9 Yz9 faz9 oz9 pmz9 cdz9 docz9 dVz9 kVz9 hoz9 hdz9 hcdz9 hDz9 hmgz9 hgz9 argsz9 valsz9 asz9 hprez9 hlayz9 hrdz9 hwlz9 hloz9;
      have KXz9 := kIn_of Yz9;
      have Xz9 := (Ground.X Gz9).1;
      have Vz9 := (Ground.X Gz9).2;
      have GLz9 := glob_more (Ground.glob Gz9 (by decide +kernel) (by decide +kernel)) Vz9;
      refine Ground.open Gz9 ?_;
      intro Tz9 Bz9 Dz9 TEz9 TWz9;
      (try (refine guard_noD Dz9 (by decide +kernel) ?_; clear Dz9));
      obtain ⟨_, _, Mz9⟩ := bmod_of_top Tz9;
      have TAz9 := at_of_top Tz9;
      (try (obtain ⟨_, _, hez9, B0z9⟩ := based_of_top Tz9 rfl hmgz9 hoz9 hdz9; have he'z9 : cdz9 = _ := hez9; subst he'z9; clear hez9));
      clear hmgz9;
      wrow_args hprez9 hlayz9 hrdz9 hwlz9 hloz9;
      all_goals (
        (first | refine callC_kw (enter_call ?_) | refine enter_call ?_ | refine callC_kw (enter_callW ?_) | refine enter_callW ?_ | w_how);
        w_top off;
        (try refine codeAny_mono ?_ (fun _ _ g => GoodW.toG g));
        have K0z9 := below_caller (Top.heap Tz9);
        w_call any hoz9 hdz9 hcdz9 hDz9 Tz9 Fz9;
        clear hdz9 TAz9;
        k_drop);
      (all_goals try k_fold))
    (try (rename Fr _ _ _ _ => F0z; revert F0z; show (let mKz := ?_; (Fr _ _ _ mKz → _)); intro mKz F0z))
    (try (show (let aKz := ?_; wpAny _ aKz _ _ _ _); intro aKz))
    w_strict (repeat' (first
      | (k_unfold; (try dsimp only); (try clear qk); (try clear ek))
      | ((with_reducible show wpAny _ _ (exec _ _) _ _ _); k_fold)
      | ((with_reducible (((((with_reducible show wpAny _ _ (exec (Stmt.Assign [Expr.Name (Str.ofString "colours") _] _ _) _) _ _ _); (with_reducible refine unstop ?_)))))))
      | (k_end; wrow_close)
      | walk1
      | (leave1; (try dsimp only))
      | dsimp only))
    have sg1 := trivial
    delta Stop
    w_strict (repeat' (first
      | (k_unfold; (try dsimp only); (try clear qk); (try clear ek))
      | ((with_reducible show wpAny _ _ (exec _ _) _ _ _); k_fold)
      | ((with_reducible ((((k_here; (with_reducible show wpAny _ _ (subscriptTail _ (PySem.Expr.Slice (some _) none none _) (Value.ref _) (Value.ref _)) _ _ _); k_dflt (refine kmk_slice_ints (ns := [21962, 2728, 41394, 21396, 2068, 3589, 1249, 1812]) (by (k_asm)) (by (k_asm)) (by (exact News.isList (by k_asm) (by k_mem))) (by (exact IsPart.int _ _)) (by (exact IsPart.none)) (by ((repeat constructor))) (by (exact kmk_from (by repeat constructor) (by lia))) (by (exact rfl)) ?_ (by (with_unfolding_all rfl)) (by (kmk_pure)) (by (exact Nat.le_of_ble_eq_true rfl))); intro _ _ _ _ _ l1z _ _ _; (try k_lt l1z)))))))
      | ((with_reducible (((((with_reducible show LCg.CompSrc _ _ _ _ _ _ _ (Expr.Call _ _ _ _) (Str.ofString "x") _ _ _ _ _); with_reducible refine unstop ?_))))))
      | ((with_reducible ((((k_here; (with_reducible show wpAny _ _ (exec (Stmt.Assign [Expr.Name (Str.ofString "colours") _] _ _) _) _ _ _); k_dflt (refine LCg.Assign_ListComp_U (F₀ := by k_asm) (by rfl) (by with_unfolding_all rfl) (by with_unfolding_all rfl) (by decide) (by rfl) (by decide) (by rfl) (by rfl) (by rfl) ?_)))))))
      | (k_end; wrow_close)
      | walk1
      | (leave1; (try dsimp only))
      | dsimp only))
    delta Stop
    rename IntsAre _ (_ ++ _) => hI9
    rename News _ _ _ _ => nw0
    have hlen := hI9.length
    simp only [List.length_append, List.length_take, List.length_drop, List.length_map, List.length_cons, List.length_nil] at hlen
    have hlen8 := hlen.trans (show _ = 8 by lia)
    have hall := allI hI9
    k_dflt refine src_n (n := 8) hlen8 (by decide) rfl (by k_asm) (by k_asm) (by k_mem) fun g => ?_
    refine comp_rest (JG IsCol _) ?_ ?_ 8 0 [] _ rfl (JG.nil _ _)
    · intro i ys nw v I oI C oC D m₂ h tk E' hi9 hj9 hP hC hx F9 N9 off9 ne9
      obtain ⟨x9, t9, rfl⟩ := hall v (List.mem_of_getElem? hP)
      clear nw0
      w_strict (repeat' (first
        | (k_unfold; (try dsimp only); (try clear qk); (try clear ek))
        | ((with_reducible show wpAny _ _ (exec _ _) _ _ _); k_fold)
        | ((with_reducible show LCg.CompEnd ..); (with_reducible ((((with_reducible refine unstop ?_))))))
        | ((with_reducible show wpAny _ _ (call (Value.ref _) _ _) _ _ _); (with_reducible ((((k_dflt refine Con.use (colour_con _ _ _) (by k_asm) (by k_asm) (by k_asm) (by k_asm) (by k_asm) rfl (by ktr_room) (by ktr_units) ?_; intro _ _ _ _ _ _ hp9z; obtain ⟨_, _, _, _, _, e1z, e2z, _⟩ := hp9z; subst e1z; subst e2z; try dsimp only))))))
        | ((with_reducible (((((with_reducible show wpAny _ _ (eval (Expr.Name _ _) (compEnvC _ _ _ _)) _ _ _); first | (k_dflt refine LCgL.ld_own (by k_asm) (by k_mem) (by with_reducible assumption) (by with_reducible assumption) ?_) | (k_dflt (refine LCgL.ld_global (by (k_asm)) (by (k_asm)) (by (k_asm)) (by (k_is)) ?_)) | (k_dflt (refine LCgL.ld_built (by (k_asm)) (by (k_asm)) (by (k_asm)) (by (k_is)) (by (boot_by_name)) (by (decide)) ?_))))))))
        | (k_end; wrow_close)
        | walk1
        | (leave1; (try dsimp only))
        | dsimp only))
      delta Stop
      k_dflt exact comp_new (by k_asm) (by k_asm) (by with_reducible assumption) off9 (.inr ⟨_, .tail _ (hj9.2.2 _ (by k_mem)), rfl, _, rfl⟩) (hj9.next ⟨_, _, rfl, ⟨_, _, _, _, .head _⟩, colOk_of x9⟩ (IsCol.up fun p hp => .tail _ hp) fun p hp => .tail _ hp)
    · intro ys nw hj9 D h tk F9 N9 off9
      clear nw0
      have hcl4 := hj9.2.2 _ (.tail _ (.tail _ (.tail _ (.tail _ (.tail _ (.tail _ (.tail _ (.head _))))))))
      have hcl3 := hj9.2.2 _ (.tail _ (.tail _ (.tail _ (.tail _ (.tail _ (.tail _ (.tail _ (.tail _ (.head _)))))))))
      have hcl2 := hj9.2.2 _ (.tail _ (.tail _ (.tail _ (.tail _ (.tail _ (.tail _ (.tail _ (.tail _ (.tail _ (.head _))))))))))
      have hcl1 := hj9.2.2 _ (.tail _ (.tail _ (.tail _ (.tail _ (.tail _ (.tail _ (.tail _ (.tail _ (.tail _ (.tail _ (.head _)))))))))))
      have sg2 := trivial
      show (let gKz : Prop := ?_; gKz)
      intro gKz
      obtain ⟨a0, c0, e0, q0, k0⟩ := hj9.col 0 (by decide)
      obtain ⟨a1, c1, e1, q1, k1⟩ := hj9.col 1 (by decide)
      obtain ⟨a2, c2, e2, q2, k2⟩ := hj9.col 2 (by decide)
      obtain ⟨a3, c3, e3, q3, k3⟩ := hj9.col 3 (by decide)
      obtain ⟨a4, c4, e4, q4, k4⟩ := hj9.col 4 (by decide)
      obtain ⟨a5, c5, e5, q5, k5⟩ := hj9.col 5 (by decide)
      obtain ⟨a6, c6, e6, q6, k6⟩ := hj9.col 6 (by decide)
      obtain ⟨a7, c7, e7, q7, k7⟩ := hj9.col 7 (by decide)
      k_unfold
      (try clear gKz)
      have hys := list8 hj9.1 e0 e1 e2 e3 e4 e5 e6 e7
      subst hys
      clear hj9 e0 e1 e2 e3 e4 e5 e6 e7 off9
      dsimp only
      w_strict (repeat' (first
        | (k_unfold; (try dsimp only); (try clear qk); (try clear ek))
        | ((with_reducible show wpAny _ _ (exec _ _) _ _ _); k_fold)
        | ((with_reducible (((((with_reducible show wpAny _ _ (exec (Stmt.Assign [Expr.Name (Str.ofString "kept") _] _ _) _) _ _ _); with_reducible refine unstop ?_))))))
        | ((with_reducible (((((with_reducible show wpAny _ _ (subscriptTail _ (PySem.Expr.Slice (some _) none (some _) _) (Value.ref _) (Value.ref _)) _ _ _); k_dflt (refine slice2_any (by (k_asm)) (by (k_asm)) (by (k_mem)) (by (decide)) (by (first | exact pick_even .. | exact pick_odd ..)) (by (exact Nat.le_of_ble_eq_true rfl)) ?_ (by (with_unfolding_all rfl)) (by (kmk_pure))); intro _ _ _ _ _; try dsimp only))))))
        | ((with_reducible show wpAny _ _ (binaryOp Operator.Add (Value.ref _) (Value.ref _)) _ _ _); (with_reducible ((((k_dflt (refine add_any (by (k_asm)) (by (k_asm)) (by (k_mem)) (by (k_mem)) (by (((try simp only [List.cons_append, List.nil_append]); exact rfl))) (by (((simp only [List.length_cons, List.length_nil]); lia))) ?_); intro _ _ _ _ _; try dsimp only))))))
        | ((with_reducible show wpAny _ _ (newTuple ..) _ _ _); (with_reducible ((((k_dflt refine newTuple_any (by k_asm) (by k_asm) (by exact Nat.le_of_ble_eq_true rfl) ?_; intro _ _ _ _ _; try dsimp only))))))
        | ((with_reducible show wpAny _ _ (newList ..) _ _ _); (with_reducible ((((k_dflt refine newList_any (by k_asm) (by k_asm) (by exact Nat.le_of_ble_eq_true rfl) ?_; intro _ _ _ _ _; try dsimp only))))))
        | (k_end; wrow_close)
        | walk1
        | (leave1; (try dsimp only))
        | dsimp only))
      delta Stop
      rename News _ _ _ _ => nB
      show (let gKz : Prop := ?_; gKz)
      intro gKz
      obtain ⟨nw2, pcs, mcs, N2, hP, hM, hp0, up2⟩ := cols_fold nB q0 q1 q2 q3 q4 q5 q6 q7 k0 k1 k2 k3 k4 k5 k6 k7 (f64 _)
      k_unfold
      (try clear gKz)
      replace hcl1 := up2 _ hcl1
      replace hcl2 := up2 _ hcl2
      replace hcl3 := up2 _ hcl3
      replace hcl4 := up2 _ hcl4
      rename Fr _ _ _ _ => F0
      show (let gKz : Prop := ?_; gKz)
      intro gKz
      obtain ⟨fst, total, tf, tt, v5, v4, v1, v0, hfst, htot, F2⟩ := fr_fold F0
      k_unfold
      (try clear gKz)
      clear nB up2 q0 q1 q2 q3 q4 q5 q6 q7 k0 k1 k2 k3 k4 k5 k6 k7 F0
      refine anyTok fun tk2 => ?_
      dsimp only
      rename_i ya1 ya2 ya3 ya4 ya5 ya6 ya7 ya8 ya9 ya10 ya11 ya12 ya13 ya14 ya15 ya16 ya17 ya18 ya19 ya20 ya21 ya22 ya23 ya24 ya25 ya26 ya27 ya28 ya29 ya30 ya31 ya32 ya33 ya34 ya35 ya36 ya37 ya38 ya39 ya40 ya41 ya42 ya43 ya44 ya45 ya46 ya47 ya48 ya49 ya50 ya51 ya52 ya53 ya54 ya55 ya56 ya57 ya58 ya59 ya60 ya61 ya62 ya63 ya64 ya65 ya66 ya67 ya68 ya69 ya70 ya71 ya72 ya73 ya74 ya75 ya76 ya77 ya78 ya79 ya80 ya81 ya82 ya83 ya84 ya85 ya86 ya87 ya88 ya89 ya90 ya91 ya92 ya93 ya94 ya95 ya96 ya97 ya98 ya99 ya100 ya101 ya102 ya103 ya104 ya105 ya106 ya107 ya108
      revert wz9 s₀z9 s₁z9 mgz9 mbz9 Gz9 Yz9 faz9 oz9 pmz9 docz9 hoz9 hgz9 KXz9 Xz9 Vz9 GLz9 Tz9 Bz9 TEz9 TWz9 ya1 ya2 Mz9 ya3 ya4 hcdz9 ya5 ya6 ya7 ya8 ya9 ya10 ya11 ya12 ya13 ya14 ya15 ya16 ya17 ya18 ya19 ya20 ya21 ya22 ya23 K0z9 hDz9 ya24 ya25 ya26 ya27 ya28 ya29 ya30 ya31 ya32 ya33 ya34 ya35 ya36 mKz aKz ya37 ya38 ya39 ya40 ya41 ya42 ya43 ya44 ya45 ya46 ys ya47 ya48 ya49 ya50 ya51 ya52 ya53 ya54 ya55 ya56 ya57 ya58 ya59 ya60 ya61 ya62 ya63 ya64 sg1 ya65 ya66 ya67 ya68 ya69 ya70 ya71 ya72 ya73 ya74 ya75 ya76 ya77 ya78 ya79 ya80 ya81 ya82 ya83 ya84 l1z ya85 ya86 ya87 hI9 ya88 hlen hlen8 hall g nw D h ya89 sg2 a0 c0 a1 c1 a2 c2 a3 c3 a4 c4 a5 c5 a6 c6 a7 c7 ya90 ya91 ya92 ya93 ya94 ya95 ya96 ya97 ya98 ya99 ya100 ya101 ya102 ya103 ya104 ya105 ya106 ya107 tk ya108 qk ek nw2 pcs mcs N2 hP hM hp0 hcl1 hcl2 hcl3 hcl4 fst total tf tt v5 v4 v1 v0 hfst htot F2 tk2
      exact hcut.get
noncomputable def cut2 : Σ' P : Prop, (Cut P → cut1.1) := by
  refine' ⟨_, fun hcut => ?m⟩
  case m =>
    delta cut1
    refine openP ?_
    k_fill
    intro wz9 s₀z9 s₁z9 mgz9 mbz9 Gz9 Yz9 faz9 oz9 pmz9 docz9 hoz9 hgz9 KXz9 Xz9 Vz9 GLz9 Tz9 Bz9 TEz9 TWz9 ya1 ya2 Mz9 ya3 ya4 hcdz9 ya5 ya6 ya7 ya8 ya9 ya10 ya11 ya12 ya13 ya14 ya15 ya16 ya17 ya18 ya19 ya20 ya21 ya22 ya23 K0z9 hDz9 ya24 ya25 ya26 ya27 ya28 ya29 ya30 ya31 ya32 ya33 ya34 ya35 ya36 mKz aKz ya37 ya38 ya39 ya40 ya41 ya42 ya43 ya44 ya45 ya46 ys ya47 ya48 ya49 ya50 ya51 ya52 ya53 ya54 ya55 ya56 ya57 ya58 ya59 ya60 ya61 ya62 ya63 ya64 sg1 ya65 ya66 ya67 ya68 ya69 ya70 ya71 ya72 ya73 ya74 ya75 ya76 ya77 ya78 ya79 ya80 ya81 ya82 ya83 ya84 l1z ya85 ya86 ya87 hI9 ya88 hlen hlen8 hall g nw D h ya89 sg2 a0 c0 a1 c1 a2 c2 a3 c3 a4 c4 a5 c5 a6 c6 a7 c7 ya90 ya91 ya92 ya93 ya94 ya95 ya96 ya97 ya98 ya99 ya100 ya101 ya102 ya103 ya104 ya105 ya106 ya107 tk ya108 qk ek nw2 pcs mcs N2 hP hM hp0 hcl1 hcl2 hcl3 hcl4 fst total tf tt v5 v4 v1 v0 hfst htot F2 tk2
    w_on
    w_top off
    have sg3 := trivial
    rename (∀ (p : Addr × Obj), _ → _) => hbl9
    w_strict (repeat' (first
      | (k_unfold; (try dsimp only); (try clear qk); (try clear ek))
      | ((with_reducible show wpAny _ _ (exec _ _) _ _ _); k_fold; (try (rename Fr _ _ _ _ => F0z; revert F0z; show (let mKz := ?_; (Fr _ _ _ mKz → _)); intro mKz F0z)))
      | ((with_reducible show wpAny _ _ (exec (Stmt.For (Expr.Name ..) (Expr.Name ..) (_ :: _) [] _) _) _ _ _); (with_reducible (((((rename Fr _ _ _ _ => lF'z); (with_unfolding_all refine For_invVF lF'z (by (exact rfl)) (by (exact rfl)) ?_)))))))
      | ((with_reducible show wpAny _ _ (pyIter (Value.ref _)) _ _ _); (with_reducible ((((with_reducible refine unstop ?_))))))
      | ((with_reducible show wpAny _ _ (storeName _ _ (Value.ref _)) _ _ _); (with_reducible ((((k_dflt (refine IsCell.store (by (k_asm)) (by (k_asm)) (by (rfl)) (by ((repeat (first | with_reducible assumption | with_reducible exact List.mem_cons_self | with_reducible apply List.mem_cons_of_mem)))) (by (with_reducible assumption)) ?_ (by (rfl)) (by (rfl))); intro _ _ nwN _ _ hcN hdN upA upB; try dsimp only))))))
      | ((with_reducible show wpAny _ _ (newList ..) _ _ _); (with_reducible ((((k_dflt refine newList_any (by k_asm) (by k_asm) (by exact Nat.le_of_ble_eq_true rfl) ?_; intro _ _ _ _ _; try dsimp only))))))
      | (k_end; wrow_close)
      | walk1
      | (leave1; (try dsimp only))
      | dsimp only))
    delta Stop
    rename (∀ q ∈ nw2, q.1 < _) => lK
    have hKN := upB _ (.head _) (fun e9 => nocell_list [] 0 _ ((congrArg Obj.data e9).trans (by with_reducible assumption)))
    show (let gKz : Prop := ?_; gKz)
    intro gKz
    obtain ⟨base, hb1, hb2, hb3⟩ := base_mk hKN
    k_unfold
    (try clear gKz)
    have hnc : ∀ p ∈ nw2, NoCell p.2 → p ∈ base := fun p9 hp9 hn9 => hb3 p9 (upB p9 (.tail _ hp9) (fun e9 => hn9 _ (by rw [e9]; with_reducible assumption))) (Nat.ne_of_lt (lK p9 hp9))
    have hPb := hP.upS hnc
    have hMb := hM.upS hnc
    have hcb2 := hb3 _ (upA _ (.tail _ hcl2) (by show Nat.succ _ ≠ Nat.succ _; lia)) (Nat.ne_of_lt (lK _ hcl2))
    have hcb3 := hb3 _ (upA _ (.tail _ hcl3) (by show Nat.succ _ ≠ Nat.succ _; lia)) (Nat.ne_of_lt (lK _ hcl3))
    have hcb4 := hb3 _ (upA _ (.tail _ hcl4) (by show Nat.succ _ ≠ Nat.succ _; lia)) (Nat.ne_of_lt (lK _ hcl4))
    have hcb1 := hb3 _ hcN (by have q9 := lK _ hcl1; exact Nat.ne_of_lt q9)
    clear hP hM hnc hcl1 hcl2 hcl3 hcl4
    show (let gKz : Prop := ?_; gKz)
    intro gKz
    obtain ⟨vsM, cM, hMm, hMl, hMk⟩ := id hMb
    k_unfold
    (try clear gKz)
    k_dflt refine list_T vsM (fun _ m => Agree [Str.ofString "colour"] m _) (JK base _ mcs) hMl rfl (by k_asm) (by k_asm) (fun p hp => hp) (fun i9 nw9 hj9 => hj9.1 _ hMm) (Agree.refl _) (JK.zero hb1 hKN) ?_ ?_
    · intro I1 i1 v1' m1 h1 tk1 nw1 it1 hv1 hm1 hj1 hI1 hit1 F1 N1
      obtain ⟨vc1, rfl⟩ := hm1.form1
      have hi4 : i1 < 4 := by have := (List.getElem?_eq_some_iff.mp hv1).1; lia
      show (let gKz : Prop := ?_; gKz)
      intro gKz
      obtain ⟨am, em, ⟨t1, t2, t3, t4, hcm⟩, ok1, ok2, ok3, ok4⟩ := hMk i1 hi4
      k_unfold
      (try clear gKz)
      obtain rfl : v1' = .ref am := Option.some.inj (hv1.symm.trans em)
      show (let gKz : Prop := ?_; gKz)
      intro gKz
      obtain ⟨hJb, vsK, cK, hKm, hkp⟩ := hj1
      k_unfold
      (try clear gKz)
      have hcm1 := hJb _ hcm
      have hcn1 := hJb _ hcb1
      (try dsimp only at F1)
      w_strict (repeat' (first
        | (k_unfold; (try dsimp only); (try clear qk); (try clear ek))
        | ((with_reducible show wpAny _ _ (exec _ _) _ _ _); k_fold; (try (rename Fr _ _ _ _ => F0z; revert F0z; show (let mKz := ?_; (Fr _ _ _ mKz → _)); intro mKz F0z)))
        | ((with_reducible show wpAny _ _ (call (Value.ref _) _ _) _ _ _); (with_reducible (((first | (k_dflt (refine Con.useN (by (k_asm)) (by (k_asm)) (by (k_asm)) (by (k_asm)) (by (k_asm)) (seen_con _ _ _ _ _ _ _ _ _ _ (by ((repeat (first | with_reducible assumption | with_reducible exact List.mem_cons_self | with_reducible apply List.mem_cons_of_mem)))) (by (with_reducible assumption)) (by (with_reducible assumption)) (by (with_reducible assumption)) (by (with_reducible assumption))) rfl (by (ktr_room)) (by (ktr_units)) ?_); intro _ _ _ _ _ _ hp9z; obtain ⟨a9, x9, y9, z9, u91, u92, u93, l9, ⟨i91, i92, i93⟩⟩ := hp9z; try dsimp only) | (with_reducible refine unstop ?_))))))
        | ((with_reducible (((((with_reducible show wpAny _ _ (eval (Expr.Name _ _) (envOfC _ _ _ _ _)) _ _ _); k_dflt (refine nameX_C (by (k_asm)) (by (rfl)) (by ((repeat (first | with_reducible assumption | with_reducible exact List.mem_cons_self | with_reducible apply List.mem_cons_of_mem)))) (by (with_reducible assumption)) ?_ (by (rfl)) (by (rfl)))))))))
        | (k_end; wrow_close)
        | walk1
        | (leave1; (try dsimp only))
        | dsimp only))
      delta Stop
      rename News _ _ _ ((_, tupO _) :: _) => Ns
      rename (∀ q ∈ (I1, _) :: nw1, q.1 < _) => la
      rename IsF _ (1024 * placeI _ _) => j1
      rename IsF _ (16384 * _) => j2
      rename IsF _ (1024 * (mcs i1).2.2.1) => j3
      have haK := ne_la la hKm
      have haI : _ ≠ I1 := Ne.symm (Nat.ne_of_lt (la _ (.head _)))
      have Nf := front2 Ns hKm
      have htK : ∀ b ws, (b, tupO ws) ∈ nw1 → b ≠ _ := fun b9 ws9 hb9 => News.ne N1 (.tail _ hb9) (.tail _ hKm) (tup_ne_list _ _ _)
      k_dflt refine ConK.use (insort_con _ _ vsK cK (insAll (fcol mcs) i1) _ _ _ (placeI (mcs i1).1 (mcs i1).2.1) _ _ _ _ _ (.head _) (mem_front (.head _) haK) (hkp.up fun b9 ws9 hb9 => mem_front (.tail _ (.tail _ hb9)) (htK b9 ws9 hb9)) j1 (insAll_sorted _ _) (by rw [insAll_len]; lia) (upd_filter _)) (by k_asm) (by k_asm) (by k_asm) Nf (by k_asm) rfl (by ktr_room) (by ktr_units) ?_
      intro r9 n9 h9 tk9 F9 N9 hp9
      obtain ⟨e1, e2⟩ := hp9
      subst e1
      subst e2
      dsimp only
      w_strict (repeat' (first
        | (k_unfold; (try dsimp only); (try clear qk); (try clear ek))
        | ((with_reducible show wpAny _ _ (exec _ _) _ _ _); k_fold; (try (rename Fr _ _ _ _ => F0z; revert F0z; show (let mKz := ?_; (Fr _ _ _ mKz → _)); intro mKz F0z)))
        | ((with_reducible show UnrEnd ..); (with_reducible ((((with_reducible refine unstop ?_))))))
        | (k_end; wrow_close)
        | walk1
        | (leave1; (try dsimp only))
        | dsimp only))
      delta Stop
      k_dflt refine kept_end (by k_asm) N9 (Ne.symm (hI1 _ hKm)) hI1 haI haK (fun off9 => ⟨?_, JK.next hb2 hJb hkp haK (fun b9 ws9 hb9 => htK b9 ws9 hb9) j1 j2 j3, off9⟩)
      intro y9 hy9
      simp only [List.mem_cons, List.not_mem_nil, or_false] at hy9
      repeat (first | (with_reducible exact rfl) | refine (if_neg hy9).trans ?_)
    · intro h3 tk3 m3 nw3 hm3 hj3 F3 N3
      obtain ⟨vc1, rfl⟩ := hm3.form1
      show (let gKz : Prop := ?_; gKz)
      intro gKz
      obtain ⟨hJb, vsK, cK, hKm, hkp⟩ := hj3
      k_unfold
      (try clear gKz)
      have hPe := hPb.up hJb
      have hMe := hMb.up hJb
      have hce1 := hJb _ hcb1
      have hce2 := hJb _ hcb2
      have hce3 := hJb _ hcb3
      have hce4 := hJb _ hcb4
      clear hJb hPb hMb hcb1 hcb2 hcb3 hcb4 hb1 hb2 hb3 upA upB hm3 hMm hMl hMk hKN hcN
      (try dsimp only at F3 ⊢)
      have sg4 := trivial
      w_strict (repeat' (first
        | (k_unfold; (try dsimp only); (try clear qk); (try clear ek))
        | ((with_reducible show wpAny _ _ (exec _ _) _ _ _); k_fold; (try (rename Fr _ _ _ _ => F0z; revert F0z; show (let mKz := ?_; (Fr _ _ _ mKz → _)); intro mKz F0z)))
        | ((with_reducible show LCg.CompSrc ..); (with_reducible ((((with_reducible refine unstop ?_))))))
        | ((with_reducible show wpAny _ _ (eval (Expr.ListComp ..) _) _ _ _); (with_reducible ((((k_here; k_dflt (refine LCg.ListComp_U (F₀ := by k_asm) (by with_unfolding_all rfl) (by decide) (by rfl) (by decide) (by rfl) ?_)))))))
        | (k_end; wrow_close)
        | walk1
        | (leave1; (try dsimp only))
        | dsimp only))
      delta Stop
      show (let gKz : Prop := ?_; gKz)
      intro gKz
      obtain ⟨vsP, cP, hPm, hPl, hPk⟩ := id hPe
      k_unfold
      (try clear gKz)
      k_dflt refine src_n (n := 5) hPl (by decide) rfl (by k_asm) (by k_asm) hPm fun g => ?_
      refine comp_rest (JG (IsSeen (fcol pcs)) _) ?_ ?_ 5 0 [] _ rfl (JG.nil _ _)
      · intro i ys nw v I oI C oC D m₂ h tk E' hi9 hj9 hP hC hx F9 N9 off9 ne9
        show (let gKz : Prop := ?_; gKz)
        intro gKz
        obtain ⟨am, em, ⟨t1, t2, t3, t4, hcm⟩, ok1, ok2, ok3, ok4⟩ := hPk i hi9
        k_unfold
        (try clear gKz)
        obtain rfl : v = .ref am := Option.some.inj (hP.symm.trans em)
        have hcm1 := hj9.2.2 _ hcm
        w_strict (repeat' (first
          | (k_unfold; (try dsimp only); (try clear qk); (try clear ek))
          | ((with_reducible show wpAny _ _ (exec _ _) _ _ _); k_fold; (try (rename Fr _ _ _ _ => F0z; revert F0z; show (let mKz := ?_; (Fr _ _ _ mKz → _)); intro mKz F0z)))
          | ((with_reducible show wpAny _ _ (call (Value.ref _) _ _) _ _ _); (with_reducible (((first | (k_dflt (refine Con.useN (by (k_asm)) (by (k_asm)) (by (k_asm)) (by (k_asm)) (by (k_asm)) (seen_con _ _ _ _ _ _ _ _ _ _ (by ((repeat (first | with_reducible assumption | with_reducible exact List.mem_cons_self | with_reducible apply List.mem_cons_of_mem)))) (by (with_reducible assumption)) (by (with_reducible assumption)) (by (with_reducible assumption)) (by (with_reducible assumption))) rfl (by (ktr_room)) (by (ktr_units)) ?_); intro _ _ _ _ _ _ hp9z; obtain ⟨a9, x9, y9, z9, u91, u92, u93, l9, ⟨i91, i92, i93⟩⟩ := hp9z; try dsimp only) | (with_reducible refine unstop ?_))))))
          | ((with_reducible show LCg.CompEnd ..); (with_reducible ((((with_reducible refine unstop ?_))))))
          | ((with_reducible (((((with_reducible show wpAny _ _ (eval (Expr.Name _ _) (compEnvC _ _ _ _)) _ _ _); first | (k_dflt refine LCgL.ld_own (by k_asm) (by k_mem) (by with_reducible assumption) (by with_reducible assumption) ?_) | (k_dflt (refine LCgL.ld_global (by (k_asm)) (by (k_asm)) (by (k_asm)) (by (k_is)) ?_)) | (k_dflt (refine LCgL.ld_built (by (k_asm)) (by (k_asm)) (by (k_asm)) (by (k_is)) (by (boot_by_name)) (by (decide)) ?_))))))))
          | (k_end; wrow_close)
          | walk1
          | (leave1; (try dsimp only))
          | dsimp only))
        delta Stop
        k_dflt exact comp_new (by k_asm) (by k_asm) (by with_reducible assumption) off9 (.inr ⟨_, .tail _ (hj9.2.2 _ hPm), rfl, _, rfl⟩) (hj9.next ⟨_, _, _, _, _, _, _, rfl, .head _, by assumption, by assumption, by assumption⟩ (IsSeen.up fun p hp => .tail _ hp) fun p hp => .tail _ hp)
      · intro ys nw hj9 D h tk F9 N9 off9
        have hsb := hj9.2.2
        have hPf := hPe.up hsb
        have hMf := hMe.up hsb
        have hkf := hkp.up (fun a9 ws9 hm9 => hsb _ hm9)
        have hKf := hsb _ hKm
        have hcf1 := hsb _ hce1
        have hcf2 := hsb _ hce2
        have hcf3 := hsb _ hce3
        have hcf4 := hsb _ hce4
        have hSf := SeensIn.of (l := D) hj9
        dsimp only
        clear hPe hMe hkp hKm hce1 hce2 hce3 hce4 hPk hPl hPm hsb off9 hj9
        w_strict (repeat' (first
          | (k_unfold; (try dsimp only); (try clear qk); (try clear ek))
          | ((with_reducible show wpAny _ _ (exec _ _) _ _ _); k_fold; (try (rename Fr _ _ _ _ => F0z; revert F0z; show (let mKz := ?_; (Fr _ _ _ mKz → _)); intro mKz F0z)))
          | ((with_reducible show LCg.CompSrc ..); (with_reducible ((((with_reducible refine unstop ?_))))))
          | ((with_reducible ((((k_here; (first | (with_reducible show wpAny _ _ (exec (Stmt.Assign [Expr.Name (Str.ofString "rows") _] _ _) _) _ _ _) | (with_reducible show wpAny _ _ (exec (Stmt.Assign [Expr.Name (Str.ofString "joins") _] _ _) _) _ _ _) | (with_reducible show wpAny _ _ (exec (Stmt.Assign [Expr.Name (Str.ofString "left") _] _ _) _) _ _ _)); k_dflt (refine LCg.Assign_ListComp_U (F₀ := by k_asm) (by rfl) (by with_unfolding_all rfl) (by with_unfolding_all rfl) (by decide) (by rfl) (by decide) (by rfl) (by rfl) (by rfl) ?_)))))))
          | ((with_reducible show wpAny _ _ (storeName _ _ (Value.ref _)) _ _ _); (with_reducible ((((k_dflt (refine IsCell.store (by (k_asm)) (by (k_asm)) (by (rfl)) (by ((repeat (first | with_reducible assumption | with_reducible exact List.mem_cons_self | with_reducible apply List.mem_cons_of_mem)))) (by (with_reducible assumption)) ?_ (by (rfl)) (by (rfl))); intro _ _ nwN _ _ hcN hdN upA upB; try dsimp only))))))
          | (k_end; wrow_close)
          | walk1
          | (leave1; (try dsimp only))
          | dsimp only))
        delta Stop
        have hnc : ∀ p ∈ (D, LCg.lst ys) :: nw, NoCell p.2 → p ∈ nwN := fun p9 hp9 hn9 => upB p9 hp9 (fun e9 => hn9 _ (by rw [e9]; with_reducible assumption))
        have hPg := hPf.upS fun p9 hp9 => hnc p9 (.tail _ hp9)
        have hMg := hMf.upS fun p9 hp9 => hnc p9 (.tail _ hp9)
        have hkg := hkf.upS fun p9 hp9 => hnc p9 (.tail _ hp9)
        have hSg := hSf.upS hnc
        have hKg := hnc _ (.tail _ hKf) (nocell_list _ _)
        have hcg1 := upA _ (.tail _ hcf1) (by show Nat.succ _ ≠ Nat.succ _; lia)
        have hcg3 := upA _ (.tail _ hcf3) (by show Nat.succ _ ≠ Nat.succ _; lia)
        have hcg4 := upA _ (.tail _ hcf4) (by show Nat.succ _ ≠ Nat.succ _; lia)
        clear hPf hMf hkf hSf hKf hcf1 hcf2 hcf3 hcf4 hnc upA upB
        rename_i yb1 yb2 yb3 yb4 yb5 yb6 yb7 yb8 yb9 yb10 yb11 yb12 yb13 yb14 yb15 yb16 yb17 yb18 yb19 yb20 yb21 yb22 yb23 yb24 yb25 yb26 yb27 yb28 yb29 yb30 yb31 yb32 yb33
        revert wz9 s₀z9 s₁z9 mgz9 mbz9 Gz9 Yz9 faz9 oz9 pmz9 docz9 hoz9 hgz9 KXz9 Xz9 Vz9 GLz9 Tz9 Bz9 TEz9 TWz9 ya1 ya2 Mz9 ya3 ya4 hcdz9 ya5 ya6 ya7 ya8 ya9 ya10 ya11 ya12 ya13 ya14 ya15 ya16 ya17 ya18 ya19 ya20 ya21 ya22 ya23 K0z9 hDz9 ya24 ya25 ya26 ya27 ya28 ya29 ya30 ya31 ya32 ya33 ya34 ya35 ya36 yb1 aKz ya37 ya38 ya39 ya40 ya41 ya42 ya43 ya44 ya45 ya46 yb2 ya47 ya48 ya49 ya50 ya51 ya52 ya53 ya54 ya55 ya56 ya57 ya58 ya59 ya60 ya61 ya62 ya63 ya64 sg1 ya65 ya66 ya67 ya68 ya69 ya70 ya71 ya72 ya73 ya74 ya75 ya76 ya77 ya78 ya79 ya80 ya81 ya82 ya83 ya84 l1z ya85 ya86 ya87 hI9 ya88 hlen hlen8 hall yb3 yb4 yb5 yb6 ya89 sg2 a0 c0 a1 c1 a2 c2 a3 c3 a4 c4 a5 c5 a6 c6 a7 c7 ya90 ya91 ya92 ya93 ya94 ya95 ya96 ya97 ya98 ya99 ya100 ya101 ya102 ya103 ya104 ya105 ya106 ya107 yb7 ya108 nw2 pcs mcs hbl9 hp0 fst total tf tt v5 v4 v1 v0 hfst htot F2 tk2 sg3 yb8 yb9 yb10 yb11 lK yb12 yb13 yb14 yb15 yb16 yb17 yb18 yb19 lF'z base vsM cM h3 tk3 nw3 N3 vc1 vsK cK sg4 yb20 F0z vsP cP g ys nw D h tk F9 N9 yb21 yb22 nwN yb23 hcN hdN qk ek mKz yb24 yb25 yb26 yb27 yb28 yb29 yb30 yb31 yb32 yb33 hPg hMg hkg hSg hKg hcg1 hcg3 hcg4
        exact hcut.get
noncomputable def cut3 : Σ' P : Prop, (Cut P → cut2.1) := by
  refine' ⟨_, fun hcut => ?m⟩
  case m =>
    delta cut2
    refine openP ?_
    k_fill
    intro wz9 s₀z9 s₁z9 mgz9 mbz9 Gz9 Yz9 faz9 oz9 pmz9 docz9 hoz9 hgz9 KXz9 Xz9 Vz9 GLz9 Tz9 Bz9 TEz9 TWz9 ya1 ya2 Mz9 ya3 ya4 hcdz9 ya5 ya6 ya7 ya8 ya9 ya10 ya11 ya12 ya13 ya14 ya15 ya16 ya17 ya18 ya19 ya20 ya21 ya22 ya23 K0z9 hDz9 ya24 ya25 ya26 ya27 ya28 ya29 ya30 ya31 ya32 ya33 ya34 ya35 ya36 yb1 aKz ya37 ya38 ya39 ya40 ya41 ya42 ya43 ya44 ya45 ya46 yb2 ya47 ya48 ya49 ya50 ya51 ya52 ya53 ya54 ya55 ya56 ya57 ya58 ya59 ya60 ya61 ya62 ya63 ya64 sg1 ya65 ya66 ya67 ya68 ya69 ya70 ya71 ya72 ya73 ya74 ya75 ya76 ya77 ya78 ya79 ya80 ya81 ya82 ya83 ya84 l1z ya85 ya86 ya87 hI9 ya88 hlen hlen8 hall yb3 yb4 yb5 yb6 ya89 sg2 a0 c0 a1 c1 a2 c2 a3 c3 a4 c4 a5 c5 a6 c6 a7 c7 ya90 ya91 ya92 ya93 ya94 ya95 ya96 ya97 ya98 ya99 ya100 ya101 ya102 ya103 ya104 ya105 ya106 ya107 yb7 ya108 nw2 pcs mcs hbl9 hp0 fst total tf tt v5 v4 v1 v0 hfst htot F2 tk2 sg3 yb8 yb9 yb10 yb11 lK yb12 yb13 yb14 yb15 yb16 yb17 yb18 yb19 lF'z base vsM cM h3 tk3 nw3 N3 vc1 vsK cK sg4 yb20 F0z vsP cP g ys nw D h tk F9 N9 yb21 yb22 nwN yb23 hcN hdN qk ek mKz yb24 yb25 yb26 yb27 yb28 yb29 yb30 yb31 yb32 yb33 hPg hMg hkg hSg hKg hcg1 hcg3 hcg4
    w_on
    w_top off
    have sg5 := trivial
    show (let gKz : Prop := ?_; gKz)
    intro gKz
    obtain ⟨vsS, cS, hSm, hSl, hSk⟩ := id hSg
    k_unfold
    (try clear gKz)
    k_dflt refine LCg.CompSrc.range (n := 5) rfl (by k_asm) (by k_asm) (by assumption) (by decide) (by decide) (by decide) fun g => ?_
    refine comp_rest (JG (IsRow fun k => 1 + countLe (List.map Prod.fst (insAll (fcol mcs) 4)) (fcol pcs k).1) _) ?_ ?_ 5 0 [] _ rfl (JG.nil _ _)
    · intro i ys nw v I oI C oC D m₂ h tk E' hi9 hj9 hP hC hx F9 N9 off9 ne9
      obtain ⟨ti, rfl⟩ := hP
      obtain ⟨vi, ei, ai, xi, yi, zi, ui1, ui2, ui3, rfl, hmi, is1, is2, is3⟩ := hSk i hi9
      have hsb := hj9.2.2
      have hmi1 := hsb _ hmi
      have hSm1 := hsb _ hSm
      have hKm1 := hsb _ hKg
      have hcn1 := hsb _ hcg1
      have hcn2 := hsb _ hcN
      have hki := (hkg.up (fun a9 ws9 hm9 => hsb _ hm9)).up (nw' := (I, oI) :: (C, oC) :: (D, LCg.lst ys) :: nw) (fun a9 ws9 hm9 => .tail _ (.tail _ (.tail _ hm9)))
      have hcl9 := cnt_le (fcol mcs) 4 (fcol pcs i).1
      have hi0 : (0 + (i : Int)).toNat = i := by lia
      have ei2 : vsS[(0 + (i : Int)).toNat]? = some (.ref ai) := by rw [hi0]; exact ei
      w_strict (repeat' (first
        | (k_unfold; (try dsimp only); (try clear qk); (try clear ek))
        | ((with_reducible show wpAny _ _ (exec _ _) _ _ _); k_fold)
        | ((with_reducible show wpAny _ _ (binaryOp Operator.Add (Value.str _ _) (Value.str _ _)) _ _ _); (with_reducible ((((k_dflt refine add_row (by lia) (fun _ _ => ?_); try dsimp only))))))
        | ((with_reducible (((((with_reducible show wpAny _ _ (call (Value.ref _) [Value.ref _, Value.float _ _] _) _ _ _); k_dflt (refine ConK.useN (by (k_asm)) (by (k_asm)) (by (k_asm)) (by (k_asm)) (by (k_asm)) (bis_con _ _ _ _ _ _ _ _ (by ((repeat (first | with_reducible assumption | with_reducible exact List.mem_cons_self | with_reducible apply List.mem_cons_of_mem)))) (by (k_asm)) (by (k_asm)) (by (exact insAll_sorted _ _)) (by ((rw [insAll_len]; decide)))) rfl (by (ktr_room)) (by (ktr_units)) ?_); intro _ _ _ _ _ _ hp9z; obtain ⟨_, e1z, e2z⟩ := hp9z; subst e1z; subst e2z; try dsimp only))))))
        | ((with_reducible show wpAny _ _ (subscriptTail (Expr.Subscript ..) (Expr.Constant ..) (Value.ref _) (Value.int _ _)) _ _ _); (with_reducible ((((k_dflt (refine tup0 (by (k_asm)) (by ((repeat (first | with_reducible assumption | with_reducible exact List.mem_cons_self | with_reducible apply List.mem_cons_of_mem)))) ?_)))))))
        | ((with_reducible show wpAny _ _ (subscriptTail (Expr.Name ..) (Expr.Name ..) (Value.ref _) (Value.int _ _)) _ _ _); (with_reducible ((((k_dflt (refine item_any (by (k_asm)) (by ((repeat (first | with_reducible assumption | with_reducible exact List.mem_cons_self | with_reducible apply List.mem_cons_of_mem)))) (by (lia)) (by (lia)) (by (with_reducible assumption)) ?_)))))))
        | ((with_reducible show wpAny _ _ (subscriptTail (Expr.Constant ..) _ _ _) _ _ _); (with_reducible ((((k_dflt refine item_abc (by with_reducible assumption) (fun _ _ => ?_); try dsimp only))))))
        | ((with_reducible show wpAny _ _ (binaryOp Operator.Mult (Value.str _ _) (Value.int _ _)) _ _ _); (with_reducible ((((k_dflt refine mul_dot (by lia) (by lia) (fun _ _ => ?_); try dsimp only))))))
        | ((with_reducible (((((with_reducible show wpAny _ _ (eval (Expr.Name _ _) (compEnvC _ _ _ _)) _ _ _); first | (k_dflt (refine lcf_free (by (k_asm)) (by (rfl)) (by ((repeat (first | with_reducible assumption | with_reducible exact List.mem_cons_self | with_reducible apply List.mem_cons_of_mem)))) (by (with_reducible assumption)) ?_ (by (rfl)) (by (rfl)))) | (k_dflt (refine lcf_cell (by (k_asm)) (by (rfl)) (by ((repeat (first | with_reducible assumption | with_reducible exact List.mem_cons_self | with_reducible apply List.mem_cons_of_mem)))) (by (with_reducible assumption)) ?_ (by (rfl)) (by (rfl)))) | (k_dflt refine LCgL.ld_own (by k_asm) (by k_mem) (by with_reducible assumption) (by with_reducible assumption) ?_) | (k_dflt (refine LCgL.ld_global (by (k_asm)) (by (k_asm)) (by (k_asm)) (by (k_is)) ?_)) | (k_dflt (refine LCgL.ld_built (by (k_asm)) (by (k_asm)) (by (k_asm)) (by (k_is)) (by (boot_by_name)) (by (decide)) ?_))))))))
        | ((with_reducible show LCg.CompEnd ..); (with_reducible ((((with_reducible refine unstop ?_))))))
        | (k_end; wrow_close)
        | walk1
        | (leave1; (try dsimp only))
        | dsimp only))
      delta Stop
      k_dflt exact comp_val (by k_asm) (by k_asm) (fun p9 hp9 => hp9) off9 trivial (hj9.next (isRow_of (by lia)) (fun _ _ h9 => h9) fun p hp => hp)
    · intro ys nw hj9 D h tk F9 N9 off9
      have hsb := lift_tail (x := (D, LCg.lst ys)) hj9.2.2
      have hPh := hPg.up hsb
      have hMh := hMg.up hsb
      have hkh := hkg.up (fun a9 ws9 hm9 => hsb _ hm9)
      have hKh := hsb _ hKg
      have hSh := hSg.upS (fun p9 hp9 _ => hsb p9 hp9)
      have hch1 := hsb _ hcg1
      have hch2 := hsb _ hcN
      have hch3 := hsb _ hcg3
      have hch4 := hsb _ hcg4
      show (let gKz : Prop := ?_; gKz)
      intro gKz
      obtain ⟨tr0, tr1, tr2, tr3, tr4, hys⟩ := hj9.row5
      k_unfold
      (try clear gKz)
      have hc0 := cnt_le (fcol mcs) 4 (fcol pcs 0).1
      have hc1 := cnt_le (fcol mcs) 4 (fcol pcs 1).1
      have hc2 := cnt_le (fcol mcs) 4 (fcol pcs 2).1
      have hc3 := cnt_le (fcol mcs) 4 (fcol pcs 3).1
      have hc4 := cnt_le (fcol mcs) 4 (fcol pcs 4).1
      subst hys
      have hRh := List.mem_cons_self (a := (D, LCg.lst [.str (rowS (1 + countLe (List.map Prod.fst (insAll (fcol mcs) 4)) (fcol pcs 0).1) 0) tr0, .str (rowS (1 + countLe (List.map Prod.fst (insAll (fcol mcs) 4)) (fcol pcs 1).1) 1) tr1, .str (rowS (1 + countLe (List.map Prod.fst (insAll (fcol mcs) 4)) (fcol pcs 2).1) 2) tr2, .str (rowS (1 + countLe (List.map Prod.fst (insAll (fcol mcs) 4)) (fcol pcs 3).1) 3) tr3, .str (rowS (1 + countLe (List.map Prod.fst (insAll (fcol mcs) 4)) (fcol pcs 4).1) 4) tr4]) ) (l := nw)
      generalize hn0 : countLe (List.map Prod.fst (insAll (fcol mcs) 4)) (fcol pcs 0).1 = n0 at *
      generalize hn1 : countLe (List.map Prod.fst (insAll (fcol mcs) 4)) (fcol pcs 1).1 = n1 at *
      generalize hn2 : countLe (List.map Prod.fst (insAll (fcol mcs) 4)) (fcol pcs 2).1 = n2 at *
      generalize hn3 : countLe (List.map Prod.fst (insAll (fcol mcs) 4)) (fcol pcs 3).1 = n3 at *
      generalize hn4 : countLe (List.map Prod.fst (insAll (fcol mcs) 4)) (fcol pcs 4).1 = n4 at *
      clear hPg hMg hkg hKg hSg hcg1 hcN hcg3 hcg4 hsb hj9 hSk hSl hSm off9
      dsimp only
      have sg6 := trivial
      w_strict (repeat' (first
        | (k_unfold; (try dsimp only); (try clear qk); (try clear ek))
        | ((with_reducible show wpAny _ _ (exec _ _) _ _ _); k_fold)
        | ((with_reducible (((((with_reducible show wpAny _ _ (exec (Stmt.If (Expr.Compare (Expr.BinOp _ _ _ _) _ _ _) _ _ _) _) _ _ _); (fail_if_success (have h9 := go6)); with_reducible refine unstop ?_))))))
        | ((with_reducible (((((with_reducible show wpAny _ _ (call (Value.ref _) [Value.ref _, Value.int _ _] _) _ _ _); k_dflt (refine Con.useN (by (k_asm)) (by (k_asm)) (by (k_asm)) (by (k_asm)) (by (k_asm)) (mail_con _ _ _ _ _ _ _ _ _ _ _ _ _ _ _ (by ((repeat (first | assumption | exact List.mem_cons_self | apply List.mem_cons_of_mem)))) (by (first | exact rowS_20 (by lia) | exact dS_20 (by decide))) (by (first | exact rowS_20 (by lia) | exact dS_20 (by decide))) (by (first | exact rowS_20 (by lia) | exact dS_20 (by decide))) (by (first | exact rowS_20 (by lia) | exact dS_20 (by decide))) (by (first | exact rowS_20 (by lia) | exact dS_20 (by decide))) (by (lia)) (by (lia))) rfl (by (ktr_room)) (by (ktr_units)) ?_); intro _ _ _ _ _ _ hp9z; obtain ⟨_, e1z, e2z⟩ := hp9z; subst e1z; subst e2z; try dsimp only))))))
        | (k_end; wrow_close)
        | walk1
        | (leave1; (try dsimp only))
        | dsimp only))
      delta Stop
      have go6 := trivial
      rename Fr _ _ _ _ => F6
      have hq : quoteL (bodyS [rowS (1 + n0) 0, rowS (1 + n1) 1, rowS (1 + n2) 2, rowS (1 + n3) 3, rowS (1 + n4) 4] total).cps.toList = textL 46 [(1 + n0 + 1, 0), (1 + n1 + 1, 1), (1 + n2 + 1, 2), (1 + n3 + 1, 3), (1 + n4 + 1, 4)] :=
        quote_body [(1 + n0, 0), (1 + n1, 1), (1 + n2, 2), (1 + n3, 3), (1 + n4, 4)] total (by simp)
      rw [hq] at F6
      have hq2 : quoteL (textL 46 [(1 + n0 + 1, 0), (1 + n1 + 1, 1), (1 + n2 + 1, 2), (1 + n3 + 1, 3), (1 + n4 + 1, 4)]) = textL 46 [(1 + n0 + 1 + 1, 0), (1 + n1 + 1 + 1, 1), (1 + n2 + 1 + 1, 2), (1 + n3 + 1 + 1, 3), (1 + n4 + 1 + 1, 4)] := quote_text _ (by simp)
      have hql : (⟨(textL 46 [(1 + n0 + 1, 0), (1 + n1 + 1, 1), (1 + n2 + 1, 2), (1 + n3 + 1, 3), (1 + n4 + 1, 4)]).toArray⟩ : Str).cps.size ≤ 500 := by
        have := textL_len 46 [(1 + n0 + 1, 0), (1 + n1 + 1, 1), (1 + n2 + 1, 2), (1 + n3 + 1, 3), (1 + n4 + 1, 4)] (by simp; lia)
        simp at this ⊢; lia
      clear hq
      k_dflt refine if_join ⟨(textL 46 [(1 + n0 + 1 + (total % 2).toNat, 0), (1 + n1 + 1 + (total % 2).toNat, 1), (1 + n2 + 1 + (total % 2).toNat, 2), (1 + n3 + 1 + (total % 2).toNat, 3), (1 + n4 + 1 + (total % 2).toNat, 4)]).toArray⟩ F6 (by k_asm) ?_ ?_
      · skip
        w_strict (repeat' (first
          | (k_unfold; (try dsimp only); (try clear qk); (try clear ek))
          | ((with_reducible show wpAny _ _ (exec _ _) _ _ _); k_fold)
          | ((with_reducible (((((with_reducible show wpAny _ _ (call (Value.ref _) [Value.str _ _] _) _ _ _); k_dflt (refine Con.useN (by (k_asm)) (by (k_asm)) (by (k_asm)) (by (k_asm)) (by (k_asm)) (quo_con _ _ _ (by (with_reducible assumption))) rfl (by (ktr_room)) (by (ktr_units)) ?_); intro _ _ _ _ _ _ hp9z; obtain ⟨_, e1z, e2z⟩ := hp9z; subst e1z; subst e2z; try dsimp only))))))
          | (k_end; wrow_close)
          | walk1
          | (leave1; (try dsimp only))
          | dsimp only))
        · skip
          rename (Int.fmod total 2 = 1) => ho
          have ho2 : (total % 2).toNat = 1 := by rw [Int.fmod_eq_emod_of_nonneg _ (by decide)] at ho; lia
          rw [hq2] at *
          rw [ho2]
          k_dflt exact if_end2 (by k_asm) (by k_asm)
        · skip
          rename ¬ (Int.fmod total 2 = 1) => ho
          have ho2 : (total % 2).toNat = 0 := by rw [Int.fmod_eq_emod_of_nonneg _ (by decide)] at ho; lia
          rw [ho2]
          k_dflt exact if_end F6 (by k_asm) (fun y9 => rfl)
      · intro h6 tk6 tm6 F6' N6
        clear F6 hq2 hql
        rename_i yc1 yc2 yc3 yc4 yc5 yc6 yc7 yc8 yc9 yc10 yc11 yc12 yc13
        revert wz9 s₀z9 s₁z9 mgz9 mbz9 Gz9 Yz9 faz9 oz9 pmz9 docz9 hoz9 hgz9 KXz9 Xz9 Vz9 GLz9 Tz9 Bz9 TEz9 TWz9 ya1 ya2 Mz9 ya3 ya4 hcdz9 ya5 ya6 ya7 ya8 ya9 ya10 ya11 ya12 ya13 ya14 ya15 ya16 ya17 ya18 ya19 ya20 ya21 ya22 ya23 K0z9 hDz9 ya24 ya25 ya26 ya27 ya28 ya29 ya30 ya31 ya32 ya33 ya34 ya35 ya36 yb1 aKz ya37 ya38 ya39 ya40 ya41 ya42 ya43 ya44 ya45 ya46 yb2 ya47 ya48 ya49 ya50 ya51 ya52 ya53 ya54 ya55 ya56 ya57 ya58 ya59 ya60 ya61 ya62 ya63 ya64 sg1 ya65 ya66 ya67 ya68 ya69 ya70 ya71 ya72 ya73 ya74 ya75 ya76 ya77 ya78 ya79 ya80 ya81 ya82 ya83 ya84 l1z ya85 ya86 ya87 hI9 ya88 hlen hlen8 hall yb3 yb4 yb5 yb6 ya89 sg2 a0 c0 a1 c1 a2 c2 a3 c3 a4 c4 a5 c5 a6 c6 a7 c7 ya90 ya91 ya92 ya93 ya94 ya95 ya96 ya97 ya98 ya99 ya100 ya101 ya102 ya103 ya104 ya105 ya106 ya107 yb7 ya108 nw2 pcs mcs hp0 fst total tf tt v5 v4 v1 v0 hfst htot tk2 sg3 yb8 yb9 lK yb12 yb13 yb14 yb16 yb17 yb18 yb19 base vsM cM h3 tk3 nw3 N3 vc1 vsK cK sg4 yb20 F0z vsP cP yc1 ys yc2 yc3 yc4 yc5 F9 N9 yb21 yb22 nwN hdN yc6 yc7 mKz yb25 yb26 yb27 yb28 yb29 yb30 yb33 sg5 vsS cS g nw D h yc8 tr0 tr1 tr2 tr3 tr4 n0 hn0 hc0 n1 hn1 hc1 n2 hn2 hc2 n3 hn3 hc3 n4 hn4 hc4 hPh hMh hkh hKh hSh hch1 hch2 hch3 hch4 hRh sg6 yc9 yc10 yc11 yc12 yc13 tk qk ek go6 h6 tk6 tm6 F6' N6
        exact hcut.get
noncomputable def cut4 : Σ' P : Prop, (Cut P → cut3.1) := by
  refine' ⟨_, fun hcut => ?m⟩
  case m =>
    delta cut3
    refine openP ?_
    k_fill
    intro wz9 s₀z9 s₁z9 mgz9 mbz9 Gz9 Yz9 faz9 oz9 pmz9 docz9 hoz9 hgz9 KXz9 Xz9 Vz9 GLz9 Tz9 Bz9 TEz9 TWz9 ya1 ya2 Mz9 ya3 ya4 hcdz9 ya5 ya6 ya7 ya8 ya9 ya10 ya11 ya12 ya13 ya14 ya15 ya16 ya17 ya18 ya19 ya20 ya21 ya22 ya23 K0z9 hDz9 ya24 ya25 ya26 ya27 ya28 ya29 ya30 ya31 ya32 ya33 ya34 ya35 ya36 yb1 aKz ya37 ya38 ya39 ya40 ya41 ya42 ya43 ya44 ya45 ya46 yb2 ya47 ya48 ya49 ya50 ya51 ya52 ya53 ya54 ya55 ya56 ya57 ya58 ya59 ya60 ya61 ya62 ya63 ya64 sg1 ya65 ya66 ya67 ya68 ya69 ya70 ya71 ya72 ya73 ya74 ya75 ya76 ya77 ya78 ya79 ya80 ya81 ya82 ya83 ya84 l1z ya85 ya86 ya87 hI9 ya88 hlen hlen8 hall yb3 yb4 yb5 yb6 ya89 sg2 a0 c0 a1 c1 a2 c2 a3 c3 a4 c4 a5 c5 a6 c6 a7 c7 ya90 ya91 ya92 ya93 ya94 ya95 ya96 ya97 ya98 ya99 ya100 ya101 ya102 ya103 ya104 ya105 ya106 ya107 yb7 ya108 nw2 pcs mcs hp0 fst total tf tt v5 v4 v1 v0 hfst htot tk2 sg3 yb8 yb9 lK yb12 yb13 yb14 yb16 yb17 yb18 yb19 base vsM cM h3 tk3 nw3 N3 vc1 vsK cK sg4 yb20 F0z vsP cP yc1 ys yc2 yc3 yc4 yc5 F9 N9 yb21 yb22 nwN hdN yc6 yc7 mKz yb25 yb26 yb27 yb28 yb29 yb30 yb33 sg5 vsS cS g nw D h yc8 tr0 tr1 tr2 tr3 tr4 n0 hn0 hc0 n1 hn1 hc1 n2 hn2 hc2 n3 hn3 hc3 n4 hn4 hc4 hPh hMh hkh hKh hSh hch1 hch2 hch3 hch4 hRh sg6 yc9 yc10 yc11 yc12 yc13 tk qk ek go6 h6 tk6 tm6 F6' N6
    w_on
    w_top off
    have sg7 := trivial
    have hB : BigL _ _ _ _ _ pcs mcs vsK cK := ⟨hPh, hMh, hKh, hkh, hSh⟩
    clear hPh hMh hKh hkh hSh hRh
    dsimp only
    w_strict (repeat' (first
      | (k_unfold; (try dsimp only); (try clear qk); (try clear ek))
      | ((with_reducible show wpAny _ _ (exec _ _) _ _ _); k_fold; (try (rename Fr _ _ _ _ => F0z; revert F0z; show (let mKz := ?_; (Fr _ _ _ mKz → _)); intro mKz F0z)))
      | ((with_reducible show LCg.CompSrc ..); (with_reducible ((((with_reducible refine unstop ?_))))))
      | ((with_reducible show wpAny _ _ (eval (Expr.ListComp ..) _) _ _ _); (with_reducible ((((k_here; k_dflt (refine LCg.ListComp_U (F₀ := by k_asm) (by with_unfolding_all rfl) (by decide) (by rfl) (by decide) (by rfl) ?_)))))))
      | (k_end; wrow_close)
      | walk1
      | (leave1; (try dsimp only))
      | dsimp only))
    delta Stop
    rename News _ _ _ _ => Nq
    k_dflt refine LCg.CompSrc.range (n := 5) rfl (by k_asm) Nq (by assumption) (by decide) (by decide) (by decide) fun g => ?_
    refine comp_rest (JG IsDots _) ?_ ?_ 5 0 [] _ rfl (JG.nil _ _)
    · intro i ys nw' v I oI C oC D m₂ h tk E' hi9 hj9 hP hC hx F9 N9 off9 ne9
      obtain ⟨ti, rfl⟩ := hP
      clear Nq
      w_strict (repeat' (first
        | (k_unfold; (try dsimp only); (try clear qk); (try clear ek))
        | ((with_reducible show wpAny _ _ (exec _ _) _ _ _); k_fold; (try (rename Fr _ _ _ _ => F0z; revert F0z; show (let mKz := ?_; (Fr _ _ _ mKz → _)); intro mKz F0z)))
        | ((with_reducible show wpAny _ _ (binaryOp Operator.Mult (Value.str _ _) (Value.int _ _)) _ _ _); (with_reducible ((((k_dflt refine mul_dot (by lia) (by lia) (fun _ _ => ?_); try dsimp only))))))
        | ((with_reducible (((((with_reducible show wpAny _ _ (eval (Expr.Name _ _) (compEnvC _ _ _ _)) _ _ _); first | (k_dflt (refine lcf_free (by (k_asm)) (by (rfl)) (by ((repeat (first | with_reducible assumption | with_reducible exact List.mem_cons_self | with_reducible apply List.mem_cons_of_mem)))) (by (with_reducible assumption)) ?_ (by (rfl)) (by (rfl)))) | (k_dflt (refine lcf_cell (by (k_asm)) (by (rfl)) (by ((repeat (first | with_reducible assumption | with_reducible exact List.mem_cons_self | with_reducible apply List.mem_cons_of_mem)))) (by (with_reducible assumption)) ?_ (by (rfl)) (by (rfl)))) | (k_dflt refine LCgL.ld_own (by k_asm) (by k_mem) (by with_reducible assumption) (by with_reducible assumption) ?_) | (k_dflt (refine LCgL.ld_global (by (k_asm)) (by (k_asm)) (by (k_asm)) (by (k_is)) ?_)) | (k_dflt (refine LCgL.ld_built (by (k_asm)) (by (k_asm)) (by (k_asm)) (by (k_is)) (by (boot_by_name)) (by (decide)) ?_))))))))
        | ((with_reducible show LCg.CompEnd ..); (with_reducible ((((with_reducible refine unstop ?_))))))
        | (k_end; wrow_close)
        | walk1
        | (leave1; (try dsimp only))
        | dsimp only))
      delta Stop
      k_dflt exact comp_val (by k_asm) (by k_asm) (fun p9 hp9 => hp9) off9 trivial (hj9.next dots_of (fun _ _ h9 => h9) fun p hp => hp)
    · intro ys nw' hj9 D' h tk F9 N9 off9
      have hsb := lift_tail (x := (D', LCg.lst ys)) hj9.2.2
      show (let gKz : Prop := ?_; gKz)
      intro gKz
      obtain ⟨tr0, tr1, tr2, tr3, tr4, hys⟩ := hj9.dots
      k_unfold
      (try clear gKz)
      subst hys
      have hB1 := hB.up hsb
      have hcm1 := hsb _ hch1
      have hcm2 := hsb _ hch2
      have hcm3 := hsb _ hch3
      have hcm4 := hsb _ hch4
      clear hB hch1 hch2 hch3 hch4 hsb hj9 Nq off9
      dsimp only
      w_strict (repeat' (first
        | (k_unfold; (try dsimp only); (try clear qk); (try clear ek))
        | ((with_reducible show wpAny _ _ (exec _ _) _ _ _); k_fold; (try (rename Fr _ _ _ _ => F0z; revert F0z; show (let mKz := ?_; (Fr _ _ _ mKz → _)); intro mKz F0z)))
        | ((with_reducible (((((with_reducible show wpAny _ _ (eval (Expr.ListComp (Expr.BinOp _ Operator.Add _ _) _ _ _) _) _ _ _); k_here; k_dflt (refine wpAny_with_toks (n := 1) (show 1 ≤ _ + 1 from Nat.le_add_left _ _) ?_); k_dflt (refine LCg.ListComp_U (F₀ := by k_asm) (by with_unfolding_all rfl) (by decide) (by rfl) (by decide) (by rfl) ?_)))))))
        | ((with_reducible (((((with_reducible show wpAny _ _ (call (Value.ref _) [Value.ref _, Value.int _ _] _) _ _ _); k_dflt (refine Con.useN (by (k_asm)) (by (k_asm)) (by (k_asm)) (by (k_asm)) (by (k_asm)) (wants_con _ _ _ _ _ _ _ _ _ _ (by (with_reducible exact List.mem_cons_self)) (by (lia)) (by (lia))) rfl (by (ktr_room)) (by (ktr_units)) ?_); intro _ _ _ _ _ _ hp9z; obtain ⟨_, e1z, e2z⟩ := hp9z; subst e1z; subst e2z; try dsimp only))))))
        | ((with_reducible show LCg.CompSrc ..); (with_reducible ((((with_reducible refine unstop ?_))))))
        | (k_end; wrow_close)
        | walk1
        | (leave1; (try dsimp only))
        | dsimp only))
      delta Stop
      rename News _ _ _ _ => Nq
      k_dflt refine LCg.CompSrc.range (n := 5) rfl (by k_asm) Nq (by assumption) (by decide) (by decide) (by decide) fun g => ?_
      refine comp_rest (JG IsDotsN _) ?_ ?_ 5 0 [] _ rfl (JG.nil _ _)
      · intro i ys nw2' v I oI C oC D2 m₂ h tk E' hi9 hj9 hP hC hx F9 N9 off9 ne9
        obtain ⟨ti, rfl⟩ := hP
        clear Nq
        w_strict (repeat' (first
          | (k_unfold; (try dsimp only); (try clear qk); (try clear ek))
          | ((with_reducible show wpAny _ _ (exec _ _) _ _ _); k_fold; (try (rename Fr _ _ _ _ => F0z; revert F0z; show (let mKz := ?_; (Fr _ _ _ mKz → _)); intro mKz F0z)))
          | ((with_reducible show wpAny _ _ (binaryOp Operator.Add (Value.str _ _) (Value.str _ _)) _ _ _); (with_reducible ((((k_dflt refine add_nl (by with_reducible assumption) (fun _ _ => ?_); try dsimp only))))))
          | ((with_reducible show wpAny _ _ (binaryOp Operator.Mult (Value.str _ _) (Value.int _ _)) _ _ _); (with_reducible ((((k_dflt refine mul_dot (by lia) (by lia) (fun _ _ => ?_); try dsimp only))))))
          | ((with_reducible (((((with_reducible show wpAny _ _ (eval (Expr.Name _ _) (compEnvC _ _ _ _)) _ _ _); first | (k_dflt (refine lcf_free (by (k_asm)) (by (rfl)) (by ((repeat (first | with_reducible assumption | with_reducible exact List.mem_cons_self | with_reducible apply List.mem_cons_of_mem)))) (by (with_reducible assumption)) ?_ (by (rfl)) (by (rfl)))) | (k_dflt (refine lcf_cell (by (k_asm)) (by (rfl)) (by ((repeat (first | with_reducible assumption | with_reducible exact List.mem_cons_self | with_reducible apply List.mem_cons_of_mem)))) (by (with_reducible assumption)) ?_ (by (rfl)) (by (rfl)))) | (k_dflt refine LCgL.ld_own (by k_asm) (by k_mem) (by with_reducible assumption) (by with_reducible assumption) ?_) | (k_dflt (refine LCgL.ld_global (by (k_asm)) (by (k_asm)) (by (k_asm)) (by (k_is)) ?_)) | (k_dflt (refine LCgL.ld_built (by (k_asm)) (by (k_asm)) (by (k_asm)) (by (k_is)) (by (boot_by_name)) (by (decide)) ?_))))))))
          | ((with_reducible show LCg.CompEnd ..); (with_reducible ((((with_reducible refine unstop ?_))))))
          | (k_end; wrow_close)
          | walk1
          | (leave1; (try dsimp only))
          | dsimp only))
        delta Stop
        k_dflt exact comp_val (by k_asm) (by k_asm) (fun p9 hp9 => hp9) off9 trivial (hj9.next ⟨_, rfl⟩ (fun _ _ h9 => h9) fun p hp => hp)
      · intro ys nw2' hj9 D2 h tk F9 N9 off9
        have hsb := lift_tail (x := (D2, LCg.lst ys)) hj9.2.2
        show (let gKz : Prop := ?_; gKz)
        intro gKz
        obtain ⟨ts0, ts1, ts2, ts3, ts4, hys⟩ := hj9.dotsN
        k_unfold
        (try clear gKz)
        subst hys
        have hB2 := hB1.up hsb
        have hco1 := hsb _ hcm1
        have hco2 := hsb _ hcm2
        have hco3 := hsb _ hcm3
        have hco4 := hsb _ hcm4
        clear hB1 hcm1 hcm2 hcm3 hcm4 hsb hj9 Nq off9
        dsimp only
        intro htk2
        w_strict (repeat' (first
          | (k_unfold; (try dsimp only); (try clear qk); (try clear ek))
          | ((with_reducible show wpAny _ _ (exec _ _) _ _ _); k_fold; (try (rename Fr _ _ _ _ => F0z; revert F0z; show (let mKz := ?_; (Fr _ _ _ mKz → _)); intro mKz F0z)))
          | ((with_reducible show wpAny _ _ (call (Value.builtin "str.replace") _ _) _ _ _); (with_reducible ((((with_reducible refine unstop ?_))))))
          | ((with_reducible show wpAny _ _ (call (Value.builtin "str.join") _ _) _ _ _); (with_reducible ((((k_dflt refine join_wantsK (by with_reducible assumption) (by k_asm) (by (repeat (first | assumption | exact List.mem_cons_self | apply List.mem_cons_of_mem))) (fun _ _ _ => ?_); try dsimp only))))))
          | ((with_reducible show wpAny _ _ (compareOp CmpOp.NotEq (Value.str _ _) (Value.str _ _)) _ _ _); (with_reducible ((((k_dflt refine ne_same (by rfl) ?_))))))
          | (k_end; wrow_close)
          | walk1
          | (leave1; (try dsimp only))
          | dsimp only))
        rename_i yd1 yd2 yd3 yd4 yd5 yd6 yd7 yd8 yd9 yd10 yd11 yd12 yd13 yd14 yd15 yd16 yd17 yd18 yd19 yd20 yd21 yd22 yd23 yd24 yd25 yd26 yd27 yd28 yd29 yd30 yd31 yd32 yd33 yd34 yd35 yd36 yd37 yd38 yd39 yd40 yd41 yd42 yd43
        revert wz9 s₀z9 s₁z9 mgz9 mbz9 Gz9 Yz9 faz9 oz9 pmz9 docz9 hoz9 hgz9 KXz9 Xz9 Vz9 GLz9 Tz9 Bz9 TEz9 TWz9 ya1 ya2 Mz9 ya3 ya4 hcdz9 ya5 ya6 ya7 ya8 ya9 ya10 ya11 ya12 ya13 ya14 ya15 ya16 ya17 ya18 ya19 ya20 ya21 ya22 ya23 K0z9 hDz9 ya24 ya25 ya26 ya27 ya28 ya29 ya30 ya31 ya32 ya33 ya34 ya35 ya36 yb1 aKz ya37 ya38 ya39 ya40 ya41 ya42 ya43 ya44 ya45 ya46 yb2 ya47 ya48 ya49 ya50 ya51 ya52 ya53 ya54 ya55 ya56 ya57 ya58 ya59 ya60 ya61 ya62 ya63 ya64 sg1 ya65 ya66 ya67 ya68 ya69 ya70 ya71 ya72 ya73 ya74 ya75 ya76 ya77 ya78 ya79 ya80 ya81 ya82 ya83 ya84 l1z ya85 ya86 ya87 hI9 ya88 hlen hlen8 hall yb3 yb4 yb5 yb6 ya89 sg2 a0 c0 a1 c1 a2 c2 a3 c3 a4 c4 a5 c5 a6 c6 a7 c7 ya90 ya91 ya92 ya93 ya94 ya95 ya96 ya97 ya98 ya99 ya100 ya101 ya102 ya103 ya104 ya105 ya106 ya107 yb7 ya108 nw2 pcs mcs hp0 fst total tf tt v5 v4 v1 v0 hfst htot tk2 sg3 yb8 yb9 lK yb12 yb13 yb14 yb16 yb17 yb18 yb19 base vsM cM h3 tk3 nw3 N3 vc1 vsK cK sg4 yb20 yd1 vsP cP yc1 ys yc2 yc3 yc4 yc5 F9 yd2 yb21 yb22 nwN hdN yc6 yc7 yd3 yb25 yb26 yb27 yb28 yb29 yb30 yb33 sg5 vsS cS yd4 nw D yd5 yc8 yd6 yd7 yd8 yd9 yd10 n0 hn0 hc0 n1 hn1 hc1 n2 hn2 hc2 n3 hn3 hc3 n4 hn4 hc4 sg6 yc9 yc10 yc11 yc12 yd11 yd12 yd13 go6 h6 tk6 tm6 sg7 yd14 yd15 yd16 yd17 yd18 yd19 yd20 yd21 yd22 nw' D' yd23 yd24 tr0 tr1 tr2 tr3 tr4 yd25 yd26 yd27 yd28 yd29 yd30 yd31 yd32 yd33 yd34 yd35 yd36 yd37 yd38 yd39 yd40 g nw2' D2 h tk ts0 ts1 ts2 ts3 ts4 N9 hB2 hco1 hco2 hco3 hco4 htk2 yd41 yd42 yd43 qk ek mKz F0z
        exact hcut.get
noncomputable def cut5 : Σ' P : Prop, (Cut P → cut4.1) := by
  refine' ⟨_, fun hcut => ?m⟩
  case m =>
    delta cut4
    refine openP ?_
    k_fill
    intro wz9 s₀z9 s₁z9 mgz9 mbz9 Gz9 Yz9 faz9 oz9 pmz9 docz9 hoz9 hgz9 KXz9 Xz9 Vz9 GLz9 Tz9 Bz9 TEz9 TWz9 ya1 ya2 Mz9 ya3 ya4 hcdz9 ya5 ya6 ya7 ya8 ya9 ya10 ya11 ya12 ya13 ya14 ya15 ya16 ya17 ya18 ya19 ya20 ya21 ya22 ya23 K0z9 hDz9 ya24 ya25 ya26 ya27 ya28 ya29 ya30 ya31 ya32 ya33 ya34 ya35 ya36 yb1 aKz ya37 ya38 ya39 ya40 ya41 ya42 ya43 ya44 ya45 ya46 yb2 ya47 ya48 ya49 ya50 ya51 ya52 ya53 ya54 ya55 ya56 ya57 ya58 ya59 ya60 ya61 ya62 ya63 ya64 sg1 ya65 ya66 ya67 ya68 ya69 ya70 ya71 ya72 ya73 ya74 ya75 ya76 ya77 ya78 ya79 ya80 ya81 ya82 ya83 ya84 l1z ya85 ya86 ya87 hI9 ya88 hlen hlen8 hall yb3 yb4 yb5 yb6 ya89 sg2 a0 c0 a1 c1 a2 c2 a3 c3 a4 c4 a5 c5 a6 c6 a7 c7 ya90 ya91 ya92 ya93 ya94 ya95 ya96 ya97 ya98 ya99 ya100 ya101 ya102 ya103 ya104 ya105 ya106 ya107 yb7 ya108 nw2 pcs mcs hp0 fst total tf tt v5 v4 v1 v0 hfst htot tk2 sg3 yb8 yb9 lK yb12 yb13 yb14 yb16 yb17 yb18 yb19 base vsM cM h3 tk3 nw3 N3 vc1 vsK cK sg4 yb20 yd1 vsP cP yc1 ys yc2 yc3 yc4 yc5 F9 yd2 yb21 yb22 nwN hdN yc6 yc7 yd3 yb25 yb26 yb27 yb28 yb29 yb30 yb33 sg5 vsS cS yd4 nw D yd5 yc8 yd6 yd7 yd8 yd9 yd10 n0 hn0 hc0 n1 hn1 hc1 n2 hn2 hc2 n3 hn3 hc3 n4 hn4 hc4 sg6 yc9 yc10 yc11 yc12 yd11 yd12 yd13 go6 h6 tk6 tm6 sg7 yd14 yd15 yd16 yd17 yd18 yd19 yd20 yd21 yd22 nw' D' yd23 yd24 tr0 tr1 tr2 tr3 tr4 yd25 yd26 yd27 yd28 yd29 yd30 yd31 yd32 yd33 yd34 yd35 yd36 yd37 yd38 yd39 yd40 g nw2' D2 h tk ts0 ts1 ts2 ts3 ts4 N9 hB2 hco1 hco2 hco3 hco4 htk2 yd41 yd42 yd43 qk ek mKz F0z
    w_on
    w_top off
    have sg8 := trivial
    delta Stop
    have hml : (textL 46 [(1 + n0 + 1 + (total % 2).toNat, 0), (1 + n1 + 1 + (total % 2).toNat, 1), (1 + n2 + 1 + (total % 2).toNat, 2), (1 + n3 + 1 + (total % 2).toNat, 3), (1 + n4 + 1 + (total % 2).toNat, 4)]).length ≤ 200 := by
      have := textL_len 46 [(1 + n0 + 1 + (total % 2).toNat, 0), (1 + n1 + 1 + (total % 2).toNat, 1), (1 + n2 + 1 + (total % 2).toNat, 2), (1 + n3 + 1 + (total % 2).toNat, 3), (1 + n4 + 1 + (total % 2).toNat, 4)] (by simp; lia)
      simp at this ⊢; lia
    w_strict (repeat' (first
      | (k_unfold; (try dsimp only); (try clear qk); (try clear ek))
      | ((with_reducible show wpAny _ _ (exec _ _) _ _ _); k_fold; (try (rename Fr _ _ _ _ => F0z; revert F0z; show (let mKz := ?_; (Fr _ _ _ mKz → _)); intro mKz F0z)))
      | ((with_reducible show wpAny _ _ (execs (_ :: _) _) _ _ _); (with_reducible (((((have h9 := htk8); clear h9; (with_reducible refine wpAny_execs_cons ?_); try dsimp only))))))
      | ((with_reducible show _ → _); (with_reducible ((((intro htk8; (try dsimp only at htk8)))))))
      | ((with_reducible show wpAny _ _ (call (Value.builtin "str.replace") _ _) _ _ _); (with_reducible (((first | (k_dflt refine rep_wants (by with_reducible assumption) (by rfl) (fun t9z k9z => ?_); try dsimp only) | ((fail_if_success (have h9 := go8)); with_reducible refine unstop ?_) | (k_dflt refine rep_mail (by first | with_reducible assumption | exact Nat.le_add_left _ _) (by rfl) (by with_reducible assumption) (fun t9z k9z => ?_); try dsimp only))))))
      | ((with_reducible show wpAny _ _ (subscriptTail (Expr.Call ..) (Expr.Slice ..) (Value.ref _) (Value.ref _)) _ _ _); (with_reducible (((fail_if_success (have h9 := tk42)); (have tk42 := trivial); k_dflt (refine wpAny_with_toks (n := 1) (by exact Nat.le_add_left _ _) ?_)))))
      | ((with_reducible show wpAny _ _ (call (Value.builtin "str.split") _ _) _ _ _); (with_reducible ((((k_dflt refine split_six (by k_asm) (by k_asm) ?_; intro _ _ _ _ _ _ _ _ _ _ _ _; try dsimp only))))))
      | ((with_reducible show wpAny _ _ (storeName _ _ (Value.ref _)) _ _ _); (with_reducible ((((k_dflt (refine IsCell.store (by (k_asm)) (by (k_asm)) (by (rfl)) (by ((repeat (first | with_reducible assumption | with_reducible exact List.mem_cons_self | with_reducible apply List.mem_cons_of_mem)))) (by (with_reducible assumption)) ?_ (by (rfl)) (by (rfl))); intro _ _ nwN _ _ hcN hdN upA upB; try dsimp only))))))
      | (k_end; wrow_close)
      | walk1
      | (leave1; (try dsimp only))
      | dsimp only))
    delta Stop
    have go8 := trivial
    have hncB := fun p9 (hp9 : p9 ∈ (D2, _) :: nw2') (hn9 : NoCell p9.2) => upB p9 (.tail _ (.tail _ hp9)) (fun e9 => hn9 _ (by rw [e9]; with_reducible assumption))
    have hB3 := hB2.upS hncB
    have hcp1 := upA _ (.tail _ (.tail _ hco1)) (by show Nat.succ _ ≠ Nat.succ _; lia)
    have hcp2 := upA _ (.tail _ (.tail _ hco2)) (by show Nat.succ _ ≠ Nat.succ _; lia)
    have hcp4 := upA _ (.tail _ (.tail _ hco4)) (by show Nat.succ _ ≠ Nat.succ _; lia)
    have hPc : PiecesIn nwN _ := ⟨_, _, _, _, _, _, upB _ (.head _) (fun e9 => nocell_list _ _ _ ((congrArg Obj.data e9).trans (by with_reducible assumption)))⟩
    have hcp3 := hcN
    have hdp3 := hdN
    clear hB2 hco1 hco2 hco3 hco4 hncB upA upB
    w_strict (repeat' (first
      | (k_unfold; (try dsimp only); (try clear qk); (try clear ek))
      | ((with_reducible show wpAny _ _ (exec _ _) _ _ _); k_fold; (try (rename Fr _ _ _ _ => F0z; revert F0z; show (let mKz := ?_; (Fr _ _ _ mKz → _)); intro mKz F0z)))
      | ((with_reducible show wpAny _ _ (execs (_ :: _) _) _ _ _); (with_reducible (((((have h9 := htk8); clear h9; (with_reducible refine wpAny_execs_cons ?_); try dsimp only))))))
      | ((with_reducible (((((with_reducible show wpAny _ _ (exec (Stmt.Assign [Expr.Name (Str.ofString "joins") _] _ _) _) _ _ _); with_reducible refine unstop ?_))))))
      | ((with_reducible show wpAny _ _ (storeName _ _ (Value.str _ _)) _ _ _); (with_reducible ((((k_dflt (refine IsCell.store (by (k_asm)) (by (k_asm)) (by (rfl)) (by ((repeat (first | with_reducible assumption | with_reducible exact List.mem_cons_self | with_reducible apply List.mem_cons_of_mem)))) (by (with_reducible assumption)) ?_ (by (rfl)) (by (rfl))); intro _ _ nwN _ _ hcN hdN upA upB; try dsimp only))))))
      | ((with_reducible show wpAny _ _ (call (Value.builtin "str.replace") _ _) _ _ _); (with_reducible (((first | (k_dflt refine rep_wants (by with_reducible assumption) (by rfl) (fun t9z k9z => ?_); try dsimp only) | ((fail_if_success (have h9 := go8)); with_reducible refine unstop ?_) | (k_dflt refine rep_mail (by first | with_reducible assumption | exact Nat.le_add_left _ _) (by rfl) (by with_reducible assumption) (fun t9z k9z => ?_); try dsimp only))))))
      | (k_end; wrow_close)
      | walk1
      | (leave1; (try dsimp only))
      | dsimp only))
    delta Stop
    have hncC := fun p9 (hp9 : p9 ∈ _) (hn9 : NoCell p9.2) => upB p9 hp9 (fun e9 => hn9 _ (by rw [e9]; with_reducible assumption))
    have hB4 := hB3.upS hncC
    have hPd := hPc.upS hncC
    have hcq1 := upA _ hcp1 (by show Nat.succ _ ≠ Nat.succ _; lia)
    have hcq2 := upA _ hcp2 (by show Nat.succ _ ≠ Nat.succ _; lia)
    have hcq3 := upA _ hcp3 (by show Nat.succ _ ≠ Nat.succ _; lia)
    clear hB3 hPc hcp1 hcp2 hcp3 hcp4 hncC upA upB htk8
    have sg9 := trivial
    k_dflt refine Assign_cell (F₀ := by k_asm) (by rfl) (by with_unfolding_all rfl) (by with_unfolding_all rfl) (by rfl) (by rfl) (by decide) (fun C9 cl9 => by rfl) (by rfl) (by rfl) ?_
    w_strict (repeat' (first
      | (k_unfold; (try dsimp only); (try clear qk); (try clear ek))
      | ((with_reducible show wpAny _ _ (exec _ _) _ _ _); k_fold; (try (rename Fr _ _ _ _ => F0z; revert F0z; show (let mKz := ?_; (Fr _ _ _ mKz → _)); intro mKz F0z)))
      | (k_end; wrow_close)
      | walk1
      | (leave1; (try dsimp only))
      | dsimp only))
    rename News _ _ _ _ => Nj
    refine ⟨_, _, _, 5, JG (IsJRow (fun k j => isIn (mmS j k) ⟨(textL 33 [(1 + n0 + 1 + (total % 2).toNat, 0), (1 + n1 + 1 + (total % 2).toNat, 1), (1 + n2 + 1 + (total % 2).toNat, 2), (1 + n3 + 1 + (total % 2).toNat, 3), (1 + n4 + 1 + (total % 2).toNat, 4)]).toArray⟩)) _, rfl, rfl, by k_asm, Nj, by decide +kernel, by decide +kernel, by decide, JG.nil _ _, ?_⟩
    rintro s₂ ⟨hx9, rfl⟩
    refine ⟨?_, ?_⟩
    · intro i ys nw v I oI cc oc C oC D h tk E' hi9 hj9 hP hdc F9 N9 off9 ne9
      obtain ⟨c9, u9, hc9, rfl⟩ := hP
      rw [let_of hi9 hc9] at hdc
      have hsb := hj9.2.2
      have hcr3 := hsb _ hcq3
      have hcr4 := hsb _ hcN
      have hPr := hPd.upS fun p9 hp9 _ => hsb p9 hp9
      clear Nj
      w_strict (repeat' (first
        | (k_unfold; (try dsimp only); (try clear qk); (try clear ek))
        | ((with_reducible show wpAny _ _ (exec _ _) _ _ _); k_fold; (try (rename Fr _ _ _ _ => F0z; revert F0z; show (let mKz := ?_; (Fr _ _ _ mKz → _)); intro mKz F0z)))
        | ((with_reducible (((((with_reducible show wpAny _ _ (eval (Expr.Name _ _) (compEnvC _ _ _ _)) _ _ _); first | (k_dflt (refine lcf_free (by (k_asm)) (by (rfl)) (by ((repeat (first | with_reducible assumption | with_reducible exact List.mem_cons_self | with_reducible apply List.mem_cons_of_mem)))) (by (with_reducible assumption)) ?_ (by (rfl)) (by (rfl)))) | (k_dflt (refine lcf_cell (by (k_asm)) (by (rfl)) (by ((repeat (first | with_reducible assumption | with_reducible exact List.mem_cons_self | with_reducible apply List.mem_cons_of_mem)))) (by (with_reducible assumption)) ?_ (by (rfl)) (by (rfl)))) | (k_dflt refine LCgL.ld_own (by k_asm) (by k_mem) (by with_reducible assumption) (by with_reducible assumption) ?_) | (k_dflt (refine LCgL.ld_global (by (k_asm)) (by (k_asm)) (by (k_asm)) (by (k_is)) ?_)) | (k_dflt (refine LCgL.ld_built (by (k_asm)) (by (k_asm)) (by (k_asm)) (by (k_is)) (by (boot_by_name)) (by (decide)) ?_))))))))
        | ((with_reducible show LCg.CompSrc ..); (with_reducible ((((with_reducible refine unstop ?_))))))
        | ((with_reducible show wpAny _ _ (eval (Expr.ListComp ..) _) _ _ _); (with_reducible ((((k_here; k_dflt (refine LCg.ListComp_U (F₀ := by k_asm) (by with_unfolding_all rfl) (by decide) (by rfl) (by decide) (by rfl) ?_)))))))
        | (k_end; wrow_close)
        | walk1
        | (leave1; (try dsimp only))
        | dsimp only))
      delta Stop
      show (let gKz : Prop := ?_; gKz)
      intro gKz
      obtain ⟨tp0, tp1, tp2, tp3, tp4, cP9, hPr⟩ := hPr
      k_unfold
      (try clear gKz)
      k_dflt refine src_n (n := 5) rfl (by decide) rfl (by k_asm) (by k_asm) (.tail _ (.tail _ (.tail _ (.tail _ hPr)))) fun g => ?_
      refine comp_rest (JG (IsB (fun j => isIn (mmS j i) ⟨(textL 33 [(1 + n0 + 1 + (total % 2).toNat, 0), (1 + n1 + 1 + (total % 2).toNat, 1), (1 + n2 + 1 + (total % 2).toNat, 2), (1 + n3 + 1 + (total % 2).toNat, 3), (1 + n4 + 1 + (total % 2).toNat, 4)]).toArray⟩)) _) ?_ ?_ 5 0 [] _ rfl (JG.nil _ _)
      · intro j zs nw2 v2 I2 oI2 C2 oC2 D2 m2 h2 tk2 E2 hj9' hj2 hP2 hC2 hx2 F2' N2 off2 ne2
        obtain ⟨tp9, rfl⟩ := piece_at hj9' hP2
        have hcs := hj2.2.2 _ (.tail _ (.head _))
        have hcs4 := hj2.2.2 _ (.tail _ (.tail _ (.tail _ (.tail _ hcr4))))
        clear N9
        w_strict (repeat' (first
          | (k_unfold; (try dsimp only); (try clear qk); (try clear ek))
          | ((with_reducible show wpAny _ _ (exec _ _) _ _ _); k_fold; (try (rename Fr _ _ _ _ => F0z; revert F0z; show (let mKz := ?_; (Fr _ _ _ mKz → _)); intro mKz F0z)))
          | ((with_reducible (((((with_reducible show wpAny _ _ (call (Value.ref _) [Value.str _ _, Value.str _ _] _) _ _ _); k_dflt (refine Con.useN (by (k_asm)) (by (k_asm)) (by (k_asm)) (by (k_asm)) (by (k_asm)) (ellJ_con (by (with_reducible assumption)) (by (with_reducible assumption)) _ _ _ _ (by (exact text33_len (by lia) (by lia) (by lia) (by lia) (by lia) (by lia)))) rfl (by (ktr_room)) (by (ktr_units)) ?_); intro _ _ _ _ _ _ hp9z; obtain ⟨e1z, e2z⟩ := hp9z; subst e1z; subst e2z; try dsimp only))))))
          | ((with_reducible show wpAny _ _ (binaryOp Operator.Add (Value.str _ _) (Value.str _ _)) _ _ _); (with_reducible (((((first | (with_reducible refine ell1 (by with_reducible assumption) (fun t9z k9z => ?_)) | (with_reducible refine ell2 (by with_reducible assumption) (fun t9z k9z => ?_)) | (with_reducible refine ell3 (by with_reducible assumption) (fun t9z k9z => ?_))); try dsimp only))))))
          | ((with_reducible (((((with_reducible show wpAny _ _ (eval (Expr.Name _ _) (compEnvC _ _ _ _)) _ _ _); first | (k_dflt (refine lcf_free (by (k_asm)) (by (rfl)) (by ((repeat (first | with_reducible assumption | with_reducible exact List.mem_cons_self | with_reducible apply List.mem_cons_of_mem)))) (by (with_reducible assumption)) ?_ (by (rfl)) (by (rfl)))) | (k_dflt (refine lcf_cell (by (k_asm)) (by (rfl)) (by ((repeat (first | with_reducible assumption | with_reducible exact List.mem_cons_self | with_reducible apply List.mem_cons_of_mem)))) (by (with_reducible assumption)) ?_ (by (rfl)) (by (rfl)))) | (k_dflt refine LCgL.ld_own (by k_asm) (by k_mem) (by with_reducible assumption) (by with_reducible assumption) ?_) | (k_dflt (refine LCgL.ld_global (by (k_asm)) (by (k_asm)) (by (k_asm)) (by (k_is)) ?_)) | (k_dflt (refine LCgL.ld_built (by (k_asm)) (by (k_asm)) (by (k_asm)) (by (k_is)) (by (boot_by_name)) (by (decide)) ?_))))))))
          | ((with_reducible show LCg.CompEnd ..); (with_reducible ((((with_reducible refine unstop ?_))))))
          | (k_end; wrow_close)
          | walk1
          | (leave1; (try dsimp only))
          | dsimp only))
        delta Stop
        k_dflt exact comp_val (by k_asm) (by k_asm) (fun p9 hp9 => hp9) off2 (.inr ⟨_, hj2.2.2 _ (.tail _ (.tail _ (.tail _ (.tail _ hPr)))), rfl, _, rfl⟩) (hj2.next rfl (fun _ _ h9 => h9) fun p hp => hp)
      · intro zs nw2 hj2 D2 h2 tk2 F2' N2 off2
        exact cell_turn F2' N2 off9 off2 hj9 hj2
    · intro ys nw hj9 D h tk F9 N9 off9
      have hsb := lift_tail (x := (D, LCg.lst ys)) hj9.2.2
      have hB5 := hB4.up hsb
      have hct1 := hsb _ hcq1
      have hct2 := hsb _ hcq2
      have hJ5 := bools_of (D := D) hj9
      clear hB4 hcq1 hcq2 hcq3 hcN hPd hsb hj9 off9 Nj
      dsimp only
      rename_i ye1 ye2 ye3 ye4 ye5 ye6 ye7 ye8 ye9 ye10 ye11 ye12 ye13 ye14 ye15 ye16 ye17 ye18 ye19 ye20 ye21 ye22 ye23 ye24 ye25 ye26 ye27 ye28 ye29 ye30 ye31 ye32 ye33 ye34 ye35
      revert wz9 s₀z9 s₁z9 mgz9 mbz9 Gz9 Yz9 faz9 oz9 pmz9 docz9 hoz9 hgz9 KXz9 Xz9 Vz9 GLz9 Tz9 Bz9 TEz9 TWz9 ya1 ya2 Mz9 ya3 ya4 hcdz9 ya5 ya6 ya7 ya8 ya9 ya10 ya11 ya12 ya13 ya14 ya15 ya16 ya17 ya18 ya19 ya20 ya21 ya22 ya23 K0z9 hDz9 ya24 ya25 ya26 ya27 ya28 ya29 ya30 ya31 ya32 ya33 ya34 ya35 ya36 yb1 aKz ya37 ya38 ya39 ya40 ya41 ya42 ya43 ya44 ya45 ya46 yb2 ya47 ya48 ya49 ya50 ya51 ya52 ya53 ya54 ya55 ya56 ya57 ya58 ya59 ya60 ya61 ya62 ya63 ya64 sg1 ya65 ya66 ya67 ya68 ya69 ya70 ya71 ya72 ya73 ya74 ya75 ya76 ya77 ya78 ya79 ya80 ya81 ya82 ya83 ya84 l1z ya85 ya86 ya87 hI9 ya88 hlen hlen8 hall yb3 yb4 yb5 yb6 ya89 sg2 a0 c0 a1 c1 a2 c2 a3 c3 a4 c4 a5 c5 a6 c6 a7 c7 ya90 ya91 ya92 ya93 ya94 ya95 ya96 ya97 ya98 ya99 ya100 ya101 ya102 ya103 ya104 ya105 ya106 ya107 yb7 ya108 nw2 pcs mcs hp0 fst total tf tt v5 v4 v1 v0 hfst htot tk2 sg3 yb8 yb9 lK yb12 yb13 yb14 yb16 yb17 yb18 yb19 base vsM cM h3 tk3 nw3 N3 vc1 vsK cK sg4 yb20 yd1 vsP cP yc1 ye1 yc2 yc3 yc4 yc5 ye2 yd2 yb21 yb22 ye3 ye4 yc6 yc7 yd3 yb25 yb26 yb27 yb28 yb29 yb30 yb33 sg5 vsS cS yd4 ye5 ye6 yd5 yc8 yd6 yd7 yd8 yd9 yd10 n0 hn0 hc0 n1 hn1 hc1 n2 hn2 hc2 n3 hn3 hc3 n4 hn4 hc4 sg6 yc9 yc10 yc11 yc12 yd11 yd12 yd13 go6 h6 tk6 tm6 sg7 yd14 yd15 yd16 yd17 yd18 yd19 yd20 yd21 yd22 nw' D' yd23 yd24 tr0 tr1 tr2 tr3 tr4 yd25 yd26 yd27 yd28 yd30 yd31 yd33 yd34 yd35 yd36 yd37 yd38 yd40 g nw2' D2 ye7 ye8 ts0 ts1 ts2 ts3 ts4 htk2 yd41 yd42 yd43 ye9 sg8 hml ye10 ye11 ye12 ye13 ye14 ye15 ye16 ye17 ye18 ye19 ye20 ye21 tk42 ye22 ye23 ye24 ye25 ye26 ye27 ye28 ye29 ye30 hcN ye31 ye32 ye33 go8 hdp3 t9z k9z ye34 ye35 nwN hdN qk ek mKz F0z sg9 hx9 ys nw D h tk F9 N9 hB5 hct1 hct2 hJ5
      exact hcut.get
noncomputable def cut6 : Σ' P : Prop, (Cut P → cut5.1) := by
  refine' ⟨_, fun hcut => ?m⟩
  case m =>
    delta cut5
    refine openP ?_
    k_fill
    intro wz9 s₀z9 s₁z9 mgz9 mbz9 Gz9 Yz9 faz9 oz9 pmz9 docz9 hoz9 hgz9 KXz9 Xz9 Vz9 GLz9 Tz9 Bz9 TEz9 TWz9 ya1 ya2 Mz9 ya3 ya4 hcdz9 ya5 ya6 ya7 ya8 ya9 ya10 ya11 ya12 ya13 ya14 ya15 ya16 ya17 ya18 ya19 ya20 ya21 ya22 ya23 K0z9 hDz9 ya24 ya25 ya26 ya27 ya28 ya29 ya30 ya31 ya32 ya33 ya34 ya35 ya36 yb1 aKz ya37 ya38 ya39 ya40 ya41 ya42 ya43 ya44 ya45 ya46 yb2 ya47 ya48 ya49 ya50 ya51 ya52 ya53 ya54 ya55 ya56 ya57 ya58 ya59 ya60 ya61 ya62 ya63 ya64 sg1 ya65 ya66 ya67 ya68 ya69 ya70 ya71 ya72 ya73 ya74 ya75 ya76 ya77 ya78 ya79 ya80 ya81 ya82 ya83 ya84 l1z ya85 ya86 ya87 hI9 ya88 hlen hlen8 hall yb3 yb4 yb5 yb6 ya89 sg2 a0 c0 a1 c1 a2 c2 a3 c3 a4 c4 a5 c5 a6 c6 a7 c7 ya90 ya91 ya92 ya93 ya94 ya95 ya96 ya97 ya98 ya99 ya100 ya101 ya102 ya103 ya104 ya105 ya106 ya107 yb7 ya108 nw2 pcs mcs hp0 fst total tf tt v5 v4 v1 v0 hfst htot tk2 sg3 yb8 yb9 lK yb12 yb13 yb14 yb16 yb17 yb18 yb19 base vsM cM h3 tk3 nw3 N3 vc1 vsK cK sg4 yb20 yd1 vsP cP yc1 ye1 yc2 yc3 yc4 yc5 ye2 yd2 yb21 yb22 ye3 ye4 yc6 yc7 yd3 yb25 yb26 yb27 yb28 yb29 yb30 yb33 sg5 vsS cS yd4 ye5 ye6 yd5 yc8 yd6 yd7 yd8 yd9 yd10 n0 hn0 hc0 n1 hn1 hc1 n2 hn2 hc2 n3 hn3 hc3 n4 hn4 hc4 sg6 yc9 yc10 yc11 yc12 yd11 yd12 yd13 go6 h6 tk6 tm6 sg7 yd14 yd15 yd16 yd17 yd18 yd19 yd20 yd21 yd22 nw' D' yd23 yd24 tr0 tr1 tr2 tr3 tr4 yd25 yd26 yd27 yd28 yd30 yd31 yd33 yd34 yd35 yd36 yd37 yd38 yd40 g nw2' D2 ye7 ye8 ts0 ts1 ts2 ts3 ts4 htk2 yd41 yd42 yd43 ye9 sg8 hml ye10 ye11 ye12 ye13 ye14 ye15 ye16 ye17 ye18 ye19 ye20 ye21 tk42 ye22 ye23 ye24 ye25 ye26 ye27 ye28 ye29 ye30 hcN ye31 ye32 ye33 go8 hdp3 t9z k9z ye34 ye35 nwN hdN qk ek mKz F0z sg9 hx9 ys nw D h tk F9 N9 hB5 hct1 hct2 hJ5
    w_on
    w_top off
    have sg10 := trivial
    w_strict (repeat' (first
      | (k_unfold; (try dsimp only); (try clear qk); (try clear ek))
      | ((with_reducible show wpAny _ _ (exec _ _) _ _ _); k_fold; (try (rename Fr _ _ _ _ => F0z; revert F0z; show (let mKz := ?_; (Fr _ _ _ mKz → _)); intro mKz F0z)))
      | ((with_reducible show wpAny _ _ (exec (Stmt.For (Expr.Name ..) (Expr.Name ..) (_ :: _) [] _) _) _ _ _); (with_reducible (((((rename Fr _ _ _ _ => lF'z); (with_unfolding_all refine For_invVF lF'z (by (exact rfl)) (by (exact rfl)) ?_)))))))
      | ((with_reducible show wpAny _ _ (pyIter (Value.ref _)) _ _ _); (with_reducible ((((with_reducible refine unstop ?_))))))
      | (k_end; wrow_close)
      | walk1
      | (leave1; (try dsimp only))
      | dsimp only))
    delta Stop
    show (let gKz : Prop := ?_; gKz)
    intro gKz
    obtain ⟨vsJ, cJ, hJm, hJl, hJk⟩ := id hJ5
    k_unfold
    (try clear gKz)
    k_dflt refine list_T vsJ (fun _ m => Agree [Str.ofString "line"] m _) (fun _ nw9 => ∀ p ∈ (D, LCg.lst ys) :: nw, p ∈ nw9) hJl rfl (by k_asm) (by k_asm) (fun p hp => hp) (fun i9 nw9 hj9 => hj9 _ hJm) (Agree.refl _) (fun p hp => hp) ?_ ?_
    · intro I1 i1 v1' m1 h1 tk1 nw1 it1 hv1 hm1 hj1 hI1 hit1 F1 N1
      obtain ⟨vc1, rfl⟩ := hm1.form1
      have hi5 : (i1 : Int) < 5 := by have := (List.getElem?_eq_some_iff.mp hv1).1; lia
      show (let gKz : Prop := ?_; gKz)
      intro gKz
      obtain ⟨aw, ws, dw, ew, hwm, hwl, hwb⟩ := hJk i1 (by lia) hi5
      k_unfold
      (try clear gKz)
      rw [Int.toNat_natCast] at ew
      obtain rfl : v1' = .ref aw := Option.some.inj (hv1.symm.trans ew)
      have hwm1 := hj1 _ hwm
      clear hJk hJm hJl hJ5
      (try dsimp only at F1)
      w_strict (repeat' (first
        | (k_unfold; (try dsimp only); (try clear qk); (try clear ek))
        | ((with_reducible show wpAny _ _ (exec _ _) _ _ _); k_fold; (try (rename Fr _ _ _ _ => F0z; revert F0z; show (let mKz := ?_; (Fr _ _ _ mKz → _)); intro mKz F0z)))
        | ((with_reducible (((((with_reducible show wpAny _ _ (eval (Expr.ListComp (Expr.Name (Str.ofString "told") _) _ _ _) _) _ _ _); k_here; k_dflt (refine LCt.ListComp_T (F₀ := by k_asm) (by with_unfolding_all rfl) (by decide) (by rfl) (by decide) (by rfl) ?_)))))))
        | ((with_reducible show LCt.CompSrcT ..); (with_reducible ((((with_reducible refine unstop ?_))))))
        | (k_end; wrow_close)
        | walk1
        | (leave1; (try dsimp only))
        | dsimp only))
      delta Stop
      k_dflt refine srcT_n (n := 5) hwl (by decide) rfl (by k_asm) (by k_asm) (.tail _ hwm1) fun g => ?_
      refine comp_restT (fun _ ys9 nw9 => ys9 = [] ∧ nw9 = (I1, it1) :: nw1) ?_ ?_ 5 0 [] _ rfl ⟨rfl, rfl⟩
      · intro i2 ys2 nw2 v2 I2 oI2 C2 oC2 D2 m2 h2 tk2 E2 hi2 hj2 hP2 hC2 hx2 F2' N2 off2 ne2
        obtain ⟨rfl, rfl⟩ := hj2
        have hb2 := hwb i2 (by lia) (by lia)
        rw [Int.toNat_natCast] at hb2
        obtain ⟨bb, rfl⟩ : ∃ bb, v2 = Value.bool bb := ⟨_, Option.some.inj (hP2.symm.trans hb2)⟩
        clear hb2 hP2 hwb
        cases bb with
        | true =>
          w_strict (repeat' (first
            | (k_unfold; (try dsimp only); (try clear qk); (try clear ek))
            | ((with_reducible show wpAny _ _ (exec _ _) _ _ _); k_fold; (try (rename Fr _ _ _ _ => F0z; revert F0z; show (let mKz := ?_; (Fr _ _ _ mKz → _)); intro mKz F0z)))
            | ((with_reducible (((((with_reducible show wpAny _ _ (eval (Expr.Name _ _) (compEnvC _ _ _ _)) _ _ _); first | (k_dflt (refine lcf_free (by (k_asm)) (by (rfl)) (by ((repeat (first | with_reducible assumption | with_reducible exact List.mem_cons_self | with_reducible apply List.mem_cons_of_mem)))) (by (with_reducible assumption)) ?_ (by (rfl)) (by (rfl)))) | (k_dflt (refine lcf_cell (by (k_asm)) (by (rfl)) (by ((repeat (first | with_reducible assumption | with_reducible exact List.mem_cons_self | with_reducible apply List.mem_cons_of_mem)))) (by (with_reducible assumption)) ?_ (by (rfl)) (by (rfl)))) | (k_dflt refine LCgL.ld_own (by k_asm) (by k_mem) (by with_reducible assumption) (by with_reducible assumption) ?_) | (k_dflt (refine LCgL.ld_global (by (k_asm)) (by (k_asm)) (by (k_asm)) (by (k_is)) ?_)) | (k_dflt (refine LCgL.ld_built (by (k_asm)) (by (k_asm)) (by (k_asm)) (by (k_is)) (by (boot_by_name)) (by (decide)) ?_))))))))
            | ((with_reducible show LCg.CompEnd ..); (with_reducible ((((with_reducible refine unstop ?_))))))
            | (k_end; wrow_close)
            | walk1
            | (leave1; (try dsimp only))
            | dsimp only))
          delta Stop
          k_dflt exact comp_val (by k_asm) (by k_asm) (fun p9 hp9 => hp9) off2 (.inr ⟨_, .tail _ hwm1, rfl, _, rfl⟩) ⟨rfl, rfl⟩
        | false =>
          w_strict (repeat' (first
            | (k_unfold; (try dsimp only); (try clear qk); (try clear ek))
            | ((with_reducible show wpAny _ _ (exec _ _) _ _ _); k_fold; (try (rename Fr _ _ _ _ => F0z; revert F0z; show (let mKz := ?_; (Fr _ _ _ mKz → _)); intro mKz F0z)))
            | ((with_reducible (((((with_reducible show wpAny _ _ (eval (Expr.Name _ _) (compEnvC _ _ _ _)) _ _ _); first | (k_dflt (refine lcf_free (by (k_asm)) (by (rfl)) (by ((repeat (first | with_reducible assumption | with_reducible exact List.mem_cons_self | with_reducible apply List.mem_cons_of_mem)))) (by (with_reducible assumption)) ?_ (by (rfl)) (by (rfl)))) | (k_dflt (refine lcf_cell (by (k_asm)) (by (rfl)) (by ((repeat (first | with_reducible assumption | with_reducible exact List.mem_cons_self | with_reducible apply List.mem_cons_of_mem)))) (by (with_reducible assumption)) ?_ (by (rfl)) (by (rfl)))) | (k_dflt refine LCgL.ld_own (by k_asm) (by k_mem) (by with_reducible assumption) (by with_reducible assumption) ?_) | (k_dflt (refine LCgL.ld_global (by (k_asm)) (by (k_asm)) (by (k_asm)) (by (k_is)) ?_)) | (k_dflt (refine LCgL.ld_built (by (k_asm)) (by (k_asm)) (by (k_asm)) (by (k_is)) (by (boot_by_name)) (by (decide)) ?_))))))))
            | ((with_reducible show LCg.CompEnd ..); (with_reducible ((((with_reducible refine unstop ?_))))))
            | (k_end; wrow_close)
            | walk1
            | (leave1; (try dsimp only))
            | dsimp only))
          delta Stop
          k_dflt exact comp_val (by k_asm) (by k_asm) (fun p9 hp9 => hp9) off2 (.inr ⟨_, .tail _ hwm1, rfl, _, rfl⟩) ⟨rfl, rfl⟩
      · intro ys2 nw2 hj2 D2 h2 tk2 F2' N2 off2
        obtain ⟨rfl, rfl⟩ := hj2
        w_strict (repeat' (first
          | (k_unfold; (try dsimp only); (try clear qk); (try clear ek))
          | ((with_reducible show wpAny _ _ (exec _ _) _ _ _); k_fold; (try (rename Fr _ _ _ _ => F0z; revert F0z; show (let mKz := ?_; (Fr _ _ _ mKz → _)); intro mKz F0z)))
          | ((with_reducible show UnrEnd ..); (with_reducible ((((with_reducible refine unstop ?_))))))
          | ((with_reducible show wpAny _ _ (newList ..) _ _ _); (with_reducible ((((k_dflt refine newList_any (by k_asm) (by k_asm) (by exact Nat.le_of_ble_eq_true rfl) ?_; intro _ _ _ _ _; try dsimp only))))))
          | (k_end; wrow_close)
          | walk1
          | (leave1; (try dsimp only))
          | dsimp only))
        delta Stop
        k_dflt refine UnrEnd.intro (by k_asm) (by k_asm) nw1 (fun p9 hp9 => .tail _ (.tail _ hp9)) hI1 ⟨?_, hj1, hI1⟩
        intro y9 hy9
        simp only [List.mem_cons, List.not_mem_nil, or_false] at hy9
        repeat (first | (with_reducible exact rfl) | refine (if_neg hy9).trans ?_)
    · intro h3 tk3 m3 nw3 hm3 hj3 F3 N3
      obtain ⟨vc1, rfl⟩ := hm3.form1
      have hB6 := hB5.up hj3
      have hcu1 := hj3 _ hct1
      have hcu2 := hj3 _ hct2
      have hJ6 := hJ5.up hj3
      clear hJk hJm hJl hJ5 hB5 hct1 hct2 hj3 hm3
      (try dsimp only at F3 ⊢)
      have sg11 := trivial
      w_strict (repeat' (first
        | (k_unfold; (try dsimp only); (try clear qk); (try clear ek))
        | ((with_reducible show wpAny _ _ (exec _ _) _ _ _); k_fold; (try (rename Fr _ _ _ _ => F0z; revert F0z; show (let mKz := ?_; (Fr _ _ _ mKz → _)); intro mKz F0z)))
        | ((with_reducible show LCg.CompSrc ..); (with_reducible ((((with_reducible refine unstop ?_))))))
        | ((with_reducible ((((k_here; (first | (with_reducible show wpAny _ _ (exec (Stmt.Assign [Expr.Name (Str.ofString "rows") _] _ _) _) _ _ _) | (with_reducible show wpAny _ _ (exec (Stmt.Assign [Expr.Name (Str.ofString "joins") _] _ _) _) _ _ _) | (with_reducible show wpAny _ _ (exec (Stmt.Assign [Expr.Name (Str.ofString "left") _] _ _) _) _ _ _)); k_dflt (refine LCg.Assign_ListComp_U (F₀ := by k_asm) (by rfl) (by with_unfolding_all rfl) (by with_unfolding_all rfl) (by decide) (by rfl) (by decide) (by rfl) (by rfl) (by rfl) ?_)))))))
        | ((with_reducible (((((with_reducible show wpAny _ _ (eval (Expr.Name _ _) (envOfC _ _ _ _ _)) _ _ _); k_dflt (refine nameX_C (by (k_asm)) (by (rfl)) (by ((repeat (first | with_reducible assumption | with_reducible exact List.mem_cons_self | with_reducible apply List.mem_cons_of_mem)))) (by (with_reducible assumption)) ?_ (by (rfl)) (by (rfl)))))))))
        | (k_end; wrow_close)
        | walk1
        | (leave1; (try dsimp only))
        | dsimp only))
      delta Stop
      show (let gKz : Prop := ?_; gKz)
      intro gKz
      obtain ⟨vsS, cS, hSm, hSl, hSk⟩ := id hB6.hS
      k_unfold
      (try clear gKz)
      k_dflt refine src_n (n := 5) hSl (by decide) rfl (by k_asm) (by k_asm) hSm fun g => ?_
      refine comp_rest (JG (IsW (lW pcs)) _) ?_ ?_ 5 0 [] _ rfl (JG.nil _ _)
      · intro i ys nw v I oI C oC D m₂ h tk E' hi9 hj9 hP hC hx F9 N9 off9 ne9
        obtain ⟨vi, ei, ai, xi, yi, zi, ui1, ui2, ui3, rfl, hmi, is1, is2, is3⟩ := hSk i hi9
        obtain rfl : v = .ref ai := Option.some.inj (hP.symm.trans ei)
        have hmi1 := hj9.2.2 _ hmi
        have okS : 0 ≤ (fcol pcs i).2.1 ∧ (fcol pcs i).2.1 ≤ 4 := (hB6.hP.ok i hi9).2.1
        have okV : 1 ≤ (fcol pcs i).2.2 ∧ (fcol pcs i).2.2 ≤ 64 := (hB6.hP.ok i hi9).2.2.1
        w_strict (repeat' (first
          | (k_unfold; (try dsimp only); (try clear qk); (try clear ek))
          | ((with_reducible show wpAny _ _ (exec _ _) _ _ _); k_fold; (try (rename Fr _ _ _ _ => F0z; revert F0z; show (let mKz := ?_; (Fr _ _ _ mKz → _)); intro mKz F0z)))
          | ((with_reducible (((((with_reducible show wpAny _ _ (call (Value.ref _) [Value.ref _] _) _ _ _); k_dflt (refine Con.useN (by (k_asm)) (by (k_asm)) (by (k_asm)) (by (k_asm)) (by (k_asm)) (weight_con _ _ _ _ _ _ _ _ _ _ (by ((repeat (first | with_reducible assumption | with_reducible exact List.mem_cons_self | with_reducible apply List.mem_cons_of_mem)))) (by (with_reducible assumption)) (by (with_reducible assumption)) (by (with_reducible assumption)) (by (with_reducible assumption))) rfl (by (ktr_room)) (by (ktr_units)) ?_); intro _ _ _ _ _ _ hp9z; obtain ⟨_, e1z, e2z⟩ := hp9z; subst e1z; subst e2z; try dsimp only))))))
          | ((with_reducible (((((with_reducible show wpAny _ _ (eval (Expr.Name _ _) (compEnvC _ _ _ _)) _ _ _); first | (k_dflt (refine lcf_free (by (k_asm)) (by (rfl)) (by ((repeat (first | with_reducible assumption | with_reducible exact List.mem_cons_self | with_reducible apply List.mem_cons_of_mem)))) (by (with_reducible assumption)) ?_ (by (rfl)) (by (rfl)))) | (k_dflt (refine lcf_cell (by (k_asm)) (by (rfl)) (by ((repeat (first | with_reducible assumption | with_reducible exact List.mem_cons_self | with_reducible apply List.mem_cons_of_mem)))) (by (with_reducible assumption)) ?_ (by (rfl)) (by (rfl)))) | (k_dflt refine LCgL.ld_own (by k_asm) (by k_mem) (by with_reducible assumption) (by with_reducible assumption) ?_) | (k_dflt (refine LCgL.ld_global (by (k_asm)) (by (k_asm)) (by (k_asm)) (by (k_is)) ?_)) | (k_dflt (refine LCgL.ld_built (by (k_asm)) (by (k_asm)) (by (k_asm)) (by (k_is)) (by (boot_by_name)) (by (decide)) ?_))))))))
          | ((with_reducible show LCg.CompEnd ..); (with_reducible ((((with_reducible refine unstop ?_))))))
          | (k_end; wrow_close)
          | walk1
          | (leave1; (try dsimp only))
          | dsimp only))
        delta Stop
        k_dflt exact comp_val (by k_asm) (by k_asm) (fun p9 hp9 => hp9) off9 (.inr ⟨_, hj9.2.2 _ hSm, rfl, _, rfl⟩) (hj9.next ⟨_, rfl⟩ (fun _ _ h9 => h9) fun p hp => hp)
      · intro ys nw hj9 D h tk F9 N9 off9
        have hsb := lift_tail (x := (D, LCg.lst ys)) hj9.2.2
        show (let gKz : Prop := ?_; gKz)
        intro gKz
        obtain ⟨tl0, tl1, tl2, tl3, tl4, hys⟩ := hj9.w5
        k_unfold
        (try clear gKz)
        subst hys
        have hL7 := ints5 (g := lW pcs) (List.mem_cons_self (a := (D, LCg.lst [.int (lW pcs 0) tl0, .int (lW pcs 1) tl1, .int (lW pcs 2) tl2, .int (lW pcs 3) tl3, .int (lW pcs 4) tl4])) (l := nw))
        have hB7 := hB6.up hsb
        have hcv1 := hsb _ hcu1
        have hcv2 := hsb _ hcu2
        have hJ7 := hJ6.up hsb
        clear hB6 hcu1 hcu2 hJ6 hsb hj9 hSk hSm hSl off9
        (try dsimp only at hL7 ⊢)
        w_strict (repeat' (first
          | (k_unfold; (try dsimp only); (try clear qk); (try clear ek))
          | ((with_reducible show wpAny _ _ (exec _ _) _ _ _); k_fold; (try (rename Fr _ _ _ _ => F0z; revert F0z; show (let mKz := ?_; (Fr _ _ _ mKz → _)); intro mKz F0z)))
          | ((with_reducible show LCg.CompSrc ..); (with_reducible ((((with_reducible refine unstop ?_))))))
          | ((with_reducible show wpAny _ _ (eval (Expr.ListComp ..) _) _ _ _); (with_reducible ((((k_here; k_dflt (refine LCg.ListComp_U (F₀ := by k_asm) (by with_unfolding_all rfl) (by decide) (by rfl) (by decide) (by rfl) ?_)))))))
          | ((with_reducible (((((with_reducible show wpAny _ _ (eval (Expr.Name _ _) (envOfC _ _ _ _ _)) _ _ _); k_dflt (refine nameX_C (by (k_asm)) (by (rfl)) (by ((repeat (first | with_reducible assumption | with_reducible exact List.mem_cons_self | with_reducible apply List.mem_cons_of_mem)))) (by (with_reducible assumption)) ?_ (by (rfl)) (by (rfl)))))))))
          | ((with_reducible show wpAny _ _ (newList ..) _ _ _); (with_reducible ((((k_dflt refine newList_any (by k_asm) (by k_asm) (by exact Nat.le_of_ble_eq_true rfl) ?_; intro _ _ _ _ _; try dsimp only))))))
          | (k_end; wrow_close)
          | walk1
          | (leave1; (try dsimp only))
          | dsimp only))
        delta Stop
        have hkr := hB7.hk
        have hkl : vsK.length = 4 := hkr.1.trans (insAll_len _ _)
        rename News _ _ _ _ => Nr
        k_dflt refine src_n (n := 4) hkl (by decide) rfl (by k_asm) (by k_asm) (.tail _ hB7.hK) fun g => ?_
        refine comp_rest (JG (IsW (fun k => wC (kcol mcs k))) _) ?_ ?_ 4 0 [] _ rfl (JG.nil _ _)
        · intro i ys nw2 v I oI C oC D2 m₂ h tk E' hi9 hj9 hP hC hx F9 N9 off9 ne9
          show (let gKz : Prop := ?_; gKz)
          intro gKz
          obtain ⟨ai, xi, yi, zi, ui1, ui2, ui3, ei, hmi, is1, is2, is3⟩ := hkr.at4 i hi9
          k_unfold
          (try clear gKz)
          obtain rfl : v = .ref ai := Option.some.inj (hP.symm.trans ei)
          have hmi1 := hj9.2.2 _ (.tail _ hmi)
          have okS := (kcol_ok hB7.hM.ok i hi9).1
          have okV := (kcol_ok hB7.hM.ok i hi9).2
          clear Nr
          w_strict (repeat' (first
            | (k_unfold; (try dsimp only); (try clear qk); (try clear ek))
            | ((with_reducible show wpAny _ _ (exec _ _) _ _ _); k_fold; (try (rename Fr _ _ _ _ => F0z; revert F0z; show (let mKz := ?_; (Fr _ _ _ mKz → _)); intro mKz F0z)))
            | ((with_reducible (((((with_reducible show wpAny _ _ (call (Value.ref _) [Value.ref _] _) _ _ _); k_dflt (refine Con.useN (by (k_asm)) (by (k_asm)) (by (k_asm)) (by (k_asm)) (by (k_asm)) (weight_con _ _ _ _ _ _ _ _ _ _ (by ((repeat (first | with_reducible assumption | with_reducible exact List.mem_cons_self | with_reducible apply List.mem_cons_of_mem)))) (by (with_reducible assumption)) (by (with_reducible assumption)) (by (with_reducible assumption)) (by (with_reducible assumption))) rfl (by (ktr_room)) (by (ktr_units)) ?_); intro _ _ _ _ _ _ hp9z; obtain ⟨_, e1z, e2z⟩ := hp9z; subst e1z; subst e2z; try dsimp only))))))
            | ((with_reducible (((((with_reducible show wpAny _ _ (eval (Expr.Name _ _) (compEnvC _ _ _ _)) _ _ _); first | (k_dflt (refine lcf_free (by (k_asm)) (by (rfl)) (by ((repeat (first | with_reducible assumption | with_reducible exact List.mem_cons_self | with_reducible apply List.mem_cons_of_mem)))) (by (with_reducible assumption)) ?_ (by (rfl)) (by (rfl)))) | (k_dflt (refine lcf_cell (by (k_asm)) (by (rfl)) (by ((repeat (first | with_reducible assumption | with_reducible exact List.mem_cons_self | with_reducible apply List.mem_cons_of_mem)))) (by (with_reducible assumption)) ?_ (by (rfl)) (by (rfl)))) | (k_dflt refine LCgL.ld_own (by k_asm) (by k_mem) (by with_reducible assumption) (by with_reducible assumption) ?_) | (k_dflt (refine LCgL.ld_global (by (k_asm)) (by (k_asm)) (by (k_asm)) (by (k_is)) ?_)) | (k_dflt (refine LCgL.ld_built (by (k_asm)) (by (k_asm)) (by (k_asm)) (by (k_is)) (by (boot_by_name)) (by (decide)) ?_))))))))
            | ((with_reducible show LCg.CompEnd ..); (with_reducible ((((with_reducible refine unstop ?_))))))
            | (k_end; wrow_close)
            | walk1
            | (leave1; (try dsimp only))
            | dsimp only))
          delta Stop
          k_dflt exact comp_val (by k_asm) (by k_asm) (fun p9 hp9 => hp9) off9 (.inr ⟨_, hj9.2.2 _ (.tail _ hB7.hK), rfl, _, rfl⟩) (hj9.next ⟨_, rfl⟩ (fun _ _ h9 => h9) fun p hp => hp)
        · intro ys nw2 hj9 D2 h tk F9 N9 off9
          have hsb := lift_tail (x := (D2, LCg.lst ys)) hj9.2.2
          show (let gKz : Prop := ?_; gKz)
          intro gKz
          obtain ⟨tr0, tr1, tr2, tr3, hys⟩ := hj9.w4
          k_unfold
          (try clear gKz)
          subst hys
          have hf7 := hsb _ (.head _)
          have hB8 := hB7.up fun p9 hp9 => hsb p9 (.tail _ hp9)
          have hcw1 := hsb _ (.tail _ hcv1)
          have hcw2 := hsb _ (.tail _ hcv2)
          have hJ8 := hJ7.up fun p9 hp9 => hsb p9 (.tail _ hp9)
          have hL8 := hL7.up fun p9 hp9 => hsb p9 (.tail _ hp9)
          clear hB7 hcv1 hcv2 hJ7 hL7 hsb hj9 hkr hkl off9 Nr
          (try dsimp only at hf7 ⊢)
          w_strict (repeat' (first
            | (k_unfold; (try dsimp only); (try clear qk); (try clear ek))
            | ((with_reducible show wpAny _ _ (exec _ _) _ _ _); k_fold; (try (rename Fr _ _ _ _ => F0z; revert F0z; show (let mKz := ?_; (Fr _ _ _ mKz → _)); intro mKz F0z)))
            | ((with_reducible show wpAny _ _ (call (Value.ref _) _ _) _ _ _); (with_reducible (((first | (k_dflt (refine Con.useN (by (k_asm)) (by (k_asm)) (by (k_asm)) (by (k_asm)) (by (k_asm)) (seen_con _ _ _ _ _ _ _ _ _ _ (by ((repeat (first | with_reducible assumption | with_reducible exact List.mem_cons_self | with_reducible apply List.mem_cons_of_mem)))) (by (with_reducible assumption)) (by (with_reducible assumption)) (by (with_reducible assumption)) (by (with_reducible assumption))) rfl (by (ktr_room)) (by (ktr_units)) ?_); intro _ _ _ _ _ _ hp9z; obtain ⟨a9, x9, y9, z9, u91, u92, u93, l9, ⟨i91, i92, i93⟩⟩ := hp9z; try dsimp only) | (with_reducible refine unstop ?_))))))
            | ((with_reducible show wpAny _ _ (binaryOp Operator.Add (Value.ref _) (Value.ref _)) _ _ _); (with_reducible ((((k_dflt (refine add_any (by (k_asm)) (by (k_asm)) (by (k_mem)) (by (k_mem)) (by (((try simp only [List.cons_append, List.nil_append]); exact rfl))) (by (((simp only [List.length_cons, List.length_nil]); lia))) ?_); intro _ _ _ _ _; try dsimp only))))))
            | (k_end; wrow_close)
            | walk1
            | (leave1; (try dsimp only))
            | dsimp only))
          delta Stop
          rename_i yf1 yf2 yf3 yf4 yf5 yf6 yf7 yf8 yf9 yf10 yf11 yf12 yf13 yf14 yf15 yf16 yf17 yf18 yf19 yf20 yf21 yf22 yf23 yf24 yf25 yf26 yf27 yf28 yf29 yf30 yf31 yf32 yf33 yf34 yf35 yf36 yf37 yf38 yf39 yf40 yf41 yf42 yf43 yf44 yf45 yf46
          revert wz9 s₀z9 s₁z9 mgz9 mbz9 Gz9 Yz9 faz9 oz9 pmz9 docz9 hoz9 hgz9 KXz9 Xz9 Vz9 GLz9 Tz9 Bz9 TEz9 TWz9 ya1 ya2 Mz9 ya3 ya4 hcdz9 ya5 ya6 ya7 ya8 ya9 ya10 ya11 ya12 ya13 ya14 ya15 ya16 ya17 ya18 ya19 ya20 ya21 ya22 ya23 K0z9 hDz9 ya24 ya25 ya26 ya27 ya28 ya29 ya30 ya31 ya32 ya33 ya34 ya35 ya36 yb1 aKz ya37 ya38 ya39 ya40 ya41 ya42 ya43 ya44 ya45 ya46 yb2 ya47 ya48 ya49 ya50 ya51 ya52 ya53 ya54 ya55 ya56 ya57 ya58 ya59 ya60 ya61 ya62 ya63 ya64 sg1 ya65 ya66 ya67 ya68 ya69 ya70 ya71 ya72 ya73 ya74 ya75 ya76 ya77 ya78 ya79 ya80 ya81 ya82 ya83 ya84 l1z ya85 ya86 ya87 hI9 ya88 hlen hlen8 hall yb3 yb4 yb5 yb6 ya89 sg2 a0 c0 a1 c1 a2 c2 a3 c3 a4 c4 a5 c5 a6 c6 a7 c7 ya90 ya91 ya92 ya93 ya94 ya95 ya96 ya97 ya98 ya99 ya100 ya101 ya102 ya103 ya104 ya105 ya106 ya107 yb7 ya108 yf1 pcs mcs hp0 fst total tf tt v5 v4 v1 v0 hfst htot tk2 sg3 yb8 yb9 lK yb12 yb13 yb14 yb16 yb17 yb18 yb19 base vsM cM yf2 yf3 yf4 yf5 yf6 vsK cK sg4 yb20 yd1 vsP cP yc1 ye1 yc2 yc3 yc4 yc5 ye2 yd2 yb21 yb22 ye3 ye4 yc6 yc7 yd3 yb25 yb26 yb27 yb28 yb29 yb30 yb33 sg5 yf7 yf8 yd4 ye5 ye6 yd5 yc8 yd6 yd7 yd8 yd9 yd10 n0 hn0 hc0 n1 hn1 hc1 n2 hn2 hc2 n3 hn3 hc3 n4 hn4 hc4 sg6 yc9 yc10 yc11 yc12 yd11 yd12 yd13 go6 h6 tk6 tm6 sg7 yd14 yd15 yd16 yd17 yd18 yd19 yd20 yd21 yd22 nw' D' yd23 yd24 yf9 yf10 yf11 yf12 tr4 yd25 yd26 yd27 yd28 yd30 yd31 yd33 yd34 yd35 yd36 yd37 yd38 yd40 yf13 nw2' yf14 ye7 ye8 ts0 ts1 ts2 ts3 ts4 htk2 yd41 yd42 yd43 ye9 sg8 hml ye10 ye11 ye12 ye13 ye14 ye15 ye16 ye17 ye18 ye19 ye20 ye21 tk42 ye22 ye23 ye26 ye27 ye28 ye29 hcN ye31 ye32 go8 hdp3 t9z k9z ye34 ye35 nwN hdN yf15 yf16 yf17 sg9 hx9 ys yf18 yf19 yf20 yf21 sg10 yf22 yf23 yf24 vsJ cJ h3 tk3 nw3 N3 vc1 sg11 yf25 yf26 yf27 yf28 vsS cS yf29 nw D yf30 yf31 tl0 tl1 tl2 tl3 tl4 yf32 yf33 yf34 yf35 yf36 yf37 yf38 g nw2 D2 h yf39 F9 tr0 tr1 tr2 tr3 N9 hf7 hB8 hcw1 hcw2 hJ8 hL8 yf40 yf41 yf42 yf43 yf44 yf45 yf46 tk qk ek mKz F0z
          exact hcut.get
theorem cut_last : cut6.1 := by
  delta cut6
  refine openP ?_
  k_fill
  intro wz9 s₀z9 s₁z9 mgz9 mbz9 Gz9 Yz9 faz9 oz9 pmz9 docz9 hoz9 hgz9 KXz9 Xz9 Vz9 GLz9 Tz9 Bz9 TEz9 TWz9 ya1 ya2 Mz9 ya3 ya4 hcdz9 ya5 ya6 ya7 ya8 ya9 ya10 ya11 ya12 ya13 ya14 ya15 ya16 ya17 ya18 ya19 ya20 ya21 ya22 ya23 K0z9 hDz9 ya24 ya25 ya26 ya27 ya28 ya29 ya30 ya31 ya32 ya33 ya34 ya35 ya36 yb1 aKz ya37 ya38 ya39 ya40 ya41 ya42 ya43 ya44 ya45 ya46 yb2 ya47 ya48 ya49 ya50 ya51 ya52 ya53 ya54 ya55 ya56 ya57 ya58 ya59 ya60 ya61 ya62 ya63 ya64 sg1 ya65 ya66 ya67 ya68 ya69 ya70 ya71 ya72 ya73 ya74 ya75 ya76 ya77 ya78 ya79 ya80 ya81 ya82 ya83 ya84 l1z ya85 ya86 ya87 hI9 ya88 hlen hlen8 hall yb3 yb4 yb5 yb6 ya89 sg2 a0 c0 a1 c1 a2 c2 a3 c3 a4 c4 a5 c5 a6 c6 a7 c7 ya90 ya91 ya92 ya93 ya94 ya95 ya96 ya97 ya98 ya99 ya100 ya101 ya102 ya103 ya104 ya105 ya106 ya107 yb7 ya108 yf1 pcs mcs hp0 fst total tf tt v5 v4 v1 v0 hfst htot tk2 sg3 yb8 yb9 lK yb12 yb13 yb14 yb16 yb17 yb18 yb19 base vsM cM yf2 yf3 yf4 yf5 yf6 vsK cK sg4 yb20 yd1 vsP cP yc1 ye1 yc2 yc3 yc4 yc5 ye2 yd2 yb21 yb22 ye3 ye4 yc6 yc7 yd3 yb25 yb26 yb27 yb28 yb29 yb30 yb33 sg5 yf7 yf8 yd4 ye5 ye6 yd5 yc8 yd6 yd7 yd8 yd9 yd10 n0 hn0 hc0 n1 hn1 hc1 n2 hn2 hc2 n3 hn3 hc3 n4 hn4 hc4 sg6 yc9 yc10 yc11 yc12 yd11 yd12 yd13 go6 h6 tk6 tm6 sg7 yd14 yd15 yd16 yd17 yd18 yd19 yd20 yd21 yd22 nw' D' yd23 yd24 yf9 yf10 yf11 yf12 tr4 yd25 yd26 yd27 yd28 yd30 yd31 yd33 yd34 yd35 yd36 yd37 yd38 yd40 yf13 nw2' yf14 ye7 ye8 ts0 ts1 ts2 ts3 ts4 htk2 yd41 yd42 yd43 ye9 sg8 hml ye10 ye11 ye12 ye13 ye14 ye15 ye16 ye17 ye18 ye19 ye20 ye21 tk42 ye22 ye23 ye26 ye27 ye28 ye29 hcN ye31 ye32 go8 hdp3 t9z k9z ye34 ye35 nwN hdN yf15 yf16 yf17 sg9 hx9 ys yf18 yf19 yf20 yf21 sg10 yf22 yf23 yf24 vsJ cJ h3 tk3 nw3 N3 vc1 sg11 yf25 yf26 yf27 yf28 vsS cS yf29 nw D yf30 yf31 tl0 tl1 tl2 tl3 tl4 yf32 yf33 yf34 yf35 yf36 yf37 yf38 g nw2 D2 h yf39 F9 tr0 tr1 tr2 tr3 N9 hf7 hB8 hcw1 hcw2 hJ8 hL8 yf40 yf41 yf42 yf43 yf44 yf45 yf46 tk qk ek mKz F0z
  w_on
  w_top off
  have sg12 := trivial
  rename News _ _ _ _ => Nt
  have hm01 : 0 ≤ Int.fmod total 2 ∧ Int.fmod total 2 ≤ 1 := by rw [Int.fmod_eq_emod_of_nonneg _ (by decide)]; lia
  have hlb := five_bd (g := lW pcs) fun k hk => lW_bd hB8.hP k hk
  have hrb := five_bd (g := rW fst mcs) fun k hk => by
    match k, hk with
    | 0, _ => exact ⟨hfst.1, Int.le_trans hfst.2 (by decide)⟩
    | k + 1, hk => exact kW_bd hB8.hM k (by lia)
  k_dflt refine Con.use (trees_con _ _ _ (five (lW pcs)) (five (rW fst mcs)) (spI pcs mcs (Int.fmod total 2)) _ _ (hL8.up fun p9 hp9 => .tail _ hp9) (ints5 (g := rW fst mcs) (.head _)) (hJ8.up fun p9 hp9 => .tail _ hp9) (fun i i0 i1 => spZ_bd pcs mcs hm01.1 _) (reach hn0 hn1 hn2 hn3 hn4) (sp_zero hm01.1 hp0.1 hp0.2 hB8.hM.ok) hlb.1 hrb.1 hlb.2 hrb.2) (by k_asm) (by k_asm) (by k_asm) Nt (by k_asm) rfl (by ktr_room) (by ktr_units) ?_
  intro r9 n9 h9 tk9 F9' N9' hp9
  show (let gKz : Prop := ?_; gKz)
  intro gKz
  obtain ⟨t9, e1, e2⟩ := hp9
  k_unfold
  (try clear gKz)
  subst e1
  subst e2
  rw [trees_prod pcs mcs fst hm01.1]
  clear hlb hrb hL8 hJ8
  w_strict (repeat' (first
    | (k_unfold; (try dsimp only); (try clear qk); (try clear ek))
    | ((with_reducible show wpAny _ _ (exec _ _) _ _ _); k_fold; (try (rename Fr _ _ _ _ => F0z; revert F0z; show (let mKz := ?_; (Fr _ _ _ mKz → _)); intro mKz F0z)))
    | ((with_reducible (((((with_reducible show wpAny _ _ (call (Value.ref 144) _ _) _ _ _); (with_reducible refine unstop ?_)))))))
    | (k_end; wrow_close)
    | walk1
    | (leave1; (try dsimp only))
    | dsimp only))
  delta Stop
  have sg13 := trivial
  rename News _ _ _ _ => Nt
  k_dflt refine Con.use (product_con _ _ pcs mcs _ (hB8.hP.up fun p9 hp9 => .tail _ hp9) (hB8.hM.up fun p9 hp9 => .tail _ hp9) fst (Int.fmod total 2) _ _ hfst hm01) (by k_asm) (by k_asm) (by k_asm) Nt (by k_asm) rfl (by ktr_room) (by ktr_units) ?_
  intro r9 n10 h9 tk9 F9' N9' hp9
  show (let gKz : Prop := ?_; gKz)
  intro gKz
  obtain ⟨t10, e1, hs10⟩ := hp9
  k_unfold
  (try clear gKz)
  subst e1
  have hMx := hB8.hM.upS fun p9 hp9 hn9 => hs10 p9 (.tail _ hp9) hn9
  have hRx := hs10 _ (.head _) (nocell_list _ _)
  clear hB8 hs10 Nt
  w_strict (repeat' (first
    | (k_unfold; (try dsimp only); (try clear qk); (try clear ek))
    | ((with_reducible show wpAny _ _ (exec _ _) _ _ _); k_fold; (try (rename Fr _ _ _ _ => F0z; revert F0z; show (let mKz := ?_; (Fr _ _ _ mKz → _)); intro mKz F0z)))
    | ((with_reducible (((((with_reducible show wpAny _ _ (subscriptTail (PySem.Expr.Name (Str.ofString "right") _) (PySem.Expr.Slice (some _) none none _) (Value.ref _) (Value.ref _)) _ _ _); k_dflt (refine slice_from1 (by (k_asm)) (by (k_asm)) (by ((repeat (first | with_reducible assumption | with_reducible exact List.mem_cons_self | with_reducible apply List.mem_cons_of_mem)))) ?_ (by (with_unfolding_all rfl)) (by (kmk_pure))); intro _ _ _ _ _; try dsimp only))))))
    | ((with_reducible (((((with_reducible show wpAny _ _ (call (Value.ref 139) _ _) _ _ _); (with_reducible refine unstop ?_)))))))
    | ((with_reducible show wpAny _ _ (compareOp CmpOp.NotEq (Value.int _ _) (Value.int _ _)) _ _ _); (with_reducible ((((with_reducible refine ne_int_same (by with_reducible rfl) ?_))))))
    | (k_end; wrow_close)
    | walk1
    | (leave1; (try dsimp only))
    | dsimp only))
  delta Stop
  rename News _ _ _ _ => Nt
  k_dflt refine Con.use (order_con _ mcs _ (hMx.up fun p9 hp9 => .tail _ hp9)) (by k_asm) (by k_asm) (by k_asm) Nt (by k_asm) rfl (by ktr_room) (by ktr_units) ?_
  intro r9 n11 h9 tk9 F9' N9' hp9
  show (let gKz : Prop := ?_; gKz)
  intro gKz
  obtain ⟨a11, o0, o1, o2, o3, c11, e1, hm11, hs11⟩ := hp9
  k_unfold
  (try clear gKz)
  subst e1
  have hD11 := hs11 _ (.head _)
  clear hs11 hMx hRx Nt
  dsimp only [aKz]
  k_dflt refine eq_led (ns := [wC (kcol mcs 0), wC (kcol mcs 1), wC (kcol mcs 2), wC (kcol mcs 3)]) N9' hD11 (.cons _ _ (.cons _ _ (.cons _ _ (.cons _ _ .nil)))) hm11 (.cons _ _ (.cons _ _ (.cons _ _ (.cons _ _ .nil)))) (by ktr_units) ?_
  w_strict (k_unfold; (try dsimp only))
  refine goodW_bool (by with_reducible assumption) (by with_reducible assumption) (raisesW_false ?_) ?_
  · skip
    wrow_none_raised
  · skip
    wrow_post
theorem law_walk : PySem.Challenge.rw_sc0043_01.Holds := cut1.2 ⟨cut2.2 ⟨cut3.2 ⟨cut4.2 ⟨cut5.2 ⟨cut6.2 ⟨cut_last⟩⟩⟩⟩⟩⟩
end Mine
end
set_option maxRecDepth 100000 in
set_option maxHeartbeats 8000000 in
theorem PySem.Challenge.cw_sc0043_01_holds : PySem.Challenge.rw_sc0043_01.Holds := by
  exact Mine.law_walk
