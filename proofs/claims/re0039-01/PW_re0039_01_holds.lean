import PyProof.Rows.All
import Wide.All
import OpenK.AllK
import Wide.FinOn
import PySem.Challenge.RW_re0039_01
set_option Elab.async false
set_option maxRecDepth 100000
set_option maxHeartbeats 0

section
open PySem PySem.W PyProof.Rows
namespace Mine
local macro_rules | `(tactic| o_head $h) => `(tactic| assumption)
theorem fr (h : (OpenLaw.row PySem.Challenge.rw_re0039_01).Holds) : (OpenLaw.row PySem.Challenge.rw_re0039_01).Holds := by k_head
end Mine
end

section
open PySem PySem.W PySem.Calls PyProof.Rows
namespace Mine
noncomputable def viewP : Program := { Challenge.pw_re0039_01 with main := { Challenge.pw_re0039_01.main with body := [0, 1, 3, 4, 6, 9, 10, 12, 13, 14, 15, 16, 17].filterMap fun i => Challenge.pw_re0039_01.main.body[i]? } }
noncomputable def looV : List Str := ["_tuplegetter", "fmean", "LinearRegression", "linear_regression"].map Str.ofString
noncomputable def asK : List Addr := [2, 3, 43, 45, 46, 48, 49, 57, 59, 60, 62, 63, 64, 65, 67, 68, 70, 71, 72, 74, 75, 77, 78, 79, 81, 82, 84, 85, 86, 87, 88, 89, 90, 93, 100, 101, 102, 103, 106, 107, 109, 110, 112, 113, 114, 117, 122, 123, 124, 125, 127, 128, 130, 131, 132, 134, 135, 137, 138, 139, 140, 141, 142, 143, 145, 146, 148, 149, 150, 152, 153, 155, 156, 157, 159, 160, 162, 163, 164, 166, 167, 169, 170, 171, 172, 173, 175, 176, 178, 180, 181, 182, 185, 186, 189, 190, 191, 193, 194, 196, 197, 198, 200, 201, 203, 204, 205, 208, 209, 210, 212, 213, 215, 216, 217, 220, 221, 222, 225, 226, 227, 230, 231, 232, 235, 236]
theorem asK_is (P : Params) : asK = (fr.heap_1 P).map (·.1) := by kernel_rfl
noncomputable abbrev hk : Hook := kmHook fr.heap_1 asK asK_is [187]
noncomputable abbrev rwR : RowW := OpenRow.toRowW (OpenLaw.row Challenge.rw_re0039_01)
theorem left_is : LeftO (RowW.prog rwR) viewP looV (fun s => xlAt viewP [] s && recOk (RowW.records rwR) s) (Hook.obs hk) (Hook.val hk) 3634 := by
  intro w
  kernel_rfl
theorem said_ok : OpenLaw.wellSaid Challenge.rw_re0039_01 = true := by kernel_rfl
/-- the law's end: True, and of all that stood only the table at 187 has grown -/
def LawEnd (g : Heap) (os : OsState) (r : Result) (s' : Shared) : Prop :=
  r = .ok (.ret (.bool true)) ∧ (∀ b o, g.get? b = some o → s'.heap.get? b = some o) ∧ GrownAt 187 s'.heap ∧ s'.os = os ∧ AllBare s'.gens
theorem law_fin {g h : Heap} {L : Addr} {m : Str → Option Value} {news : List (Addr × Obj)} {ps : Array Value} {gens : Array GenState} {d : Drawn} {tk : Nat} {os : OsState} (F : Fr g L h m) (N : News g L h news) (hm : (187, tabObj ps) ∈ news) (G : AllBare gens) :
    LawEnd g os (.ok (.ret (.bool true))) ⟨h, gens, d, tk, os⟩ := ⟨rfl, F.keep, ⟨ps, (N _ hm).1⟩, rfl, G⟩
theorem law_end {cl : Str → Option Addr} {mean : ExcName → Option Value} {args : List WData} {s₁ s' : Shared} {r : Result} (hT : TabsAt [(189, 187)] s₁.heap) (hp : rwR.claim.post args (.bool true) args = true)
    (h : LawEnd (ghostOf s₁.heap [(189, 187)]) s₁.os r s') : GoodWG rwR.claim cl mean args s₁ r s' := by
  obtain ⟨rfl, hk, ⟨ps, hP⟩, hos, hg⟩ := h
  have h187 := (hT _ (List.mem_cons_self ..)).2
  dsimp only at h187
  refine ⟨.inl ⟨.bool true, .bool true, [], rfl, fun _ => rfl, .bool true, hp, unshared_nil⟩, ⟨fun b o e => ?_, fun b o e => ?_⟩, hos, hg⟩
  · by_cases hb : b = 187
    · subst hb
      rw [h187] at e
      cases e
      exact .inr (.inl ⟨((hT _ (List.mem_cons_self ..)).1.tab h187).isCodeTable, rfl, #[], ps, rfl, by rw [Array.empty_append]; exact hP⟩)
    · exact .inl (hk b o (ghost_ne e (by simpa using hb)))
  · by_cases hb : b = 187
    · subst hb; exact ⟨_, hP⟩
    · exact ⟨o, hk b o (ghost_ne e (by simpa using hb))⟩
end Mine
end

section
namespace Mine
open PySem PySem.Float64

/-- x is finite and its exact value is n / 64 -/
def Is (x : UInt64) (n : Int) : Prop := (∃ a m e, decode x = .fin a m e) ∧ val x = n * 2 ^ 1068

theorem V_hits {k : Nat} (hk : k < 2 ^ 53) : ∃ t, t < infMag ∧ V t = k * 2 ^ 1068 := by
  by_cases h0 : k = 0
  · exact ⟨0, by decide, by subst h0; rw [V_zero, Nat.zero_mul]⟩
  · have hlog : k.log2 < 53 := (Nat.log2_lt h0).mpr hk
    have h1 : 2 ^ k.log2 ≤ k := Nat.log2_self_le h0
    have h2 : k < 2 ^ (k.log2 + 1) := Nat.lt_log2_self
    generalize hj : k.log2 = j at *
    have hq1 : 2 ^ 52 ≤ k * 2 ^ (52 - j) := by
      calc 2 ^ 52 = 2 ^ j * 2 ^ (52 - j) := by rw [← Nat.pow_add]; congr 1; omega
        _ ≤ k * 2 ^ (52 - j) := Nat.mul_le_mul_right _ h1
    have hq2 : k * 2 ^ (52 - j) < 2 ^ 53 := by
      calc k * 2 ^ (52 - j) < 2 ^ (j + 1) * 2 ^ (52 - j) := Nat.mul_lt_mul_of_pos_right h2 (Nat.two_pow_pos _)
        _ = 2 ^ 53 := by rw [← Nat.pow_add]; congr 1; omega
    refine ⟨(1068 - (52 - j)) * 2 ^ 52 + k * 2 ^ (52 - j), ?_, ?_⟩
    · unfold infMag
      generalize k * 2 ^ (52 - j) = q at *
      omega
    · rw [V_at (Nat.le_of_lt hq2) (.inl hq1), Nat.mul_assoc, ← Nat.pow_add]
      congr 2
      omega

theorem right_exact {r : UInt64} {neg : Bool} {W D k : Nat} (h : Right r neg W D) (hD : 0 < D) (hW : W = D * (k * 2 ^ 1068)) (hk : k < 2 ^ 53) :
    (∃ m e, decode r = .fin neg m e) ∧ val r = sgn neg (k * 2 ^ 1068) := by
  obtain ⟨t, rfl, hle, hinf, hn⟩ := h
  obtain ⟨t', ht', hV⟩ := V_hits hk
  have hlt : t < infMag := by
    refine Nat.lt_of_le_of_ne hle fun e => ?_
    have h1 := hinf.mp e
    rw [hW] at h1
    have h2 : D * ((2 ^ 54 - 1) * 2 ^ 2045) ≤ D * (2 * (k * 2 ^ 1068)) := by
      calc D * ((2 ^ 54 - 1) * 2 ^ 2045) ≤ 2 * (D * (k * 2 ^ 1068)) := h1
        _ = D * (2 * (k * 2 ^ 1068)) := by rw [Nat.mul_left_comm]
    have h3 := Nat.le_of_mul_le_mul_left h2 hD
    have h4 : 2 * (k * 2 ^ 1068) < 2 * (2 ^ 53 * 2 ^ 1068) := Nat.mul_lt_mul_of_pos_left (Nat.mul_lt_mul_of_pos_right hk (Nat.two_pow_pos _)) (by decide)
    have h5 : 2 * (2 ^ 53 * 2 ^ 1068) ≤ (2 ^ 54 - 1) * 2 ^ 2045 := by decide +kernel
    exact absurd (Nat.le_trans h3 (Nat.le_of_lt (Nat.lt_of_lt_of_le h4 h5))) (fun _ => Nat.lt_irrefl _ (Nat.lt_of_le_of_lt h3 (Nat.lt_of_lt_of_le h4 h5)))
  have hd := (hn hlt t').1
  rw [hV, hW] at hd
  have hz : dist (D * (k * 2 ^ 1068)) (D * (k * 2 ^ 1068)) = 0 := by unfold dist; omega
  rw [hz] at hd
  have he : V t = k * 2 ^ 1068 := by
    unfold dist at hd
    have : D * (k * 2 ^ 1068) = D * V t := by omega
    exact (Nat.eq_of_mul_eq_mul_left hD this).symm
  obtain ⟨m, e, hdec, _⟩ := decode_pack neg hlt
  exact ⟨⟨m, e, hdec⟩, by rw [val_pack neg hlt, he]⟩

theorem sgn_of (n : Int) (neg : Bool) (h : n ≠ 0 → neg = decide (n < 0)) : sgn neg (n.natAbs * 2 ^ 1068) = n * 2 ^ 1068 := by
  have e : ((n.natAbs * 2 ^ 1068 : Nat) : Int) = (n.natAbs : Int) * 2 ^ 1068 := by rw [Int.natCast_mul]; congr 1
  unfold sgn
  rw [e]
  generalize (2 : Int) ^ 1068 = K
  by_cases h0 : n = 0
  · subst h0; simp
  · rw [h h0]
    by_cases h1 : n < 0
    · simp only [h1, decide_true, if_true]
      rw [← Int.neg_mul]; congr 1; omega
    · simp only [h1, decide_false]
      rw [if_neg (by decide)]
      congr 1; omega

theorem Is.dec {x : UInt64} {n : Int} (h : Is x n) : ∃ a m e, decode x = .fin a m e := h.1
theorem Is.fin {x : UInt64} {n : Int} (h : Is x n) : isFinite x = true := by
  obtain ⟨⟨a, m, e, d⟩, _⟩ := h
  unfold isFinite; rw [d]
theorem Is.notInf {x : UInt64} {n : Int} (h : Is x n) : ¬ isInf x = true := by
  obtain ⟨⟨a, m, e, d⟩, _⟩ := h
  unfold isInf; rw [d]; simp
theorem Is.notNaN {x : UInt64} {n : Int} (h : Is x n) : isNaN x = false := by
  obtain ⟨⟨a, m, e, d⟩, _⟩ := h
  unfold isNaN; rw [d]
theorem K_pos : (0 : Int) < 2 ^ 1068 := by decide +kernel
theorem natAbs_K (n : Int) : (n * 2 ^ 1068).natAbs = n.natAbs * 2 ^ 1068 := by rw [Int.natAbs_mul]; congr 1
theorem neg_K (n : Int) : decide (n * 2 ^ 1068 < 0) = decide (n < 0) := by
  have := K_pos
  generalize (2 : Int) ^ 1068 = K at *
  by_cases h : n < 0
  · rw [decide_eq_true h, decide_eq_true (Int.mul_neg_of_neg_of_pos h this)]
  · rw [decide_eq_false h, decide_eq_false]
    exact Int.not_lt.mpr (Int.mul_nonneg (Int.not_lt.mp h) (Int.le_of_lt this))
theorem zero_K {n : Int} : n * 2 ^ 1068 = 0 ↔ n = 0 := by
  have := K_pos
  generalize (2 : Int) ^ 1068 = K at *
  rw [Int.mul_eq_zero]
  constructor
  · rintro (h | h)
    · exact h
    · omega
  · exact .inl

theorem Is.zero (b : Bool) : Is (zero b) 0 := by
  have hlt : 0 < infMag := by decide
  obtain ⟨m, e, d, _⟩ := decode_pack b hlt
  refine ⟨⟨_, _, _, d⟩, ?_⟩
  show val (pack b 0) = _
  rw [val_pack b hlt, V_zero, Int.zero_mul]
  cases b <;> rfl
theorem Is.add {x y : UInt64} {a b : Int} (hx : Is x a) (hy : Is y b) (h : (a + b).natAbs < 2 ^ 53) : Is (add x y) (a + b) := by
  obtain ⟨⟨sa, m, e, dx⟩, vx⟩ := hx
  obtain ⟨⟨sb, k, f, dy⟩, vy⟩ := hy
  obtain ⟨h0, h1⟩ := add_right dx dy
  have hs : val x + val y = (a + b) * 2 ^ 1068 := by rw [vx, vy, Int.add_mul]
  rw [hs] at h0 h1
  by_cases hz : a + b = 0
  · rw [h0 (by rw [hz]; simp), hz]; exact Is.zero _
  · have r := h1 (by rw [Ne, zero_K]; exact hz)
    rw [neg_K, natAbs_K] at r
    obtain ⟨⟨m', e', d⟩, v⟩ := right_exact (k := (a + b).natAbs) r (by decide) (by rw [Nat.one_mul]) h
    exact ⟨⟨_, _, _, d⟩, by rw [v, sgn_of _ _ fun _ => rfl]⟩
theorem Is.neg {x : UInt64} {a : Int} (hx : Is x a) : Is (neg x) (-a) := by
  obtain ⟨⟨sa, m, e, dx⟩, vx⟩ := hx
  exact ⟨⟨_, _, _, neg_decode dx⟩, by rw [neg_val dx, vx, Int.neg_mul]⟩
theorem Is.sub {x y : UInt64} {a b : Int} (hx : Is x a) (hy : Is y b) (h : (a - b).natAbs < 2 ^ 53) : Is (sub x y) (a - b) := by
  have := Is.add hx hy.neg (by rwa [← Int.sub_eq_add_neg])
  rw [← Int.sub_eq_add_neg] at this
  unfold Float64.sub
  exact this
theorem sgn_sign {s : Bool} {m : Nat} (h : sgn s m ≠ 0) : s = decide (sgn s m < 0) := by
  unfold sgn at *
  cases s
  · simp
  · simp only [if_true] at *
    rw [decide_eq_true]; omega
theorem Is.sign {x : UInt64} {n : Int} {a : Bool} {m : Nat} {e : Int} (h : Is x n) (d : decode x = .fin a m e) (hn : n ≠ 0) : a = decide (n < 0) := by
  have v := h.2
  rw [val_eq d] at v
  rw [sgn_sign (s := a) (m := m * 2 ^ (e + 1074).toNat) (by rw [v]; exact fun q => hn (zero_K.mp q)), v, neg_K]
theorem Is.mul {x y : UInt64} {a b c : Int} (hx : Is x a) (hy : Is y b) (hc : a * b = 64 * c) (h : c.natAbs < 2 ^ 53) : Is (mul x y) c := by
  have hx' := hx
  have hy' := hy
  obtain ⟨⟨sa, m, e, dx⟩, vx⟩ := hx
  obtain ⟨⟨sb, k, f, dy⟩, vy⟩ := hy
  have r := mul_right dx dy
  have hab : a.natAbs * b.natAbs = 64 * c.natAbs := by rw [← Int.natAbs_mul, hc, Int.natAbs_mul]; rfl
  have hW : (val x).natAbs * (val y).natAbs = 2 ^ 1074 * (c.natAbs * 2 ^ 1068) := by
    rw [vx, vy, natAbs_K, natAbs_K]
    have e1 : (2 : Nat) ^ 1074 = 64 * 2 ^ 1068 := by decide +kernel
    rw [e1]
    generalize (2 : Nat) ^ 1068 = K
    calc a.natAbs * K * (b.natAbs * K) = a.natAbs * b.natAbs * (K * K) := by ac_rfl
      _ = 64 * c.natAbs * (K * K) := by rw [hab]
      _ = 64 * K * (c.natAbs * K) := by ac_rfl
  obtain ⟨⟨m', e', d⟩, v⟩ := right_exact r (Nat.two_pow_pos _) hW h
  refine ⟨⟨_, _, _, d⟩, ?_⟩
  rw [v, sgn_of]
  intro hc0
  have ha : a ≠ 0 := fun z => hc0 (by rw [z] at hc; omega)
  have hb : b ≠ 0 := fun z => hc0 (by rw [z] at hc; omega)
  rw [hx'.sign dx ha, hy'.sign dy hb]
  have s1 : a * b < 0 ↔ c < 0 := by omega
  by_cases h1 : a < 0 <;> by_cases h2 : b < 0
  · have : 0 < a * b := Int.mul_pos_of_neg_of_neg h1 h2
    simp [h1, h2]; omega
  · have : a * b < 0 := Int.mul_neg_of_neg_of_pos h1 (by omega)
    simp [h1, h2]; omega
  · have : a * b < 0 := Int.mul_neg_of_pos_of_neg (by omega) h2
    simp [h1, h2]; omega
  · have : 0 < a * b := Int.mul_pos (by omega) (by omega)
    simp [h1, h2]; omega
theorem Is.mant {x : UInt64} {n : Int} {a : Bool} {m : Nat} {e : Int} (h : Is x n) (d : decode x = .fin a m e) : m = 0 ↔ n = 0 := by
  have v := h.2
  rw [val_eq d] at v
  have hp : 0 < 2 ^ (e + 1074).toNat := Nat.two_pow_pos _
  have hv := congrArg Int.natAbs v
  rw [sgn_natAbs, natAbs_K] at hv
  have hq : 0 < 2 ^ 1068 := Nat.two_pow_pos _
  generalize (2 : Nat) ^ 1068 = K at *
  generalize 2 ^ (e + 1074).toNat = J at *
  constructor
  · intro q; subst q
    rw [Nat.zero_mul] at hv
    rcases Nat.mul_eq_zero.mp hv.symm with z | z
    · omega
    · omega
  · intro q; subst q
    rw [Int.natAbs_zero, Nat.zero_mul] at hv
    rcases Nat.mul_eq_zero.mp hv with z | z
    · exact z
    · omega
theorem Is.div {x y : UInt64} {a b c : Int} (hx : Is x a) (hy : Is y b) (hb : b ≠ 0) (hc : a * 64 = c * b) (h : c.natAbs < 2 ^ 53) : Is (div x y) c := by
  have hx' := hx
  have hy' := hy
  obtain ⟨⟨sa, m, e, dx⟩, vx⟩ := hx
  obtain ⟨⟨sb, k, f, dy⟩, vy⟩ := hy
  have r := div_right dx dy (fun q => hb ((hy'.mant dy).mp q))
  have hab : a.natAbs * 64 = c.natAbs * b.natAbs := by
    have := congrArg Int.natAbs hc
    rw [Int.natAbs_mul, Int.natAbs_mul] at this
    exact this
  have hD : 0 < (val y).natAbs := by
    rw [vy, natAbs_K]
    exact Nat.mul_pos (by omega) (Nat.two_pow_pos _)
  have hW : (val x).natAbs * 2 ^ 1074 = (val y).natAbs * (c.natAbs * 2 ^ 1068) := by
    rw [vx, vy, natAbs_K, natAbs_K]
    have e1 : (2 : Nat) ^ 1074 = 64 * 2 ^ 1068 := by decide +kernel
    rw [e1]
    generalize (2 : Nat) ^ 1068 = K
    calc a.natAbs * K * (64 * K) = a.natAbs * 64 * (K * K) := by ac_rfl
      _ = c.natAbs * b.natAbs * (K * K) := by rw [hab]
      _ = b.natAbs * K * (c.natAbs * K) := by ac_rfl
  obtain ⟨⟨m', e', d⟩, v⟩ := right_exact r hD hW h
  refine ⟨⟨_, _, _, d⟩, ?_⟩
  rw [v, sgn_of]
  intro hc0
  have ha : a ≠ 0 := fun z => by
    rw [z, Int.zero_mul] at hc
    rcases Int.mul_eq_zero.mp hc.symm with q | q
    · exact hc0 q
    · exact hb q
  rw [hx'.sign dx ha, hy'.sign dy hb]
  by_cases h1 : c < 0 <;> by_cases h2 : b < 0
  · have : 0 < c * b := Int.mul_pos_of_neg_of_neg h1 h2
    simp [h1, h2]; omega
  · have : c * b < 0 := Int.mul_neg_of_neg_of_pos h1 (by omega)
    simp [h1, h2]; omega
  · have : c * b < 0 := Int.mul_neg_of_pos_of_neg (by omega) h2
    simp [h1, h2]; omega
  · have : 0 < c * b := Int.mul_pos (by omega) (by omega)
    simp [h1, h2]; omega
theorem Is.frac {neg : Bool} {n d : Nat} {c : Int} (hd : 0 < d) (hc : n * 64 = c.natAbs * d) (hs : c ≠ 0 → neg = decide (c < 0)) (h : c.natAbs < 2 ^ 53) : Is (ofFrac neg n d) c := by
  have r : Right (ofFrac neg n d) neg (c.natAbs * 2 ^ 1068) 1 := by
    refine ofFrac_right hd ?_ (by decide)
    have e1 : (2 : Nat) ^ 1074 = 64 * 2 ^ 1068 := by decide +kernel
    rw [e1]
    generalize (2 : Nat) ^ 1068 = K
    calc n * (64 * K) * 1 = n * 64 * K := by rw [Nat.mul_one, Nat.mul_assoc]
      _ = c.natAbs * d * K := by rw [hc]
      _ = c.natAbs * K * d := by ac_rfl
  obtain ⟨⟨m', e', dd⟩, v⟩ := right_exact r (by decide) (by rw [Nat.one_mul]) h
  exact ⟨⟨_, _, _, dd⟩, by rw [v, sgn_of _ _ hs]⟩
theorem Is.ofInt {i : Int} (h : i.natAbs < 2 ^ 46) : Is (ofInt i) (64 * i) := by
  unfold Float64.ofInt
  refine Is.frac (by decide) (by omega) (fun _ => ?_) (by omega)
  by_cases q : i < 0
  · rw [decide_eq_true q, decide_eq_true]; omega
  · rw [decide_eq_false q, decide_eq_false]; omega
theorem compare_K (a b : Int) : compare (a * 2 ^ 1068) (b * 2 ^ 1068) = compare a b := by
  have := K_pos
  generalize (2 : Int) ^ 1068 = K at *
  rcases Int.lt_trichotomy a b with h | h | h
  · rw [Int.compare_eq_lt.mpr h, Int.compare_eq_lt.mpr (Int.mul_lt_mul_of_pos_right h this)]
  · subst h; simp
  · rw [Int.compare_eq_gt.mpr h, Int.compare_eq_gt.mpr (Int.mul_lt_mul_of_pos_right h this)]
theorem Is.cmp {x y : UInt64} {a b : Int} (hx : Is x a) (hy : Is y b) : cmp x y = some (compare a b) := by
  obtain ⟨⟨sa, m, e, dx⟩, vx⟩ := hx
  obtain ⟨⟨sb, k, f, dy⟩, vy⟩ := hy
  rw [cmp_right dx dy, vx, vy, compare_K]
theorem Is.cmpInt {x : UInt64} {a : Int} (hx : Is x a) (i : Int) : cmpInt x i = some (compare a (64 * i)) := by
  obtain ⟨⟨sa, m, e, dx⟩, vx⟩ := hx
  have e1 : i * 2 ^ 1074 = 64 * i * 2 ^ 1068 := by
    have : (2 : Int) ^ 1074 = 64 * 2 ^ 1068 := by decide +kernel
    rw [this, ← Int.mul_assoc, Int.mul_comm i 64]
  rw [cmpInt_right dx, vx, e1, compare_K]
theorem Is.isZero {x : UInt64} {a : Int} (hx : Is x a) : isZero x = decide (a = 0) := by
  have hx' := hx
  obtain ⟨⟨sa, m, e, dx⟩, vx⟩ := hx
  have := hx'.mant dx
  unfold Float64.isZero
  rw [dx]
  by_cases h : a = 0
  · rw [decide_eq_true h]
    have := this.mpr h
    subst this; rfl
  · rw [decide_eq_false h]
    cases m with
    | zero => exact absurd (this.mp rfl) h
    | succ m => rfl
theorem Is.abs {x : UInt64} {a : Int} (hx : Is x a) : Is (abs x) (a.natAbs : Int) := by
  have hn := hx.notNaN
  obtain ⟨⟨sa, m, e, dx⟩, vx⟩ := hx
  have key : decode (Float64.abs x) = .fin false m e := by
    unfold Float64.abs
    rw [hn]
    simp only [Bool.false_eq_true, if_false]
    unfold decode at dx ⊢
    have ht : (pack false (x.toNat % 2 ^ 63)).toNat = x.toNat % 2 ^ 63 := by
      rw [pack_toNat false (Nat.mod_lt _ (by decide))]; simp
    simp only [ht]
    simp only at dx
    have e1 : x.toNat % 2 ^ 63 / 2 ^ 52 % 2048 = x.toNat / 2 ^ 52 % 2048 := by omega
    have e2 : x.toNat % 2 ^ 63 % 2 ^ 52 = x.toNat % 2 ^ 52 := by omega
    have e3 : (x.toNat % 2 ^ 63 / 2 ^ 63 == 1) = false := by
      rw [Nat.div_eq_of_lt (Nat.mod_lt _ (by decide))]; rfl
    rw [e1, e2, e3]
    split at dx
    · split at dx <;> cases dx
    · rename_i h1
      rw [if_neg h1]
      split at dx
      · rename_i h2
        rw [if_pos h2]; cases dx; rfl
      · rename_i h2
        rw [if_neg h2]; cases dx; rfl
  refine ⟨⟨_, _, _, key⟩, ?_⟩
  rw [val_eq key]
  rw [val_eq dx] at vx
  have hv := congrArg Int.natAbs vx
  rw [sgn_natAbs, natAbs_K] at hv
  unfold sgn
  rw [hv]
  simp only [Bool.false_eq_true, if_false]
  rw [Int.natCast_mul]
  congr 1
theorem Is.lt {x y : UInt64} {a b : Int} (hx : Is x a) (hy : Is y b) : lt x y = decide (a < b) := by
  unfold Float64.lt
  rw [hx.cmp hy]
  rcases Int.lt_trichotomy a b with h | h | h
  · rw [Int.compare_eq_lt.mpr h, decide_eq_true h]; rfl
  · subst h; simp
  · rw [Int.compare_eq_gt.mpr h, decide_eq_false (by omega)]; rfl
theorem Is.gt {x y : UInt64} {a b : Int} (hx : Is x a) (hy : Is y b) : gt x y = decide (b < a) := by
  unfold Float64.gt
  rw [hx.cmp hy]
  rcases Int.lt_trichotomy a b with h | h | h
  · rw [Int.compare_eq_lt.mpr h, decide_eq_false (by omega)]; rfl
  · subst h; simp
  · rw [Int.compare_eq_gt.mpr h, decide_eq_true (by omega)]; rfl
theorem Is.eq {x y : UInt64} {a b : Int} (hx : Is x a) (hy : Is y b) : (Float64.cmp x y == some .eq) = decide (a = b) := by
  rw [hx.cmp hy]
  rcases Int.lt_trichotomy a b with h | h | h
  · rw [Int.compare_eq_lt.mpr h, decide_eq_false (by omega)]; rfl
  · subst h; simp
  · rw [Int.compare_eq_gt.mpr h, decide_eq_false (by omega)]; rfl
/-- x * y + z where the product and the sum are exact -/
theorem Is.fma {x y z : UInt64} {a b c d : Int} (hx : Is x a) (hy : Is y b) (hz : Is z d) (hc : a * b = 64 * c) (h : (c + d).natAbs < 2 ^ 53) : Is (fma x y z) (c + d) := by
  obtain ⟨⟨sa, m, e, dx⟩, vx⟩ := hx
  obtain ⟨⟨sb, k, f, dy⟩, vy⟩ := hy
  obtain ⟨⟨sc, n, g, dz⟩, vz⟩ := hz
  have he := decode_ge dx
  have hf := decode_ge dy
  have hg := decode_ge dz
  generalize hM : min (e + f) g = M
  have hM1 : M ≤ e + f := by omega
  have hM2 : M ≤ g := by omega
  have hM3 : -2148 ≤ M := by omega
  have hfma : Float64.fma x y z = (if sgn (sa != sb) (m * k * 2 ^ (e + f - M).toNat) + sgn sc (n * 2 ^ (g - M).toNat) == 0 then Float64.zero (if m * k == 0 && n == 0 then (sa != sb) && sc else false)
      else ofBin (decide (sgn (sa != sb) (m * k * 2 ^ (e + f - M).toNat) + sgn sc (n * 2 ^ (g - M).toNat) < 0)) (sgn (sa != sb) (m * k * 2 ^ (e + f - M).toNat) + sgn sc (n * 2 ^ (g - M).toNat)).natAbs M) := by
    unfold Float64.fma
    rw [dx, dy, dz]
    simp only [align, hM]
  -- both sides times 2 ^ (M + 2148)
  have hp : (sgn (sa != sb) (m * k * 2 ^ (e + f - M).toNat) + sgn sc (n * 2 ^ (g - M).toNat)) * ((2 ^ (M + 2148).toNat : Nat) : Int) = (c + d) * 2 ^ 1068 * 2 ^ 1074 := by
    rw [Int.add_mul, ← sgn_mul, ← sgn_mul, Nat.mul_assoc (m * k), Nat.mul_assoc n, ← Nat.pow_add, ← Nat.pow_add]
    have e1 : (e + f - M).toNat + (M + 2148).toNat = (e + 1074).toNat + (f + 1074).toNat := by omega
    have e2 : (g - M).toNat + (M + 2148).toNat = (g + 1074).toNat + 1074 := by omega
    rw [e1, e2, Nat.pow_add, Nat.pow_add]
    have v1 : sgn (sa != sb) (m * k * (2 ^ (e + 1074).toNat * 2 ^ (f + 1074).toNat)) = val x * val y := by
      rw [val_eq dx, val_eq dy]
      have : m * k * (2 ^ (e + 1074).toNat * 2 ^ (f + 1074).toNat) = (m * 2 ^ (e + 1074).toNat) * (k * 2 ^ (f + 1074).toNat) := by ac_rfl
      rw [this]
      generalize m * 2 ^ (e + 1074).toNat = p
      generalize k * 2 ^ (f + 1074).toNat = q
      unfold sgn
      cases sa <;> cases sb <;> simp [Int.neg_mul, Int.mul_neg]
    have v2 : sgn sc (n * (2 ^ (g + 1074).toNat * 2 ^ 1074)) = val z * 2 ^ 1074 := by
      rw [val_eq dz, ← Nat.mul_assoc, sgn_mul]
      congr 1
    rw [v1, v2, vx, vy, vz]
    have e3 : (2 : Int) ^ 1074 = 64 * 2 ^ 1068 := by decide +kernel
    rw [e3]
    generalize (2 : Int) ^ 1068 = K
    calc a * K * (b * K) + d * K * (64 * K) = a * b * (K * K) + d * K * (64 * K) := by ac_rfl
      _ = 64 * c * (K * K) + d * K * (64 * K) := by rw [hc]
      _ = c * K * (64 * K) + d * K * (64 * K) := by congr 1; ac_rfl
      _ = (c + d) * K * (64 * K) := by rw [← Int.add_mul, ← Int.add_mul]
  generalize sgn (sa != sb) (m * k * 2 ^ (e + f - M).toNat) + sgn sc (n * 2 ^ (g - M).toNat) = S at hfma hp
  have hpos : (0 : Int) < ((2 ^ (M + 2148).toNat : Nat) : Int) := Int.ofNat_lt.mpr (Nat.two_pow_pos _)
  have hK2 : (0 : Int) < 2 ^ 1074 := by decide +kernel
  by_cases hz0 : S = 0
  · have : c + d = 0 := by
      rw [hz0, Int.zero_mul] at hp
      rcases Int.mul_eq_zero.mp hp.symm with q | q
      · exact zero_K.mp q
      · omega
    rw [hfma, hz0, this]
    simp only [beq_self_eq_true, if_true]
    exact Is.zero _
  · rw [hfma, if_neg (by simpa using hz0)]
    have hcd : c + d ≠ 0 := fun q => hz0 (by
      rw [q, Int.zero_mul, Int.zero_mul] at hp
      rcases Int.mul_eq_zero.mp hp with r | r
      · exact r
      · omega)
    have hneg : decide (S < 0) = decide (c + d < 0) := by
      have h1 : S < 0 ↔ c + d < 0 := by
        have k1 := K_pos
        constructor
        · intro q
          have : (c + d) * 2 ^ 1068 * 2 ^ 1074 < 0 := by rw [← hp]; exact Int.mul_neg_of_neg_of_pos q hpos
          apply Int.lt_of_not_ge
          intro r
          have : 0 ≤ (c + d) * 2 ^ 1068 * 2 ^ 1074 := Int.mul_nonneg (Int.mul_nonneg r (Int.le_of_lt k1)) (Int.le_of_lt hK2)
          omega
        · intro q
          have : S * ((2 ^ (M + 2148).toNat : Nat) : Int) < 0 := by rw [hp]; exact Int.mul_neg_of_neg_of_pos (Int.mul_neg_of_neg_of_pos q k1) hK2
          apply Int.lt_of_not_ge
          intro r
          have : 0 ≤ S * ((2 ^ (M + 2148).toNat : Nat) : Int) := Int.mul_nonneg r (Int.le_of_lt hpos)
          omega
      by_cases q : S < 0
      · rw [decide_eq_true q, decide_eq_true (h1.mp q)]
      · rw [decide_eq_false q, decide_eq_false fun r => q (h1.mpr r)]
    have hmag : S.natAbs * 2 ^ (M + 2148).toNat = (c + d).natAbs * 2 ^ 1068 * 2 ^ 1074 := by
      have := congrArg Int.natAbs hp
      rw [Int.natAbs_mul, Int.natAbs_mul, natAbs_K] at this
      exact this
    have r : Right (ofBin (decide (S < 0)) S.natAbs M) (decide (S < 0)) ((c + d).natAbs * 2 ^ 1068) 1 := by
      unfold ofBin
      refine ofFrac_right (shift_pos _ _ _ (by decide)) ?_ (by decide)
      have s := shift_one S.natAbs M 2148 (by omega)
      rw [Nat.mul_one]
      have s' : (shift S.natAbs 1 M).1 * 2 ^ 2148 = (c + d).natAbs * 2 ^ 1068 * 2 ^ 1074 * (shift S.natAbs 1 M).2 := by rw [s]; congr 1
      have e4 : (2 : Nat) ^ 2148 = 2 ^ 1074 * 2 ^ 1074 := by decide +kernel
      rw [e4] at s'
      refine Nat.eq_of_mul_eq_mul_right (Nat.two_pow_pos 1074) ?_
      generalize (2 : Nat) ^ 1074 = J at *
      generalize (2 : Nat) ^ 1068 = K at *
      calc (shift S.natAbs 1 M).1 * J * J = (shift S.natAbs 1 M).1 * (J * J) := by ac_rfl
        _ = _ := s'
        _ = (c + d).natAbs * K * (shift S.natAbs 1 M).2 * J := by ac_rfl
    obtain ⟨⟨m', e', dd⟩, v⟩ := right_exact r (by decide) (by rw [Nat.one_mul]) h
    exact ⟨⟨_, _, _, dd⟩, by rw [v, sgn_of _ _ fun _ => hneg]⟩
end Mine
end

section
namespace Mine
open PySem PySem.Float64 PySem.W PySem.Calls PyProof.Rows

/-- the partials of fsum: none, or one that is the sum so far -/
inductive FSt : List UInt64 → Int → Prop
  | nil : FSt [] 0
  | one {p : UInt64} {k : Int} : Is p k → k ≠ 0 → FSt [p] k
theorem fsum_step {ps : List UInt64} {k b : Int} {x : UInt64} (h : FSt ps k) (hx : Is x b) (h1 : k.natAbs < 2 ^ 50) (h2 : b.natAbs < 2 ^ 50) :
    isFinite (fsumAdd ps x).2 = true ∧ FSt (if isZero (fsumAdd ps x).2 then (fsumAdd ps x).1 else (fsumAdd ps x).1 ++ [(fsumAdd ps x).2]) (k + b) := by
  have last : ∀ {t : UInt64} {n : Int}, Is t n → FSt (if isZero t then [] else [] ++ [t]) n := fun {t n} ht => by
    rw [ht.isZero]
    by_cases hn : n = 0
    · subst hn; simp; exact .nil
    · simp [hn]; exact .one ht hn
  cases h with
  | nil =>
    unfold fsumAdd
    rw [Int.zero_add]
    exact ⟨hx.fin, last hx⟩
  | one hp hk =>
    rename_i p
    have key : ∀ {u v : UInt64} {c d : Int}, Is u c → Is v d → c + d = k + b → c.natAbs < 2 ^ 50 → d.natAbs < 2 ^ 50 →
        Is (add u v) (k + b) ∧ isZero (sub v (sub (add u v) u)) = true := fun {u v c d} hu hv e c1 c2 => by
      have hi := Is.add hu hv (by omega)
      rw [e] at hi
      refine ⟨hi, ?_⟩
      have l1 := Is.sub hi hu (by omega)
      have l2 := Is.sub hv l1 (by omega)
      rw [l2.isZero, decide_eq_true]; omega
    unfold fsumAdd
    simp only [fsumAdd]
    by_cases c : lt (Float64.abs x) (Float64.abs p) = true
    · obtain ⟨a1, a2⟩ := key hp hx rfl h1 h2
      simp only [c, if_true, a2]
      exact ⟨a1.fin, last a1⟩
    · obtain ⟨a1, a2⟩ := key hx hp (Int.add_comm _ _) h2 h1
      simp only [c, if_false, a2, if_true, Bool.false_eq_true]
      exact ⟨a1.fin, last a1⟩
theorem fsum_end {ps : List UInt64} {k : Int} (h : FSt ps k) : Is (fsumEnd ps) k := by
  cases h with
  | nil => exact Is.zero _
  | one hp hk => exact hp

/-- the triple of sumprod: the sum so far, and two nothings -/
def TSt (t : UInt64 × UInt64 × UInt64) (k : Int) : Prop := Is t.1 k ∧ Is t.2.1 0 ∧ Is t.2.2 0
open PySem.Builtin.Math in
theorem dlSum_exact {a b : UInt64} {m n : Int} (ha : Is a m) (hb : Is b n) (h1 : m.natAbs < 2 ^ 50) (h2 : n.natAbs < 2 ^ 50) : Is (dlSum a b).1 (m + n) ∧ Is (dlSum a b).2 0 := by
  have hx := Is.add ha hb (by omega)
  refine ⟨hx, ?_⟩
  have hz := Is.sub hx ha (by omega)
  have u1 := Is.sub hx hz (by omega)
  have u2 := Is.sub ha u1 (by omega)
  have u3 := Is.sub hb hz (by omega)
  have u4 := Is.add u2 u3 (by omega)
  have e : m - (m + n - (m + n - m)) + (n - (m + n - m)) = 0 := by omega
  rw [e] at u4
  exact u4
open PySem.Builtin.Math in
theorem tl_step {x y : UInt64} {t : UInt64 × UInt64 × UInt64} {a b c k : Int} (h : TSt t k) (hx : Is x a) (hy : Is y b) (hc : a * b = 64 * c) (h1 : k.natAbs < 2 ^ 50) (h2 : c.natAbs < 2 ^ 50) : TSt (tlFma x y t) (k + c) := by
  obtain ⟨t1, t2, t3⟩ := h
  have z := Is.mul hx hy hc (by omega)
  have pr : Is (dlMul x y).2 0 := by
    have := Is.fma hx hy z.neg hc (by omega)
    rw [Int.add_right_neg] at this
    exact this
  have sm := dlSum_exact t1 z h1 h2
  have r1 := dlSum_exact t2 pr (by decide) (by decide)
  have r2 := dlSum_exact r1.1 sm.2 (by decide) (by decide)
  exact ⟨sm.1, r2.1, Is.add (Is.add t3 r1.2 (by decide)) r2.2 (by decide)⟩
open PySem.Builtin.Math in
theorem tl_end {t : UInt64 × UInt64 × UInt64} {k : Int} (h : TSt t k) (h1 : k.natAbs < 2 ^ 50) : Is (tlToFloat t) k := by
  obtain ⟨t1, t2, t3⟩ := h
  have l := dlSum_exact t2 t1 (by decide) h1
  have := Is.add (Is.add t3 l.2 (by decide)) l.1 (by omega)
  have e : (0 : Int) + 0 + (0 + k) = k := by omega
  rw [e] at this
  exact this
theorem toU64 (c : UInt64) : ((c.toNat : Int)).toNat.toUInt64 = c := by simp

theorem kind_fsum : builtinKind "math.fsum" = none := by decide +kernel
theorem plain_fsum : plainId "math.fsum" = true := by decide +kernel
theorem entry_fsum : entryFor table "math.fsum" = some Builtin.«math.fsum» := entryFor_of_fast (by kernel_rfl)
theorem args_fsum (a : Value) : argsOk "math.fsum" ⟨[a], []⟩ := by unfold argsOk; kernel_rfl
theorem plain_fsumL : plainId "math.fsum.loop" = true := by decide +kernel
theorem entry_fsumL : entryFor table "math.fsum.loop" = some Builtin.«math.fsum.loop» := entryFor_of_fast (by kernel_rfl)
theorem kind_sp : builtinKind "math.sumprod" = none := by decide +kernel
theorem plain_sp : plainId "math.sumprod" = true := by decide +kernel
theorem entry_sp : entryFor table "math.sumprod" = some Builtin.«math.sumprod» := entryFor_of_fast (by kernel_rfl)
theorem args_sp (a b : Value) : argsOk "math.sumprod" ⟨[a, b], []⟩ := by unfold argsOk; kernel_rfl
theorem plain_spL : plainId "math.sumprod.loop" = true := by decide +kernel
theorem entry_spL : entryFor table "math.sumprod.loop" = some Builtin.«math.sumprod.loop» := entryFor_of_fast (by kernel_rfl)

/-- a number that a Python value bears: an int or a float -/
inductive Bears : Value → Int → Prop
  | int {i : Int} {t : Tok} : i.natAbs < 2 ^ 40 → Bears (.int i t) (64 * i)
  | float {x : UInt64} {t : Tok} {n : Int} : Is x n → Bears (.float x t) n

theorem real_bears {prog : Program} {w : World} {A : Around} {E : Value → Shared → Prop} {s : Shared} {v : Value} {n : Int} {Q : UInt64 → Shared → Prop} (hA : A.handled = none) (hv : Bears v n)
    (h : ∀ x tk, Is x n → s.toks ≤ tk → Q x { s with toks := tk }) : wpAny (model prog w) A (Builtin.Math.realArg v) Q E s := by
  cases hv with
  | int hi =>
    have ho : ¬ PySem.Flt.Over _ := fun o => by
      have : (2 : Nat) ^ 40 ≤ 2 ^ 1024 - 2 ^ 970 := by decide +kernel
      exact absurd (Nat.lt_of_lt_of_le hi (Nat.le_trans this o)) (Nat.lt_irrefl _)
    exact PySem.Flt.realArg_int hA (fun o => absurd o ho) fun _ => h _ _ (Is.ofInt (by omega)) (Nat.le_succ _)
  | float hx =>
    have q := h _ s.toks hx (Nat.le_refl _)
    unfold Builtin.Math.realArg
    refine wpAny_bind (m := Builtin.Float.asFloat? (.float _ _)) (wpAny_pure ?_)
    exact wpAny_pure q
end Mine
end

section
namespace Mine
open PySem

theorem size_update (h : Heap) (a : Addr) (f : Obj → Obj) : (h.update a f).objs.size = h.objs.size := by
  obtain ⟨o, l⟩ := h
  simp [Heap.update]
theorem runs_size {M : Model} {Γ : Ctx} {p : Pos} {t : Sem Fin} {fs : List Frame} {s s' : Shared} {e : End} (h : Runs M Γ p t fs s e s') : s.heap.objs.size ≤ s'.heap.objs.size := by
  induction h <;> (try simp only [Shared.setGen, size_update, Heap.size_push] at *) <;> omega
theorem returns_size {M : Model} {Γ : Ctx} {p : Pos} {s s' : Shared} {r : Result} (h : Returns M Γ p s r s') : s.heap.objs.size ≤ s'.heap.objs.size := runs_size h
theorem wakes_size {M : Model} {Γ : Ctx} {p : Pos} {g : Nat} {r : Resume} {s s' : Shared} {res : GenResult} (h : Wakes M Γ p g r s res s') : s.heap.objs.size ≤ s'.heap.objs.size := by
  unfold Wakes at h
  split at h
  · exact h.elim
  · split at h
    · obtain ⟨e₁, s₁, hr, _, _, rfl⟩ := h; exact (runs_size hr : (s.setGen g .running).heap.objs.size ≤ s₁.heap.objs.size)
    · rw [h.2]; exact Nat.le_refl _
    · rw [h.2]; exact Nat.le_refl _
  · obtain ⟨e₁, s₁, hr, _, _, rfl⟩ := h; exact (runs_size hr : (s.setGen g .running).heap.objs.size ≤ s₁.heap.objs.size)
  · rw [h.2]; exact Nat.le_refl _
  · rw [h.2]; exact Nat.le_refl _
theorem wp_size {α : Type} (M : Model) (Γ : Ctx) (n : Nat) (t : Sem α) : ∀ (Q : α → Pos → Shared → Prop) (E : Value → Pos → Shared → Prop) (p : Pos) (s : Shared), n ≤ s.heap.objs.size → Sem.wp M Γ t Q E p s →
    Sem.wp M Γ t (fun a p' s' => n ≤ s'.heap.objs.size ∧ Q a p' s') (fun e p' s' => n ≤ s'.heap.objs.size ∧ E e p' s') p s := by
  induction t with
  | pure a => intro Q E p s hn h; exact ⟨hn, h⟩
  | raise e => intro Q E p s hn h; exact ⟨hn, h⟩
  | unsupported _ => intro Q E p s _ h; exact h
  | finish _ => intro Q E p s _ h; exact h
  | rule _ k ih => intro Q E p s hn h; exact ih () Q E p s hn h
  | «at» p' k ih => intro Q E p s hn h; exact ih () Q E p' s hn h
  | load a _ k ih => intro Q E p s hn h; obtain ⟨o, ho, h⟩ := h; exact ⟨o, ho, ih o Q E p s hn h⟩
  | update a _ f k ih => intro Q E p s hn h; exact ⟨h.1, ih () Q E p _ (by show n ≤ (s.heap.update a f).objs.size; rw [size_update]; exact hn) h.2⟩
  | loadIfAlive a k ih => intro Q E p s hn h; exact ih _ Q E p s hn h
  | point _ k ih => intro Q E p s hn h; exact ih () Q E p s hn h
  | register _ _ => intro Q E p s _ h; exact h
  | alloc o k ih => intro Q E p s hn h; exact ih _ Q E p _ (by show n ≤ (s.heap.push o).objs.size; rw [Heap.size_push]; omega) h
  | fresh k ih => intro Q E p s hn h; exact ih _ Q E p _ hn h
  | ask k ih => intro Q E p s hn h; exact ih _ Q E p s hn h
  | choose src m k ih => intro Q E p s hn h; exact ⟨h.1, ih _ Q E p _ hn h.2⟩
  | os q _ k ih => intro Q E p s hn h; exact ih _ Q E p _ hn h
  | call c hd _ _ k ih => intro Q E p s hn h; obtain ⟨r, s', hr, h⟩ := h; exact ⟨r, s', hr, ih r Q E p s' (Nat.le_trans hn (returns_size hr)) h⟩
  | handled own k ih => intro Q E p s hn h; exact ih _ Q E p s hn h
  | genState g k ih => intro Q E p s hn h; obtain ⟨st, hs, h⟩ := h; exact ⟨st, hs, ih _ Q E p s hn h⟩
  | newGen c k ih => intro Q E p s hn h; exact ih _ Q E p _ hn h
  | resume g r _ k ih => intro Q E p s hn h; obtain ⟨res, s', hw, h⟩ := h; exact ⟨res, s', hw, ih res Q E p s' (Nat.le_trans hn (wakes_size hw)) h⟩
  | yield _ _ _ _ => intro Q E p s _ h; exact h
  | stack k ih => intro Q E p s hn h; exact ih _ Q E p s hn h
  | fork _ _ => intro Q E p s _ h; exact h
  | thread k ih => intro Q E p s hn h; exact ih _ Q E p s hn h
  | await _ _ _ _ _ => intro Q E p s _ h; exact h
/-- the heap never shrinks -/
theorem wpAny_size {α : Type} {M : Model} {A : Around} {s : Shared} {t : Sem α} {Q : α → Shared → Prop} {E : Value → Shared → Prop} (h : wpAny M A t Q E s) :
    wpAny M A t (fun a s' => s.heap.objs.size ≤ s'.heap.objs.size ∧ Q a s') (fun e s' => s.heap.objs.size ≤ s'.heap.objs.size ∧ E e s') s :=
  fun Γ p hΓ => wp_size M Γ _ t _ _ p s (Nat.le_refl _) (h Γ p hΓ)
end Mine
end

section
namespace Mine
open PySem PySem.Float64 PySem.W PySem.Calls PyProof.Rows

/-- a list of values that bear a list of numbers -/
inductive AllBear : List Value → List Int → Prop
  | nil : AllBear [] []
  | cons {v : Value} {b : Int} {vs : List Value} {bs : List Int} : Bears v b → AllBear vs bs → AllBear (v :: vs) (b :: bs)
theorem AllBear.length_eq {vs : List Value} {bs : List Int} (h : AllBear vs bs) : vs.length = bs.length := by
  induction h with
  | nil => rfl
  | cons _ _ ih => simp [ih]
abbrev tupObj (its : List Value) : Obj := { cls := .type "tuple", data := .seq its.toArray }
abbrev rawBits (xs : List UInt64) : List Value := xs.map fun x => rawInt x.toNat
theorem unbits (xs : List UInt64) : ((rawBits xs).map fun v => match v with | .int i _ => i.toNat.toUInt64 | _ => 0) = xs := by
  induction xs with
  | nil => rfl
  | cons x r ih =>
    simp only [List.map_cons, rawBits] at ih ⊢
    rw [ih]
    congr 1
    exact toU64 x
theorem sum_take_succ (bs : List Int) (i : Nat) (b : Int) (h : bs[i]? = some b) : (bs.take (i + 1)).sum = (bs.take i).sum + b := by
  rw [List.take_add_one, h]; simp

section
variable {prog : Program} {w : World} {A : Around} {R : Result → Shared → Prop} {I : Addr} {fp wr : List Addr} {G : Array GenState → Array GenState → Prop} {P : Nat → Value → Prop} {St : Nat → Shared → Prop}
theorem next_item {n i : Nat} {s : Shared} {Q : Option Value → Shared → Prop} {E : Value → Shared → Prop} {A : Around} (W : WalksS prog w A I fp wr G n P St) (hlt : i < n) (hst : St i s)
    (h : ∀ v s', s.heap.objs.size ≤ s'.heap.objs.size → P i v → St (i + 1) s' → Moved wr G s s' → Q (some v) s') : wpAny (model prog w) A (pyNext (.ref I)) Q E s :=
  wpAny_mono (wpAny_size (W.item i s (fun o s' => ∃ v, o = some v ∧ P i v ∧ St (i + 1) s' ∧ Moved wr G s s') (fun _ _ => False) hlt hst fun v s' hP hst' hm => ⟨v, rfl, hP, hst', hm⟩))
    (fun o s' q => by obtain ⟨hsz, v, rfl, hP, hst', hm⟩ := q; exact h v s' hsz hP hst' hm) fun _ _ q => q.2.elim
theorem next_done {n : Nat} {s : Shared} {Q : Option Value → Shared → Prop} {E : Value → Shared → Prop} {A : Around} (W : WalksS prog w A I fp wr G n P St) (hst : St n s)
    (h : ∀ s', s.heap.objs.size ≤ s'.heap.objs.size → Moved wr G s s' → Q none s') : wpAny (model prog w) A (pyNext (.ref I)) Q E s :=
  wpAny_mono (wpAny_size (W.done s (fun o s' => o = none ∧ Moved wr G s s') (fun _ _ => False) hst fun s' hm => ⟨rfl, hm⟩))
    (fun o s' q => by obtain ⟨hsz, rfl, hm⟩ := q; exact h s' hsz hm) fun _ _ q => q.2.elim
theorem fst_len {ps : List UInt64} {k : Int} (h : FSt ps k) : (rawBits ps).length ≤ sizeLine := by
  rw [List.length_map]
  cases h <;> simp [sizeLine_eq]
theorem fsum_loop {bs : List Int} (W : WalksS prog w A.in1 I fp wr G bs.length P St) (hh : A.handled = none) (hval : ∀ i v, P i v → ∃ b, bs[i]? = some b ∧ Bears v b)
    (hb : ∀ i, i ≤ bs.length → (bs.take i).sum.natAbs < 2 ^ 50) (hb' : ∀ b ∈ bs, b.natAbs < 2 ^ 50) (Z : Addr) :
    ∀ (k i : Nat) (s : Shared) (T : Addr) (ps : List UInt64), FSt ps (bs.take i).sum → bs.length - i = k → i ≤ bs.length → St i s → (∀ b ∈ fp, b < s.heap.objs.size) → T ∉ fp → Z ∉ fp →
    s.heap.get? T = some (tupObj (rawBits ps)) → s.heap.get? Z = some (tupObj (rawBits [Float64.zero false, Float64.zero false])) →
    (∀ s' x t, Is x bs.sum → Moved wr G s s' → R (.ok (.ret (.float x t))) s') → codeAny (model prog w) A (.builtin "math.fsum.loop" ⟨[.ref I, .ref T, .ref Z], []⟩) R s := by
  intro k
  induction k with
  | zero =>
    intro i s T ps hps hk hi hst hfp hT hZ gT gZ hR
    have hin : i = bs.length := by omega
    subst hin
    refine codeAny_builtin entry_fsumL ?_
    rw [Around.under_plainId plain_fsumL _]
    show wpAny _ A.in1 ((seqItems? (.ref T) >>= fun o => pure ((o.getD #[]).toList.map fun v => match v with | .int i _ => i.toNat.toUInt64 | _ => 0)) >>= _) _ _ s
    refine wpAny_bind (wpAny_bind (wpAny_seqItems gT rfl (wpAny_pure ?_)))
    show wpAny _ A.in1 ((seqItems? (.ref Z) >>= fun o => pure ((o.getD #[]).toList.map fun v => match v with | .int i _ => i.toNat.toUInt64 | _ => 0)) >>= _) _ _ s
    refine wpAny_bind (wpAny_bind (wpAny_seqItems gZ rfl (wpAny_pure ?_)))
    simp only [Option.getD_some, unbits]
    refine wpAny_bind (W.done s _ _ hst fun s' hm => ?_)
    dsimp only
    rw [if_neg (by decide +kernel)]
    refine wpAny_bind (PySem.Flt.wp_mkFloat (wpAny_pure ?_))
    rw [List.take_length] at hps
    exact hR _ _ _ (fsum_end hps) (hm.then_heap (Nat.le_succ _) fun _ _ _ e => e)
  | succ k ih =>
    intro i s T ps hps hk hi hst hfp hT hZ gT gZ hR
    have hlt : i < bs.length := by omega
    refine codeAny_builtin entry_fsumL ?_
    rw [Around.under_plainId plain_fsumL _]
    show wpAny _ A.in1 ((seqItems? (.ref T) >>= fun o => pure ((o.getD #[]).toList.map fun v => match v with | .int i _ => i.toNat.toUInt64 | _ => 0)) >>= _) _ _ s
    refine wpAny_bind (wpAny_bind (wpAny_seqItems gT rfl (wpAny_pure ?_)))
    show wpAny _ A.in1 ((seqItems? (.ref Z) >>= fun o => pure ((o.getD #[]).toList.map fun v => match v with | .int i _ => i.toNat.toUInt64 | _ => 0)) >>= _) _ _ s
    refine wpAny_bind (wpAny_bind (wpAny_seqItems gZ rfl (wpAny_pure ?_)))
    simp only [Option.getD_some, unbits]
    refine wpAny_bind (next_item W hlt hst fun v s' hsz hP hst' hm => ?_)
    obtain ⟨b, hbi, hv⟩ := hval i v hP
    dsimp only
    refine wpAny_bind (wpAny_holding (real_bears hh hv fun x tk hx htk => ?_))
    obtain ⟨hf, hs⟩ := fsum_step hps hx (hb i hi) (hb' b (List.mem_of_getElem? hbi))
    rw [← sum_take_succ bs i b hbi] at hs
    rw [if_pos hf]
    generalize (if isZero (fsumAdd ps x).snd = true then (fsumAdd ps x).fst else (fsumAdd ps x).fst ++ [(fsumAdd ps x).snd]) = ps' at hs ⊢
    refine wpAny_bind (wpAny_newTuple (items := rawBits ps') ?_ (fst_len hs))
    have hTw : ∀ a, a ∉ fp → a ∉ wr := fun a ha hm => ha (W.sub _ hm)
    have gZ' := hm.heap Z _ (hTw Z hZ) gZ
    have hnew : s'.heap.objs.size ∉ fp := fun hq => Nat.lt_irrefl _ (Nat.lt_of_lt_of_le (hfp _ hq) hsz)
    refine wpAny_pure ⟨plainId_quiet plain_fsumL _, ih (i + 1) _ _ ps' hs (by omega) hlt (W.frame _ s' _ _ hst' htk fun b _ o e => Heap.get?_push_of_some _ e) (fun b hq => ?_) hnew hZ (Heap.get?_push_size _ rfl) (Heap.get?_push_of_some _ gZ') fun s'' y t hy hm' => ?_⟩
    · show b < (s'.heap.push _).objs.size
      rw [Heap.size_push]
      exact Nat.lt_succ_of_lt (Nat.lt_of_lt_of_le (hfp b hq) hsz)
    · exact hR s'' y t hy (Moved.trans W.gtrans (hm.then_heap htk fun b o _ e => Heap.get?_push_of_some _ e) hm')
end
section
variable {prog : Program} {w : World} {A : Around} {E : Value → Shared → Prop} {s : Shared} {Q : Value → Shared → Prop} {h₀ : Heap} {L l : Addr} {m : Str → Option Value} {news : List (Addr × Obj)} {vs : List Value} {bs : List Int}
theorem moved_eq {wr : List Addr} {s s' : Shared} (hm : Moved wr (fun a b => b = a) s s') : s' = { s with heap := s'.heap, toks := s'.toks } := by
  obtain ⟨hp, g, d, tk, os⟩ := s'
  have e1 : g = s.gens := hm.gens
  have e2 : d = s.drawn := hm.drawn
  have e3 : os = s.os := hm.os
  subst e1 e2 e3
  rfl
theorem list_vals (hv : AllBear vs bs) (i : Nat) (v : Value) (h : vs.toArray[i]? = some v) : ∃ b, bs[i]? = some b ∧ Bears v b := by
  induction hv generalizing i with
  | nil => simp at h
  | cons hb _ ih =>
    cases i with
    | zero => simp at h; subst h; exact ⟨_, rfl, hb⟩
    | succ i => exact ih i (by simpa using h)
theorem call_fsum_list (hh : A.handled = none) (F : Fr h₀ L s.heap m) (N : News h₀ L s.heap news) (hl : s.heap.IsList l vs.toArray) (hv : AllBear vs bs)
    (hb : ∀ i, i ≤ bs.length → (bs.take i).sum.natAbs < 2 ^ 50) (hb' : ∀ b ∈ bs, b.natAbs < 2 ^ 50)
    (h : ∀ h' tk x t, Is x bs.sum → Fr h₀ L h' m → News h₀ L h' news → Q (.float x t) { s with heap := h', toks := tk }) :
    wpAny (model prog w) A (call (.builtin "math.fsum") [.ref l]) Q E s := by
  refine call_function_tree kind_fsum plain_fsum entry_fsum (args_fsum _) ?_
  unfold Builtin.«math.fsum»
  refine wpAny_bind (m := Builtin.Math.mathOne "fsum" ⟨[.ref l], []⟩) (wpAny_of_eq (show Builtin.Math.mathOne "fsum" ⟨[.ref l], []⟩ = pure (.ref l) from rfl) ?_)
  refine wpAny_bind (PySem.Flt.iter_list_ hl fun s₂ e st hfp hlI => ?_)
  have W := (Walks.list (prog := prog) (w := w) (A := A.in1) hh _ l hlI vs.toArray).toS
  have hlen : vs.toArray.size = bs.length := by
    rw [List.size_toArray]
    exact hv.length_eq
  rw [hlen] at W
  refine wpAny_bind (wpAny_newTuple (items := rawBits []) ?_ (by decide))
  refine wpAny_bind (wpAny_newTuple (items := rawBits [Float64.zero false, Float64.zero false]) ?_ (by decide))
  have hsz2 : (s₂.heap.push (tupObj (rawBits []))).objs.size = s₂.heap.objs.size + 1 := Heap.size_push _ _
  refine wpAny_pure ⟨plainId_quiet plain_fsumL _, fsum_loop W hh (fun i v hP => list_vals hv i v hP) hb hb' _ bs.length 0 _ _ [] .nil rfl (Nat.zero_le _) ?_ ?_ ?_ ?_ (Heap.get?_push_of_some _ (Heap.get?_push_size _ rfl)) (Heap.get?_push_size _ rfl) fun s' x t hx hm => ?_⟩
  · exact W.frame 0 s₂ _ _ st (Nat.le_refl _) fun b _ o e => Heap.get?_push_of_some _ (Heap.get?_push_of_some _ e)
  · intro b hq
    show b < ((s₂.heap.push _).push _).objs.size
    rw [Heap.size_push, Heap.size_push]
    have := hfp b hq
    exact Nat.lt_succ_of_lt (Nat.lt_succ_of_lt this)
  · intro hq
    exact Nat.lt_irrefl _ (hfp _ hq)
  · intro hq
    have := hfp _ hq
    rw [hsz2] at this
    exact absurd this (by omega)
  · have hs' := moved_eq hm
    rw [hs']
    subst e
    have kp : ∀ b o, s.heap.get? b = some o → s'.heap.get? b = some o := fun b o eb => by
      refine hm.heap b o (fun hq => ?_) (Heap.get?_push_of_some _ (Heap.get?_push_of_some _ (Heap.get?_push_of_some _ eb)))
      rw [List.mem_singleton.mp hq] at eb
      exact absurd (Heap.lt_size eb) (Nat.lt_irrefl _)
    exact h _ _ _ _ hx (F.grownK kp) (N.grown kp)
end
end Mine
end

section
namespace Mine
open PySem PySem.Float64 PySem.W PySem.Calls PyProof.Rows

abbrev rawThree (t : UInt64 × UInt64 × UInt64) : List Value := rawBits [t.1, t.2.1, t.2.2]
section
variable {prog : Program} {w : World} {A : Around} {R : Result → Shared → Prop} {I J : Addr} {fpI wrI fpJ wrJ : List Addr} {G : Array GenState → Array GenState → Prop} {PI PJ : Nat → Value → Prop} {StI : Nat → Heap → Prop} {StJ : Nat → Shared → Prop}
theorem next_item' {n i : Nat} {s : Shared} {Q : Option Value → Shared → Prop} {E : Value → Shared → Prop} {A : Around} (W : Walks prog w A I fpI wrI n PI StI) (hlt : i < n) (hst : StI i s.heap)
    (h : ∀ v h' tk, s.heap.objs.size ≤ h'.objs.size → s.toks ≤ tk → PI i v → StI (i + 1) h' → (∀ b o, b ∉ wrI → s.heap.get? b = some o → h'.get? b = some o) → Q (some v) { s with heap := h', toks := tk }) : wpAny (model prog w) A (pyNext (.ref I)) Q E s :=
  wpAny_mono (wpAny_toks_of (Nat.le_refl _) (wpAny_size (W.item i s (fun o s' => ∃ v h' tk, o = some v ∧ s' = { s with heap := h', toks := tk } ∧ PI i v ∧ StI (i + 1) h' ∧ (∀ b o, b ∉ wrI → s.heap.get? b = some o → h'.get? b = some o)) (fun _ _ => False) hlt hst fun v h' tk hP hst' hm => ⟨v, h', tk, rfl, rfl, hP, hst', hm⟩)))
    (fun o s' q => by obtain ⟨htk, hsz, v, h', tk, rfl, rfl, hP, hst', hm⟩ := q; exact h v h' tk hsz htk hP hst' hm) fun _ _ q => q.2.2.elim
theorem next_done' {n : Nat} {s : Shared} {Q : Option Value → Shared → Prop} {E : Value → Shared → Prop} {A : Around} (W : Walks prog w A I fpI wrI n PI StI) (hst : StI n s.heap)
    (h : ∀ h' tk, s.heap.objs.size ≤ h'.objs.size → s.toks ≤ tk → (∀ b o, b ∉ wrI → s.heap.get? b = some o → h'.get? b = some o) → Q none { s with heap := h', toks := tk }) : wpAny (model prog w) A (pyNext (.ref I)) Q E s :=
  wpAny_mono (wpAny_toks_of (Nat.le_refl _) (wpAny_size (W.done s (fun o s' => ∃ h' tk, o = none ∧ s' = { s with heap := h', toks := tk } ∧ (∀ b o, b ∉ wrI → s.heap.get? b = some o → h'.get? b = some o)) (fun _ _ => False) hst fun h' tk hm => ⟨h', tk, rfl, rfl, hm⟩)))
    (fun o s' q => by obtain ⟨htk, hsz, h', tk, rfl, rfl, hm⟩ := q; exact h h' tk hsz htk hm) fun _ _ q => q.2.2.elim
theorem sp_loop {xs ys zs : List Int} {n : Nat} (hn : zs.length = n) (hn0 : n ≠ 0) (WI : Walks prog w A.in1 I fpI wrI n PI StI) (WJ : WalksS prog w A.in1 J fpJ wrJ G n PJ StJ) (hh : A.handled = none)
    (hI : ∀ (i : Nat) (v : Value), PI i v → ∃ x t a, v = .float x t ∧ xs[i]? = some a ∧ Is x a) (hJ : ∀ (i : Nat) (v : Value), PJ i v → ∃ x t b, v = .float x t ∧ ys[i]? = some b ∧ Is x b)
    (hab : ∀ (i : Nat) (a b : Int), xs[i]? = some a → ys[i]? = some b → ∃ c, zs[i]? = some c ∧ a * b = 64 * c)
    (hs1 : ∀ b ∈ fpJ, b ∉ wrI) (hs2 : ∀ b ∈ fpI, b ∉ wrJ)
    (hb : ∀ i, i ≤ n → (zs.take i).sum.natAbs < 2 ^ 50) (hb' : ∀ b ∈ zs, b.natAbs < 2 ^ 50) :
    ∀ (k i : Nat) (s : Shared) (T : Addr) (t3 : UInt64 × UInt64 × UInt64) (io fu : Bool) (u v : Tok), TSt t3 (zs.take i).sum → (io = false ∧ fu = true ∨ io = true ∧ fu = false ∧ i = 0) → n - i = k → i ≤ n → StI i s.heap → StJ i s →
    (∀ b ∈ fpI, b < s.heap.objs.size) → (∀ b ∈ fpJ, b < s.heap.objs.size) → T ∉ fpI → T ∉ fpJ → s.heap.get? T = some (tupObj (rawThree t3)) →
    (∀ s' x t, Is x zs.sum → Moved (wrI ++ wrJ) G s s' → R (.ok (.ret (.float x t))) s') →
    codeAny (model prog w) A (.builtin "math.sumprod.loop" ⟨[.ref I, .ref J, .int 0 u, .bool io, .int 0 v, .bool false, .bool true, .ref T, .bool fu], []⟩) R s := by
  intro k
  induction k with
  | zero =>
    intro i s T t3 io fu u v ht hio hk hi sti stj fI fJ TI TJ gT hR
    have hin : i = n := by omega
    subst hin
    obtain ⟨rfl, rfl⟩ : io = false ∧ fu = true := by rcases hio with h | ⟨_, _, h⟩; exact h; exact absurd h hn0
    refine codeAny_builtin entry_spL ?_
    rw [Around.under_plainId plain_spL _]
    show wpAny _ A.in1 (seqItems? (.ref T) >>= _) _ _ s
    refine wpAny_bind (wpAny_seqItems gT rfl ?_)
    simp only [Option.getD_some, rawThree, rawBits, List.map_cons, List.map_nil, rawInt]
    refine wpAny_bind (next_done' WI sti fun h1 tk1 z1 k1 m1 => ?_)
    have stj1 : StJ i { s with heap := h1, toks := tk1 } := WJ.frame i s h1 tk1 stj k1 fun b hq o e => m1 b o (hs1 b hq) e
    refine wpAny_bind (wpAny_holding (next_done WJ stj1 fun s2 z2 m2 => ?_))
    simp only [Option.isSome_none, bne_self_eq_false, Bool.false_eq_true, if_false, if_true, toU64]
    refine wpAny_bind (wpAny_rule ?_)
    refine wpAny_bind (PySem.Flt.wp_mkFloat ?_)
    refine wpAny_bind (wpAny_holding (AutoFloatOps.add_if_1 (Is.ofInt (i := 0) (by decide)).notInf ?_))
    have hfin : Is (add (ofInt 0) (Builtin.Math.tlToFloat t3)) zs.sum := by
      rw [hn.symm, List.take_length] at ht
      have e1 := tl_end ht (by have := hb i (Nat.le_refl _); rwa [hn.symm, List.take_length] at this)
      have := Is.add (Is.ofInt (i := 0) (by decide)) e1 (by have := hb i (Nat.le_refl _); rw [hn.symm, List.take_length] at this; omega)
      rwa [Int.mul_zero, Int.zero_add] at this
    exact wpAny_pure (hR _ _ _ hfin ⟨fun b o hq e => m2.heap b o (fun q => hq (List.mem_append.mpr (.inr q))) (m1 b o (fun q => hq (List.mem_append.mpr (.inl q))) e), m2.gens, m2.drawn, m2.os, Nat.le_trans k1 (Nat.le_trans m2.toks (Nat.le_add_right _ 2))⟩)
  | succ k ih =>
    intro i s T t3 io fu u v ht hio hk hi sti stj fI fJ TI TJ gT hR
    have hlt : i < n := by omega
    refine codeAny_builtin entry_spL ?_
    rw [Around.under_plainId plain_spL _]
    show wpAny _ A.in1 (seqItems? (.ref T) >>= _) _ _ s
    refine wpAny_bind (wpAny_seqItems gT rfl ?_)
    simp only [Option.getD_some, rawThree, rawBits, List.map_cons, List.map_nil, rawInt]
    refine wpAny_bind (next_item' WI hlt sti fun pv h1 tk1 z1 k1 pP sti1 m1 => ?_)
    have stj1 : StJ i { s with heap := h1, toks := tk1 } := WJ.frame i s h1 tk1 stj k1 fun b hq o e => m1 b o (hs1 b hq) e
    refine wpAny_bind (wpAny_holding (next_item WJ hlt stj1 fun qv s2 z2 qP stj2 m2 => ?_))
    obtain ⟨x, tx, a, rfl, ha, hx⟩ := hI i pv pP
    obtain ⟨y, ty, b, rfl, hb2, hy⟩ := hJ i qv qP
    obtain ⟨c, hc, hprod⟩ := hab i a b ha hb2
    have hstep := tl_step ht hx hy hprod (hb i hi) (hb' c (List.mem_of_getElem? hc))
    rw [← sum_take_succ zs i c hc] at hstep
    have hfinite : isFinite (Builtin.Math.tlFma x y t3).1 = true := hstep.1.fin
    have hall : wpAny (model prog w) A.in1 (newTuple (rawThree (Builtin.Math.tlFma x y t3)) >>= fun t => again (Code.builtin "math.sumprod.loop" ⟨[.ref I, .ref J, .int 0 u, .bool false, .int 0 0, .bool false, .bool true, t, .bool true], []⟩))
        (fun fin s' => match fin with | .done f => R (.ok f) s' | .again c' => c'.quiet = true ∧ codeAny (model prog w) A c' R s') (fun e s' => R (.error e) s') s2 := by
      refine wpAny_bind (wpAny_newTuple (items := rawThree (Builtin.Math.tlFma x y t3)) ?_ (by show 3 ≤ sizeLine; decide))
      have nI : s2.heap.objs.size ∉ fpI := fun q => Nat.lt_irrefl _ (Nat.lt_of_lt_of_le (fI _ q) (Nat.le_trans z1 z2))
      have nJ : s2.heap.objs.size ∉ fpJ := fun q => Nat.lt_irrefl _ (Nat.lt_of_lt_of_le (fJ _ q) (Nat.le_trans z1 z2))
      refine wpAny_pure ⟨plainId_quiet plain_spL _, ih (i + 1) _ _ _ false true u 0 hstep (.inl ⟨rfl, rfl⟩) (by omega) hlt ?_ ?_ ?_ ?_ nI nJ (Heap.get?_push_size _ rfl) fun s' r t hr hm' => ?_⟩
      · exact WI.frame (i + 1) h1 _ sti1 fun b hq o e => Heap.get?_push_of_some _ (m2.heap b o (hs2 b hq) e)
      · exact WJ.frame (i + 1) s2 _ _ stj2 (Nat.le_refl _) fun b _ o e => Heap.get?_push_of_some _ e
      · intro b q
        show b < (s2.heap.push _).objs.size
        rw [Heap.size_push]
        exact Nat.lt_succ_of_lt (Nat.lt_of_lt_of_le (fI b q) (Nat.le_trans z1 z2))
      · intro b q
        show b < (s2.heap.push _).objs.size
        rw [Heap.size_push]
        exact Nat.lt_succ_of_lt (Nat.lt_of_lt_of_le (fJ b q) (Nat.le_trans z1 z2))
      · refine hR s' r t hr ⟨fun b o hq e => hm'.heap b o hq (Heap.get?_push_of_some _ (m2.heap b o (fun q => hq (List.mem_append.mpr (.inr q))) (m1 b o (fun q => hq (List.mem_append.mpr (.inl q))) e))),
          WJ.gtrans _ _ _ m2.gens hm'.gens, hm'.drawn.trans m2.drawn, hm'.os.trans m2.os, Nat.le_trans k1 (Nat.le_trans m2.toks hm'.toks)⟩
    rcases hio with ⟨rfl, rfl⟩ | ⟨rfl, rfl, rfl⟩
    · simp only [Option.isSome_some, bne_self_eq_false, Bool.false_eq_true, if_false, if_true, toU64, Bool.or_self, hfinite]
      exact hall
    · simp only [Option.isSome_some, bne_self_eq_false, Bool.false_eq_true, if_false, if_true, toU64, Bool.or_self, hfinite]
      exact wpAny_bind (wpAny_rule hall)
end
section
variable {prog : Program} {w : World} {A : Around} {E : Value → Shared → Prop} {s : Shared} {Q : Value → Shared → Prop} {l : Addr} {vs : List Value} {xs ys zs : List Int}

/-- sumprod of a list of floats and of something that is walked -/
theorem call_sp_of {q : Value} (hh : A.handled = none) (hl : s.heap.IsList l vs.toArray) (hx : ∀ (i : Nat) (v : Value), vs[i]? = some v → ∃ x t a, v = .float x t ∧ xs[i]? = some a ∧ Is x a) (hlen : vs.length = zs.length) (hn0 : zs.length ≠ 0)
    (hab : ∀ (i : Nat) (a b : Int), xs[i]? = some a → ys[i]? = some b → ∃ c, zs[i]? = some c ∧ a * b = 64 * c)
    (hb : ∀ i, i ≤ zs.length → (zs.take i).sum.natAbs < 2 ^ 50) (hb' : ∀ b ∈ zs, b.natAbs < 2 ^ 50)
    (h : ∀ s₁ : Shared, s₁ = { s with heap := s.heap.push { cls := .type "list_iterator", data := .fields #[.ref l, .int 0 0] } } →
      wpAny (model prog w) A.in1 (pyIter q) (fun it s₂ => ∃ J fp wr G PJ St, it = .ref J ∧ WalksS prog w A.in1 J fp wr G zs.length PJ St ∧ St 0 s₂ ∧ (∀ b ∈ fp, b < s₂.heap.objs.size) ∧ s.heap.objs.size ∉ fp ∧ l ∉ wr ∧
        (∀ b o, s₁.heap.get? b = some o → s₂.heap.get? b = some o) ∧ (∀ (i : Nat) (v : Value), PJ i v → ∃ x t b, v = .float x t ∧ ys[i]? = some b ∧ Is x b) ∧
        ∀ s' x t, Is x zs.sum → Moved (s.heap.objs.size :: wr) G s₂ s' → Q (.float x t) s') E s₁) :
    wpAny (model prog w) A (call (.builtin "math.sumprod") [.ref l, q]) Q E s := by
  refine call_function_tree kind_sp plain_sp entry_sp (args_sp _ _) ?_
  unfold Builtin.«math.sumprod»
  refine wpAny_bind (m := Builtin.Math.mathSome "sumprod" 2 2 ⟨[.ref l, q], []⟩) (wpAny_of_eq (show Builtin.Math.mathSome "sumprod" 2 2 ⟨[.ref l, q], []⟩ = pure [.ref l, q] from rfl) ?_)
  refine wpAny_bind (PySem.Flt.iter_list_ hl fun s₁ e st hfp hlI => ?_)
  have WI := Walks.list (prog := prog) (w := w) (A := A.in1) hh _ l hlI vs.toArray
  have hsz : vs.toArray.size = zs.length := by rw [List.size_toArray]; exact hlen
  rw [hsz] at WI
  refine wpAny_bind (wpAny_holding (wpAny_mono (wpAny_size (h s₁ e)) (fun it s₂ q => ?_) fun _ _ q => q.2))
  obtain ⟨hz12, J, fp, wr, G, PJ, St, rfl, WJ, stj, hfpJ, nI, nl, hk, hJ, hQ⟩ := q
  refine wpAny_bind (wpAny_mkInt ?_)
  refine wpAny_bind (wpAny_newTuple (items := rawThree (Float64.zero false, Float64.zero false, Float64.zero false)) ?_ (by show 3 ≤ sizeLine; decide))
  have hpush : ∀ (b : Addr), b < s₂.heap.objs.size → b < (s₂.heap.push (tupObj (rawThree (Float64.zero false, Float64.zero false, Float64.zero false)))).objs.size := fun b hb => by rw [Heap.size_push]; exact Nat.lt_succ_of_lt hb
  have hwr : ∀ b ∈ wr, b ≠ s.heap.objs.size := fun b hb e => nI (e ▸ WJ.sub b hb)
  refine wpAny_pure ⟨plainId_quiet plain_spL _, sp_loop rfl hn0 WI WJ hh (fun i v hP => hx i v (by simpa using hP)) hJ hab ?_ ?_ hb hb' zs.length 0 _ _ (Float64.zero false, Float64.zero false, Float64.zero false) true false _ 0
    ⟨Is.zero _, Is.zero _, Is.zero _⟩ (.inr ⟨rfl, rfl, rfl⟩) rfl (Nat.zero_le _) ?_ ?_ ?_ ?_ ?_ ?_ (Heap.get?_push_size _ rfl) fun s' r t hr hm => ?_⟩
  · intro b hq hw
    rw [List.mem_singleton.mp hw] at hq
    exact nI hq
  · intro b hq hw
    rcases List.mem_cons.mp hq with rfl | hq
    · exact hwr _ hw rfl
    · rw [List.mem_singleton.mp hq] at hw; exact nl hw
  · exact WI.frame 0 s₁.heap _ st fun b _ o eb => Heap.get?_push_of_some _ (hk b o eb)
  · exact WJ.frame 0 s₂ _ _ stj (Nat.le_succ _) fun b _ o eb => Heap.get?_push_of_some _ eb
  · exact fun b hq => hpush b (Nat.lt_of_lt_of_le (hfp b hq) hz12)
  · exact fun b hq => hpush b (hfpJ b hq)
  · exact fun hq => Nat.lt_irrefl _ (Nat.lt_of_lt_of_le (hfp _ hq) hz12)
  · exact fun hq => Nat.lt_irrefl _ (hfpJ _ hq)
  · exact hQ s' r t hr ⟨fun b o hq eb => hm.heap b o hq (Heap.get?_push_of_some _ eb), hm.gens, hm.drawn, hm.os, Nat.le_trans (Nat.le_succ _) hm.toks⟩
theorem call_sp_list {h₀ : Heap} {L : Addr} {m : Str → Option Value} {news : List (Addr × Obj)} (hh : A.handled = none) (F : Fr h₀ L s.heap m) (N : News h₀ L s.heap news) (hl : s.heap.IsList l vs.toArray)
    (hx : ∀ (i : Nat) (v : Value), vs[i]? = some v → ∃ x t a, v = .float x t ∧ xs[i]? = some a ∧ Is x a) (hlen : vs.length = zs.length) (hn0 : zs.length ≠ 0)
    (hab : ∀ (i : Nat) (a b : Int), xs[i]? = some a → xs[i]? = some b → ∃ c, zs[i]? = some c ∧ a * b = 64 * c)
    (hb : ∀ i, i ≤ zs.length → (zs.take i).sum.natAbs < 2 ^ 50) (hb' : ∀ b ∈ zs, b.natAbs < 2 ^ 50)
    (h : ∀ h' tk x t, Is x zs.sum → Fr h₀ L h' m → News h₀ L h' news → Q (.float x t) { s with heap := h', toks := tk }) :
    wpAny (model prog w) A (call (.builtin "math.sumprod") [.ref l, .ref l]) Q E s := by
  refine call_sp_of hh hl hx hlen hn0 hab hb hb' fun s₁ e => ?_
  have hls : l < s.heap.objs.size := by obtain ⟨_, e, _⟩ := hl; exact Heap.lt_size e
  have hl1 : s₁.heap.IsList l vs.toArray := by subst e; exact hl.push _
  have hs1 : s₁.heap.objs.size = s.heap.objs.size + 1 := by subst e; exact Heap.size_push _ _
  refine PySem.Flt.iter_list_ hl1 fun s₂ e2 st hfp hlI => ?_
  have W := (Walks.list (prog := prog) (w := w) (A := A.in1) hh _ l hlI vs.toArray).toS
  have hsz : vs.toArray.size = zs.length := by rw [List.size_toArray]; exact hlen
  rw [hsz] at W
  refine ⟨_, _, _, _, _, _, rfl, W, st, hfp, ?_, ?_, ?_, fun i v hP => hx i v (by simpa using hP), fun s' x t hr hm => ?_⟩
  · intro hq
    rcases List.mem_cons.mp hq with hq | hq
    · exact absurd (hq.trans hs1) (Nat.ne_of_lt (Nat.lt_succ_self _))
    · rw [List.mem_singleton.mp hq] at hls; exact Nat.lt_irrefl _ hls
  · intro hq
    have e5 := List.mem_singleton.mp hq
    rw [hs1] at e5
    rw [e5] at hls
    exact Nat.lt_irrefl _ (Nat.lt_of_succ_lt hls)
  · intro b o eb; subst e2; exact Heap.get?_push_of_some _ eb
  · have kp : ∀ b o, s.heap.get? b = some o → s'.heap.get? b = some o := fun b o eb => by
      have hb := Heap.lt_size eb
      refine hm.heap b o (fun hq => ?_) ?_
      · rcases List.mem_cons.mp hq with hq | hq
        · rw [hq] at hb; exact Nat.lt_irrefl _ hb
        · rw [List.mem_singleton.mp hq, hs1] at hb; exact Nat.lt_irrefl _ (Nat.lt_of_succ_lt hb)
      · subst e2; subst e
        exact Heap.get?_push_of_some _ (Heap.get?_push_of_some _ eb)
    have e1 : s'.gens = s.gens := by have := hm.gens; subst e2; subst e; exact this
    have e3 : s'.drawn = s.drawn := by have := hm.drawn; subst e2; subst e; exact this
    have e4 : s'.os = s.os := by have := hm.os; subst e2; subst e; exact this
    have := h s'.heap s'.toks x t hr (F.grownK kp) (N.grown kp)
    obtain ⟨hp, g, d, tk, os⟩ := s'
    dsimp only at e1 e3 e4
    subst e1 e3 e4
    exact this
end
end Mine
end

section
namespace Mine
open PySem PySem.Float64 PySem.W PySem.Calls PyProof.Rows

section
variable {prog : Program} {w : World} {A : Around} {E : Value → Shared → Prop} {s : Shared}
/-- a generator expression without tests, its footprint a list of one's own (so that names may be stored behind it) -/
theorem gen_make {env : Env} {elt iter : Expr} {x : Str} {px : Pos} {scope : Scope} {cl : List (Str × Addr)} {pos : Pos} {Q : Value → Shared → Prop}
    (hh : A.handled = none) (hco : scope.isCoroutine = false) (hclos : closureFor scope env = pure cl) (hcell : ∀ y ∈ scope.names, y.2 ≠ .cell) (h0 : scope.names.lookup (".0" : Str) = some NameKind.local)
    (hx : scope.names.lookup x = some .local) (hkind : scope.kind = .function) (hroom : A.depth < recursionLimit)
    (h : wpAny (model prog w) A (eval iter env) (fun xv s₁ => wpAny (model prog w) A (pyIter xv) (fun it s₂ => s₂.heap.NoLimit ∧
      wpAny (model prog w) A (genexprCode env pos (env.qual ++ "<genexpr>") scope) (fun code s₃ => wpAny (model prog w) A (builtinsFor env.globals env.builtins) (fun bi s₄ =>
        ∃ I fp wr n₀ P St₀, ∃ F : Nat → Value → Prop, it = .ref I ∧ (∀ A' : Around, A'.handled = none → Walks prog w A' I fp wr n₀ P St₀) ∧ St₀ 0 s₄.heap ∧ (∀ b ∈ fp, b < s₄.heap.objs.size) ∧ s₄.heap.NoLimit ∧ cStatics ∈ fp ∧ cStatics ∉ wr ∧
          (∀ href : Heap, (∀ b o, s₄.heap.get? b = some o → href.get? b = some o) →
            QuietGen prog w (genEnv scope cl s₄.heap.objs.size code bi env) x [] elt fp wr P (fun _ => true) F href) ∧
          (∀ a h₅ tk gs, ∀ St : Nat → Shared → Prop, gs.bare = true → s₄.heap.objs.size < a → h₅.objs.size = a + 1 → (∀ b o, s₄.heap.get? b = some o → h₅.get? b = some o) →
            WalksS prog w A.in4 a (a :: s₄.heap.objs.size :: fp) (s₄.heap.objs.size :: wr) (GenOnlyQ s₄.gens.size) n₀ F St →
            St 0 { s₄ with gens := s₄.gens.push gs, toks := tk, heap := h₅ } →
            Q (.ref a) { s₄ with gens := s₄.gens.push gs, toks := tk, heap := h₅ })) E s₃) E s₂) E s₁) E s)
    (hs : ∀ x, genFold iter env x = pure x) :
    wpAny (model prog w) A (eval (.GeneratorExp elt [⟨.Name x px, iter, [], 0⟩] scope pos) env) Q E s := by
  refine wpAny_GeneratorExp_make hco hclos hcell h0 hkind hroom (wpAny_mono h (fun xv s₁ h₁ => wpAny_mono h₁ (fun it s₂ h₂ => ⟨h₂.1, wpAny_mono h₂.2 (fun code s₃ h₃ => wpAny_mono h₃ (fun bi s₄ h₄ => ?_)
    fun _ _ e => e) fun _ _ e => e⟩) fun _ _ e => e) fun _ _ e => e) hs
  obtain ⟨I, fp, wr, n₀, P, St₀, F, rfl, W₀, hst, hfp, hl₄, hcf, hcw, hq, hQ⟩ := h₄
  have hclt : cStatics < s₄.heap.objs.size := let ⟨_, hn, _⟩ := hl₄; hn.lt
  intro h' hn' hs'
  have hsz : h'.objs.size = s₄.heap.objs.size + 1 := by rw [hs'.1, Heap.size_push]
  have keep' : ∀ b o, s₄.heap.get? b = some o → h'.get? b = some o := fun b o e => hs'.extBut b o (Nat.ne_of_lt (Heap.lt_size e)) (Heap.get?_push_of_some _ e)
  have haC : h'.objs.size ≠ s₄.heap.objs.size := by rw [hsz]; exact Nat.succ_ne_self _
  have haf : h'.objs.size ∉ fp := fun hm => by have h1 := hfp _ hm; rw [hsz] at h1; exact Nat.lt_irrefl _ (Nat.lt_of_succ_lt h1)
  have keep₅ : ∀ b o, s₄.heap.get? b = some o → (h'.push { cls := .type "generator", data := .fields #[.int s₄.gens.size 0, .str "<genexpr>" (s₄.toks + 1), .str (env.qual ++ "<genexpr>") (s₄.toks + 1 + 1)] }).get? b = some o :=
    fun b o e => Heap.get?_push_of_some _ (keep' b o e)
  have W := WalksS.genexpQ (prog := prog) (w := w) (A := A.in4) hh h'.objs.size s₄.gens.size s₄.heap.objs.size fp wr (fun _ => true) n₀ F haC haf (W₀ A hh).sub hroom hcf (Nat.ne_of_lt hclt) hcw
  have hpass : passing (fun _ => true) n₀ 0 = List.range n₀ := by simp [passing]
  rw [hpass] at W
  have hlen : (List.range n₀).length = n₀ := List.length_range
  rw [hlen] at W
  have himp : (fun (j : Nat) (y : Value) => ∃ i, (List.range n₀)[j]? = some i ∧ F i y) = fun (j : Nat) (y : Value) => j < n₀ ∧ F j y := by
    funext j y
    apply propext
    constructor
    · rintro ⟨i, hi, hF⟩
      obtain ⟨h1, h2⟩ := List.getElem?_eq_some_iff.mp hi
      rw [List.getElem_range] at h2
      subst h2
      exact ⟨by simpa using h1, hF⟩
    · rintro ⟨h1, h2⟩
      exact ⟨j, by simp [h1], h2⟩
  rw [himp] at W
  have W' : WalksS prog w A.in4 h'.objs.size (h'.objs.size :: s₄.heap.objs.size :: fp) (s₄.heap.objs.size :: wr) (GenOnlyQ s₄.gens.size) n₀ F (GenAt prog w A.in4 h'.objs.size s₄.gens.size s₄.heap.objs.size fp wr (fun _ => true) n₀ F) :=
    { W with item := fun i s Q E hi st hQ => W.item i s Q E hi st fun v s' hP st' hm => hQ v s' hP.2 st' hm }
  refine hQ _ _ _ _ _ rfl (by rw [hsz]; exact Nat.lt_succ_self _) (by rw [Heap.size_push]) keep₅ W' ?_
  refine GenAt.fresh (A := A.in4) (cenv := genEnv scope cl s₄.heap.objs.size code bi env) (m := fun y => if y = ".0" then some (.ref I) else none) hh
    W₀ (fun _ => true) F hx (by simp [genEnv, hkind]) hco
    (fun hm => Nat.lt_irrefl _ (hfp _ hm)) (hq _ keep₅) ⟨_, _, _, Heap.get?_push_size _ rfl, rfl, rfl, rfl⟩ (Array.getElem?_push_size ..) ((W₀ A hh).frame _ _ _ hst fun b _ o e => keep₅ b o e) (hn'.push _) (hl₄.keeps keep₅)
end
end Mine
end

section
namespace Mine
open PySem PySem.Float64 PySem.W PySem.Calls PyProof.Rows

abbrev tabOf (pos : Pos) (c' : Addr) : Array Value := #[rawInt pos.line, rawInt pos.col, .ref c']
def TabOk (pos : Pos) (ps : Array Value) : Prop := ps = #[] ∨ ∃ c', ps = tabOf pos c'
section
variable {prog : Program} {w : World} {A : Around} {E : Value → Shared → Prop} {s : Shared}
/-- the code of a generator expression: made the first time, found later -/
theorem gen_code {env : Env} {c P : Addr} {ps : Array Value} {pos : Pos} {q : Str} {scope : Scope} {Q : Value → Shared → Prop} (hc : env.code = .ref c) (C : CodeHd s.heap c P) (hP : s.heap.get? P = some (tabObj ps)) (hps : TabOk pos ps)
    (hQ : ∀ c' h' tk, Heap.ExtBut P s.heap h' → s.heap.objs.size ≤ h'.objs.size → h'.get? P = some (tabObj (tabOf pos c')) → Q (.ref c') { s with heap := h', toks := tk }) :
    wpAny (model prog w) A (genexprCode env pos q scope) Q E s := by
  rcases hps with rfl | ⟨c', rfl⟩
  · refine wpAny_genexprCodeX hc (C.code hP trivial) (C.tab hP) rfl fun c' h' tk hx h1 h2 _ _ ht _ => ?_
    refine hQ c' h' tk hx (Nat.le_trans h1 (Nat.le_of_lt h2)) ?_
    have := ht.2
    rw [Array.empty_append] at this
    exact this
  · obtain ⟨o, vs, file, tf, flags, tg, inF, text, tt, ho, _, hd, _, h11, h2, h7, h9, h10, hne⟩ := C
    unfold genexprCode codeAt
    rw [hc, if_neg (show ¬ ((Value.ref c == Value.none) = true) from Bool.false_ne_true)]
    refine wpAny_bind (wpAny_fieldsOf ho hd ?_)
    rw [h11]
    refine wpAny_bind (wpAny_fieldsOf hP rfl ?_)
    have hf : codeAmong pos (tabOf pos c').toList = some (.ref c') := by
      show (if ((pos.line : Int) == pos.line && (pos.col : Int) == pos.col) = true then some (Value.ref c') else _) = _
      simp
    simp only [hf]
    exact wpAny_pure (hQ c' s.heap s.toks (Heap.ExtBut.refl _ _) (Nat.le_refl _) hP)

theorem gen_list {env : Env} {elt iter : Expr} {x : Str} {px : Pos} {scope : Scope} {cl : List (Str × Addr)} {pos : Pos} {Q : Value → Shared → Prop} {l c P : Addr} {vs : List Value} {F : Nat → Value → Prop} {ps : Array Value} {h₀ : Heap} {L : Addr} {m mg : Str → Option Value} {bm : Addr} {ob : Obj}
    {more : List Addr}
    (hh : A.handled = none) (hco : scope.isCoroutine = false) (hclos : closureFor scope env = pure cl) (hcell : ∀ y ∈ scope.names, y.2 ≠ .cell) (h0 : scope.names.lookup (".0" : Str) = some NameKind.local)
    (hx : scope.names.lookup x = some .local) (hkind : scope.kind = .function) (hroom : A.depth < recursionLimit)
    (hiter : ∀ Q' : Value → Shared → Prop, Q' (.ref l) s → wpAny (model prog w) A (eval iter env) Q' E s)
    (F₀ : Fr h₀ L s.heap m) (hl : s.heap.IsList l vs.toArray) (hlim : h₀.NoLimit) (M : BMod h₀ env.globals mg bm ob) (hcode : env.code = .ref c) (C : CodeHd h₀ c P) (hPn : h₀.get? P = none) (hP : s.heap.get? P = some (tabObj ps)) (hps : TabOk pos ps)
    (hmore : ∀ b ∈ more, b < s.heap.objs.size) (hG : AllBare s.gens)
    (helt : ∀ (C c' : Addr) (A' : Around) E' (i : Nat) (v : Value) (u : Shared) m₂, A'.handled = none → vs[i]? = some v → u.heap.Ns C m₂ → m₂ x = some v → (∀ b ∈ more, ∀ o, s.heap.get? b = some o → u.heap.get? b = some o) → s.heap.objs.size ≤ C →
      wpAny (model prog w) A' (eval elt (genEnv scope cl C (.ref c') builtinsNs env)) (fun y s₃ => F i y ∧ Keeps u s₃) E' u)
    (hmP : P ∉ more)
    (hQ : ∀ a s₅ c' fp wr g St, (∀ b o, b ≠ P → s.heap.get? b = some o → s₅.heap.get? b = some o) → s₅.heap.get? P = some (tabObj (tabOf pos c')) → AllBare s₅.gens → s₅.os = s.os → s₅.drawn = s.drawn → s.heap.objs.size ≤ s₅.heap.objs.size →
      WalksS prog w A.in4 a fp wr (GenOnlyQ g) vs.length F St → St 0 s₅ → (∀ b ∈ fp, b < s₅.heap.objs.size) → (∀ b ∈ wr, s.heap.objs.size ≤ b) → (∀ b ∈ fp, b < s.heap.objs.size → b = l ∨ b = cStatics ∨ b ∈ more) → Q (.ref a) s₅)
    (hs : ∀ x, genFold iter env x = pure x) :
    wpAny (model prog w) A (eval (.GeneratorExp elt [⟨.Name x px, iter, [], 0⟩] scope pos) env) Q E s := by
  refine gen_make hh hco hclos hcell h0 hx hkind hroom (hiter _ ?_) hs
  have hls : l < s.heap.objs.size := by obtain ⟨_, e, _⟩ := hl; exact Heap.lt_size e
  refine PySem.Flt.iter_list_ hl fun s₂ e st hfp hlI => ?_
  have k2 : ∀ b o, s.heap.get? b = some o → s₂.heap.get? b = some o := fun b o eb => by subst e; exact Heap.get?_push_of_some _ eb
  have z2 : s₂.heap.objs.size = s.heap.objs.size + 1 := by subst e; exact Heap.size_push _ _
  have hlim2 : s₂.heap.NoLimit := hlim.keeps fun b o eb => k2 b o (F₀.keep b o eb)
  refine ⟨hlim2, gen_code hcode (C.keeps fun b o eb => k2 b o (F₀.keep b o eb)) (k2 _ _ hP) hps fun c' h₃ tk₃ hx₃ z₃ hP₃ => ?_⟩
  have k3 : ∀ b o, b ≠ P → s.heap.get? b = some o → h₃.get? b = some o := fun b o hb eb => hx₃ b o hb (k2 b o eb)
  have kh : ∀ b o, h₀.get? b = some o → h₃.get? b = some o := fun b o eb => k3 b o (fun q => by rw [q, hPn] at eb; cases eb) (F₀.keep b o eb)
  have M₃ : BMod h₃ env.globals mg bm ob := M.keeps kh
  have hl₃ : h₃.NoLimit := hlim.keeps kh
  refine wpAny_builtinsFor M₃.ns M₃.name M₃.ne M₃.obj M₃.cls M₃.dict M₃.data ?_
  have hPlt : P < s.heap.objs.size := Heap.lt_size hP
  have hcs : cStatics < s.heap.objs.size := by
    obtain ⟨mc, hns, _⟩ := hlim
    exact Nat.lt_of_lt_of_le hns.lt (Nat.le_trans F₀.above (Nat.le_of_lt F₀.ns.lt))
  have hsz3 : s.heap.objs.size + 1 ≤ h₃.objs.size := by rw [← z2]; exact z₃
  have hIP : s.heap.objs.size ≠ P := fun q => by rw [← q] at hPlt; exact Nat.lt_irrefl _ hPlt
  have hlP : l ≠ P := fun q => by
    obtain ⟨o, ho, hc, _⟩ := hl
    rw [q, hP] at ho; cases ho; cases hc
  refine ⟨s.heap.objs.size, [s.heap.objs.size, l] ++ (cStatics :: more), [s.heap.objs.size], vs.toArray.size, _, _, F, rfl, (fun A' hA => (Walks.list hA _ l hlI vs.toArray).mono_fp fun b hb => List.mem_append_left _ hb), ?_, ?_, hl₃, ?_, ?_, fun href hhref => ⟨?_, ?_⟩, fun a h₅ tk gs St hgb hag hsz₅ hk₅ W hat => ?_⟩
  · exact (Walks.list (prog := prog) (w := w) hh _ l hlI vs.toArray).frame 0 s₂.heap h₃ st fun b hb o eb => by
      rcases List.mem_cons.mp hb with rfl | hb
      · exact hx₃ _ o hIP eb
      · rw [List.mem_singleton.mp hb] at eb ⊢; exact hx₃ _ o hlP eb
  · intro b hb
    show b < h₃.objs.size
    have key : b < s.heap.objs.size + 1 := by
      rcases List.mem_append.mp hb with hb | hb
      · rcases List.mem_cons.mp hb with rfl | hb
        · exact Nat.lt_succ_self _
        · rw [List.mem_singleton.mp hb]; exact Nat.lt_succ_of_lt hls
      · rcases List.mem_cons.mp hb with rfl | hb
        · exact Nat.lt_succ_of_lt hcs
        · exact Nat.lt_succ_of_lt (hmore b hb)
    exact Nat.lt_of_lt_of_le key hsz3
  · exact List.mem_append_right _ (List.mem_cons_self ..)
  · intro hb
    rw [List.mem_singleton.mp hb] at hcs; exact Nat.lt_irrefl _ hcs
  · intro A' E' i v u m₂ _ _ _ _ _
    exact wpAny_pure ⟨rfl, u.heap, u.toks, rfl, fun _ _ e => e⟩
  · intro A' E' i v u m₂ hA hi _ hns hm hk
    refine helt _ c' A' E' i v u m₂ hA (by simpa using hi) hns hm (fun b hb o eb => ?_) (Nat.le_of_succ_le hsz3)
    refine hk b (List.mem_append_right _ (List.mem_cons_of_mem _ hb)) (fun q => ?_) o (hhref b o (k3 b o (fun q => hmP (q ▸ hb)) eb))
    have := hmore b hb
    rw [List.mem_singleton.mp q] at this
    exact Nat.lt_irrefl _ this
  · have hvs : vs.toArray.size = vs.length := List.size_toArray
    rw [hvs] at W
    refine hQ a _ c' _ _ _ St (fun b o hb eb => hk₅ b o (k3 b o hb eb)) (hk₅ P _ hP₃) ?_ ?_ ?_ ?_ W hat ?_ ?_ ?_
    · have : s₂.gens = s.gens := by subst e; rfl
      show AllBare (s₂.gens.push gs)
      rw [this]
      exact hG.push hgb
    · show s₂.os = s.os
      subst e; rfl
    · show s₂.drawn = s.drawn
      subst e; rfl
    · show s.heap.objs.size ≤ h₅.objs.size
      rw [hsz₅]
      exact Nat.le_of_lt (Nat.lt_of_lt_of_le (Nat.lt_of_lt_of_le (Nat.lt_succ_self _) hsz3) (Nat.le_succ_of_le (Nat.le_of_lt hag)))
    · intro b hb
      show b < h₅.objs.size
      rw [hsz₅]
      rcases List.mem_cons.mp hb with rfl | hb
      · exact Nat.lt_succ_self _
      · rcases List.mem_cons.mp hb with rfl | hb
        · exact Nat.lt_succ_of_lt hag
        · refine Nat.lt_succ_of_lt (Nat.lt_trans ?_ hag)
          show b < h₃.objs.size
          refine Nat.lt_of_lt_of_le ?_ hsz3
          rcases List.mem_append.mp hb with hb | hb
          · rcases List.mem_cons.mp hb with rfl | hb
            · exact Nat.lt_succ_self _
            · rw [List.mem_singleton.mp hb]; exact Nat.lt_succ_of_lt hls
          · rcases List.mem_cons.mp hb with rfl | hb
            · exact Nat.lt_succ_of_lt hcs
            · exact Nat.lt_succ_of_lt (hmore b hb)
    · intro b hb
      rcases List.mem_cons.mp hb with rfl | hb
      · exact Nat.le_of_succ_le hsz3
      · rw [List.mem_singleton.mp hb]; exact Nat.le_refl _
    · intro b hb hlt
      rcases List.mem_cons.mp hb with rfl | hb
      · exact absurd (Nat.lt_trans hag hlt) (Nat.not_lt.mpr (Nat.le_of_succ_le hsz3))
      · rcases List.mem_cons.mp hb with rfl | hb
        · exact absurd hlt (Nat.not_lt.mpr (Nat.le_of_succ_le hsz3))
        · rcases List.mem_append.mp hb with hb | hb
          · rcases List.mem_cons.mp hb with rfl | hb
            · exact absurd hlt (Nat.lt_irrefl _)
            · exact .inl (List.mem_singleton.mp hb)
          · rcases List.mem_cons.mp hb with rfl | hb
            · exact .inr (.inl rfl)
            · exact .inr (.inr hb)
end
end Mine
end

section
open PySem PySem.W PySem.Calls PyProof.Rows
namespace Mine
/-- what a call of the def at f with the values vs does: the ledger news becomes one of which Post tells; generators may be made -/
abbrev ClaimG (k : Nat) (w : World) (p : Program) (loose : List Str) (mean : ExcName → Option Value) (mg mb : Str → Option Value) (f : Addr) (news : List (Addr × Obj)) (vs : List Value) (Post : Value → List (Addr × Obj) → Prop) : Prop :=
  ∀ (dp un : Nat) (gd : Option (List Code)) (cn : Str) (cs : Scope) (a : Addr) (ccd : Value) (cl : List (Str × Addr)) (outer : List Env) (A₀ : Around) (base h₀ : Heap) (L : Addr) (m : Str → Option Value) (s : Shared) (Q E : Value → Shared → Prop),
    Below A₀ base outer h₀ → Fr h₀ L s.heap m → (fr.heap_1 w.params).In h₀ → News h₀ L s.heap news → Top p loose mean mg mb h₀ → cs.kind = .function → AllBare s.gens →
    dp + 20 * k < recursionLimit → un + 100 * k < cLine →
    (∀ v h' g' tk' news', Fr h₀ L h' m → News h₀ L h' news' → AllBare g' → Post v news' → Q v { s with heap := h', gens := g', toks := tk' }) →
    wpAny (model Challenge.rw_re0039_01.row.prog w) (ktrTop dp un gd cn cs L a ccd cl outer) (call (.ref f) vs) Q E s
/-- the same, no generator is made -/
abbrev Claim (k : Nat) (w : World) (p : Program) (loose : List Str) (mean : ExcName → Option Value) (mg mb : Str → Option Value) (f : Addr) (news : List (Addr × Obj)) (vs : List Value) (Post : Value → List (Addr × Obj) → Prop) : Prop :=
  ∀ (dp un : Nat) (gd : Option (List Code)) (cn : Str) (cs : Scope) (a : Addr) (ccd : Value) (cl : List (Str × Addr)) (outer : List Env) (A₀ : Around) (base h₀ : Heap) (L : Addr) (m : Str → Option Value) (s : Shared) (Q E : Value → Shared → Prop),
    Below A₀ base outer h₀ → Fr h₀ L s.heap m → (fr.heap_1 w.params).In h₀ → News h₀ L s.heap news → Top p loose mean mg mb h₀ → cs.kind = .function →
    dp + 20 * k < recursionLimit → un + 100 * k < cLine →
    (∀ v h' tk' news', Fr h₀ L h' m → News h₀ L h' news' → Post v news' → Q v { s with heap := h', toks := tk' }) →
    wpAny (model Challenge.rw_re0039_01.row.prog w) (ktrTop dp un gd cn cs L a ccd cl outer) (call (.ref f) vs) Q E s
/-- the walk halts here -/
def Stop (P : Prop) : Prop := P
theorem Stop.mk {P : Prop} (h : Stop P) : P := h
theorem Stop.go {P : Prop} (h : P) : Stop P := h
theorem all_ne {L d : Nat} {rest : List (Addr × Obj)} (h : AllLt L rest) (hd : L ≤ d) : ∀ p ∈ rest, p.1 ≠ d := by
  induction rest with
  | nil => intro p hp; cases hp
  | cons q r ih =>
    intro p hp
    rcases List.mem_cons.mp hp with rfl | hp
    · exact Nat.ne_of_lt (Nat.lt_of_lt_of_le h.1 hd)
    · exact ih h.2 p hp
theorem ia_bear {vs : List Value} {ns : List Int} (h : IntsAre vs ns) (hb : ∀ n ∈ ns, n.natAbs < 2 ^ 40) : AllBear vs (ns.map (64 * ·)) := by
  induction h with
  | nil => exact .nil
  | cons n t _ ih => exact .cons (.int (hb _ (List.mem_cons_self ..))) (ih fun n hn => hb n (List.mem_cons_of_mem _ hn))
/-- a list of floats -/
inductive Fls : List Value → List Int → Prop
  | nil : Fls [] []
  | cons {x : UInt64} {t : Tok} {n : Int} {vs : List Value} {ns : List Int} : Is x n → Fls vs ns → Fls (.float x t :: vs) (n :: ns)
theorem Fls.len {vs : List Value} {ns : List Int} (h : Fls vs ns) : vs.length = ns.length := by
  induction h with
  | nil => rfl
  | cons _ _ ih => simp [ih]
theorem Fls.snoc {vs : List Value} {ns : List Int} {x : UInt64} {t : Tok} {n : Int} (h : Fls vs ns) (hx : Is x n) : Fls (vs ++ [.float x t]) (ns ++ [n]) := by
  induction h with
  | nil => exact .cons hx .nil
  | cons h _ ih => exact .cons h ih
theorem Fls.at {vs : List Value} {ns : List Int} (h : Fls vs ns) : ∀ (i : Nat) (v : Value), vs[i]? = some v → ∃ x t n, v = .float x t ∧ ns[i]? = some n ∧ Is x n := by
  induction h with
  | nil => intro i v h; simp at h
  | cons hx _ ih =>
    intro i v h
    cases i with
    | zero => simp at h; subst h; exact ⟨_, _, _, rfl, rfl, hx⟩
    | succ i => exact ih i v (by simpa using h)
section
variable {prog : Program} {w : World} {A : Around} {h₀ : Heap} {L : Addr} {m : Str → Option Value} {env : Env} {elt : Expr} {x : Str} {scope : Scope} {cl : List (Str × Addr)} {s : Shared} {S : List (Addr × Obj) → Prop} {Fin : List Value → List (Addr × Obj) → Prop} {news : List (Addr × Obj)}
/-- a comprehension over a list of ints whose elements are floats -/
theorem rest_fl {vs : List Value} {ns : List Int} (g : Int → Int) (hi : IntsAre vs ns) (hS : S news) (hB : ∀ n ∈ ns, n.natAbs ≤ 2 ^ 20)
    (turn : ∀ k t I oI C oC D m₂ ys h tk (E' Q' : Value → Shared → Prop), k.natAbs ≤ 2 ^ 20 → LCg.NsObj oC m₂ → m₂ x = some (.int k t) → Fr h₀ L h m → News h₀ L h ((I, oI) :: (C, oC) :: (D, LCg.lst ys) :: news) → LCg.Off3 I C D news → ((@Ne Nat I C) ∧ (@Ne Nat I D) ∧ (@Ne Nat C D)) →
      (∀ z u h' tk', Is z (g k) → Fr h₀ L h' m → News h₀ L h' ((I, oI) :: (C, oC) :: (D, LCg.lst ys) :: news) → Q' (.float z u) { s with heap := h', toks := tk' }) →
      wpAny (model prog w) A (eval elt (compEnvC scope cl C env)) Q' E' { s with heap := h, toks := tk })
    (fin : ∀ ys, Fls ys (ns.map g) → Fin ys news) : LCg.CompRest prog w A h₀ L m env elt x scope cl s S (fun i v => vs.toArray[i]? = some v) Fin vs.toArray.size 0 [] news := by
  have hlen : ns.length = vs.toArray.size := by rw [List.size_toArray]; exact hi.length.symm
  generalize hn : vs.toArray.size = n at *
  have key : ∀ (j i : Nat) (ys : List Value), i + j = n → Fls ys ((ns.take i).map g) → LCg.CompRest prog w A h₀ L m env elt x scope cl s S (fun i v => vs.toArray[i]? = some v) Fin j i ys news := by
    intro j
    induction j with
    | zero =>
      intro i ys hi' hy
      have e : i = ns.length := by omega
      subst e
      rw [List.take_length] at hy
      exact LCg.CompRest.zero (fin ys hy)
    | succ j ih =>
      intro i ys hi' hy
      refine LCg.CompRest.succ ?_
      intro v I oI C oC D m₂ h tk E' hv hC hx F N off ne
      obtain ⟨k, t, hv', hk⟩ := IntsAre.at hi i v (by simpa using hv)
      rw [hv'] at hx
      refine turn k t I oI C oC D m₂ ys h tk E' _ (hB _ (List.mem_of_getElem? hk)) hC hx F N off ne fun z u h' tk' hz F' N' => ⟨h', tk', news, rfl, F', N', off, hS, ?_⟩
      refine ih (i + 1) _ (by omega) ?_
      rw [List.take_add_one, hk]
      simpa using hy.snoc hz
  exact key n 0 [] (by omega) (by simp only [List.take_zero, List.map_nil]; exact .nil)
end
section
variable {prog : Program} {w : World} {A : Around} {E : Value → Shared → Prop} {s : Shared} {Q : Value → Shared → Prop} {h₀ : Heap} {L D : Addr} {m : Str → Option Value} {news : List (Addr × Obj)}
theorem m_len {its : Array Value} {n : Nat} {k : Int} (N : News h₀ L s.heap news) (hm : (D, listOf its n) ∈ news) (hk : (its.size : Int) = k) (hf : k < 2 ^ 60) (h : Q (.int k (s.toks + 1)) { s with toks := s.toks + 1 + 1 }) :
    wpAny (model prog w) A (call (.builtin "len") [.ref D]) Q E s := len_list (News.isList N hm) (by omega) (by rw [hk]; exact h)
theorem m_fsum {vs : List Value} {ns : List Int} {n : Nat} (hh : A.handled = none) (F : Fr h₀ L s.heap m) (N : News h₀ L s.heap news) (hm : (D, listOf vs.toArray n) ∈ news) (hv : IntsAre vs ns) (hn : ∀ n ∈ ns, n.natAbs ≤ 2 ^ 20) (hl : ns.length ≤ 64)
    (h : ∀ h' tk x t, Is x (64 * ns.sum) → Fr h₀ L h' m → News h₀ L h' news → Q (.float x t) { s with heap := h', toks := tk }) :
    wpAny (model prog w) A (call (.builtin "math.fsum") [.ref D]) Q E s := by
  have bound : ∀ (l : List Int), (∀ n ∈ l, n.natAbs ≤ 2 ^ 20) → l.sum.natAbs ≤ l.length * 2 ^ 20 := by
    intro l
    induction l with
    | nil => intro _; simp
    | cons a r ih =>
      intro hl
      have h1 := ih fun n hn => hl n (List.mem_cons_of_mem _ hn)
      have h2 := hl a (List.mem_cons_self ..)
      rw [List.sum_cons, List.length_cons]
      omega
  have e : ∀ l : List Int, (l.map (64 * ·)).sum = 64 * l.sum := fun l => by
    induction l with
    | nil => rfl
    | cons a r ih => rw [List.map_cons, List.sum_cons, List.sum_cons, ih]; omega
  refine call_fsum_list hh F N (News.isList N hm) (ia_bear hv fun n hx => Nat.lt_of_le_of_lt (hn n hx) (by decide)) (fun i _ => ?_) (fun b hb => ?_) fun h' tk x t hx => h h' tk x t (by rwa [e] at hx)
  · rw [← List.map_take, e]
    have h1 := bound (ns.take i) fun n hx => hn n (List.mem_of_mem_take hx)
    have h2 : (ns.take i).length ≤ 64 := by rw [List.length_take]; omega
    omega
  · obtain ⟨n, hn', rfl⟩ := List.mem_map.mp hb
    have := hn n hn'
    omega
theorem m_div16 {x : UInt64} {t u : Tok} {S : Int} (hx : Is x (64 * S)) (hS : S.natAbs < 2 ^ 30) (h : ∀ z t', Is z (4 * S) → Q (.float z t') { s with toks := s.toks + 1 }) :
    wpAny (model prog w) A (binaryOp .Div (.float x t) (.int 16 u)) Q E s := by
  have h16 : Is (Float64.ofInt 16) (64 * 16) := Is.ofInt (by decide)
  refine AutoFloatOps.truediv_fi_2 h16.notInf (by rw [h16.isZero]; decide) ?_
  exact h _ _ (Is.div hx h16 (by decide) (by omega) (by omega))
theorem m_sub_if {x : UInt64} {k b : Int} {t u : Tok} (hx : Is x b) (hk : k.natAbs < 2 ^ 40) (hb : b.natAbs < 2 ^ 48) (h : ∀ z t', Is z (64 * k - b) → Q (.float z t') { s with toks := s.toks + 1 }) :
    wpAny (model prog w) A (binaryOp .Sub (.int k t) (.float x u)) Q E s := by
  have hi := Is.ofInt (i := k) (by omega)
  exact AutoFloatOps.sub_if_1 hi.notInf (h _ _ (Is.sub hi hx (by omega)))
theorem m_sub_ff {x y : UInt64} {a b : Int} {t u : Tok} (hx : Is x a) (hy : Is y b) (ha : a.natAbs < 2 ^ 48) (hb : b.natAbs < 2 ^ 48) (h : ∀ z t', Is z (a - b) → Q (.float z t') { s with toks := s.toks + 1 }) :
    wpAny (model prog w) A (binaryOp .Sub (.float x t) (.float y u)) Q E s := AutoFloatOps.sub_0 (h _ _ (Is.sub hx hy (by omega)))
theorem m_add_ff {x y : UInt64} {a b : Int} {t u : Tok} (hx : Is x a) (hy : Is y b) (ha : a.natAbs < 2 ^ 48) (hb : b.natAbs < 2 ^ 48) (h : ∀ z t', Is z (a + b) → Q (.float z t') { s with toks := s.toks + 1 }) :
    wpAny (model prog w) A (binaryOp .Add (.float x t) (.float y u)) Q E s := AutoFloatOps.add_0 (h _ _ (Is.add hx hy (by omega)))
theorem m_mul_ff {x y : UInt64} {a b : Int} (c : Int) {t u : Tok} (hx : Is x a) (hy : Is y b) (hc : a * b = 64 * c) (hb : c.natAbs < 2 ^ 48) (h : ∀ z t', Is z c → Q (.float z t') { s with toks := s.toks + 1 }) :
    wpAny (model prog w) A (binaryOp .Mult (.float x t) (.float y u)) Q E s := AutoFloatOps.mul_0 (h _ _ (Is.mul hx hy hc (by omega)))
theorem m_mul_if {x : UInt64} {k b : Int} {t u : Tok} (hx : Is x b) (hk : k.natAbs < 2 ^ 40) (hb : (k * b).natAbs < 2 ^ 48) (h : ∀ z t', Is z (k * b) → Q (.float z t') { s with toks := s.toks + 1 }) :
    wpAny (model prog w) A (binaryOp .Mult (.int k t) (.float x u)) Q E s := by
  have hi := Is.ofInt (i := k) (by omega)
  exact AutoFloatOps.mul_if_1 hi.notInf (h _ _ (Is.mul hi hx (Int.mul_assoc ..) (by omega)))
theorem m_div_ff {x y : UInt64} {a b : Int} (c : Int) {t u : Tok} (hx : Is x a) (hy : Is y b) (hb : b ≠ 0) (hc : a * 64 = c * b) (hl : c.natAbs < 2 ^ 48) (h : ∀ z t', Is z c → Q (.float z t') { s with toks := s.toks + 1 }) :
    wpAny (model prog w) A (binaryOp .Div (.float x t) (.float y u)) Q E s := AutoFloatOps.truediv_1 (by rw [hy.isZero]; simpa using hb) (h _ _ (Is.div hx hy hb hc (by omega)))
end
end Mine
end

section
open PySem PySem.W PySem.Calls PyProof.Rows
namespace Mine
/-- the claims' forms whose Post is told the tokens at the call and at its end -/
abbrev ClaimT (k : Nat) (w : World) (p : Program) (loose : List Str) (mean : ExcName → Option Value) (mg mb : Str → Option Value) (f : Addr) (news : List (Addr × Obj)) (vs : List Value) (Post : Tok → Tok → Value → List (Addr × Obj) → Prop) : Prop :=
  ∀ (dp un : Nat) (gd : Option (List Code)) (cn : Str) (cs : Scope) (a : Addr) (ccd : Value) (cl : List (Str × Addr)) (outer : List Env) (A₀ : Around) (base h₀ : Heap) (L : Addr) (m : Str → Option Value) (s : Shared) (Q E : Value → Shared → Prop),
    Below A₀ base outer h₀ → Fr h₀ L s.heap m → (fr.heap_1 w.params).In h₀ → News h₀ L s.heap news → Top p loose mean mg mb h₀ → cs.kind = .function →
    dp + 20 * k < recursionLimit → un + 100 * k < cLine →
    (∀ v h' tk' news', Fr h₀ L h' m → News h₀ L h' news' → Post s.toks tk' v news' → Q v { s with heap := h', toks := tk' }) →
    wpAny (model Challenge.rw_re0039_01.row.prog w) (ktrTop dp un gd cn cs L a ccd cl outer) (call (.ref f) vs) Q E s
abbrev ClaimGT (k : Nat) (w : World) (p : Program) (loose : List Str) (mean : ExcName → Option Value) (mg mb : Str → Option Value) (f : Addr) (news : List (Addr × Obj)) (vs : List Value) (Post : Tok → Tok → Value → List (Addr × Obj) → Prop) : Prop :=
  ∀ (dp un : Nat) (gd : Option (List Code)) (cn : Str) (cs : Scope) (a : Addr) (ccd : Value) (cl : List (Str × Addr)) (outer : List Env) (A₀ : Around) (base h₀ : Heap) (L : Addr) (m : Str → Option Value) (s : Shared) (Q E : Value → Shared → Prop),
    Below A₀ base outer h₀ → Fr h₀ L s.heap m → (fr.heap_1 w.params).In h₀ → News h₀ L s.heap news → Top p loose mean mg mb h₀ → cs.kind = .function → AllBare s.gens →
    dp + 20 * k < recursionLimit → un + 100 * k < cLine →
    (∀ v h' g' tk' news', Fr h₀ L h' m → News h₀ L h' news' → AllBare g' → Post s.toks tk' v news' → Q v { s with heap := h', gens := g', toks := tk' }) →
    wpAny (model Challenge.rw_re0039_01.row.prog w) (ktrTop dp un gd cn cs L a ccd cl outer) (call (.ref f) vs) Q E s
section
variable {prog : Program} {w : World} {A A₀ : Around} {s : Shared} {K : Frag} {L : Addr} {h₀ base : Heap} {m mg mb : Str → Option Value} {news : List (Addr × Obj)} {p : Program} {loose : List Str} {mean : ExcName → Option Value}
/-- the entry of a def with cells, the tokens never less than at the call -/
theorem code_defT {env : Env} {outer : List Env} {R : Result → Shared → Prop} {name qual : Str} {params : Arguments} {body : List Stmt} {scope : Scope} {dV kV doc pm cdv ct oc : Value} {an od : Option Addr} {osl : Array (Option Value)} {f : Addr} {args : Args} {binds : List (Str × Value)}
    (B : Below A₀ base outer h₀) (F : Fr h₀ L s.heap m) (X₀ : K.In h₀) (N : News h₀ L s.heap news) (T : Top p loose mean mg mb h₀) (hA : A.frames = some (env :: outer)) (hf : env.frame = some L) (hke : env.scope.kind = .function)
    (ho : K.lookup f = some ⟨oc, od, .func (fnOf name qual params body scope dV kV doc pm an cdv ct), osl⟩) (hcd : codeIn K cdv qual = true) (hroom : A.depth < recursionLimit)
    (hbind : BindsTo s (fnOf name qual params body scope dV kV doc pm an cdv ct) args binds) (hkind : (binds.all fun y => scope.names.lookup y.1 == some .local || scope.names.lookup y.1 == some .cell) = true)
    (hnd : ((cellsFrom 0 scope.names []).map (·.1)).Nodup)
    (h : ∀ g L' h₁ tk cells, s.toks ≤ tk → Fr h₀ L g m → Fr g L' h₁ (bindL (envOfC qual scope L' f cdv).kindOf binds fun _ => none) → News g L' h₁ (cells ++ news) →
      CellsAre (bindC (envOfC qual scope L' f cdv).kindOf binds fun _ => none) (cellsFrom (L' + 1) scope.names []) cells → Below A base (env :: outer) g → K.In g → Top p loose mean mg mb g → (∀ p ∈ news, p.1 < L') →
      wpAny (model prog w) (A.deeper (envOfC qual scope L' f cdv)) (execs body (envOfC qual scope L' f cdv))
        (fun fl s' => LeaveK h₀ L m g R (match fl with | .ret v => v | _ => .none) s')
        (fun e s' => wpAny (model prog w) (A.deeper (envOfC qual scope L' f cdv)) (leaving (envOfC qual scope L' f cdv) e) (fun _ s'' => R (.error e) s'') (fun e' s'' => R (.error e') s'') s')
        { s with heap := h₁, toks := tk })
    (hco : scope.isCoroutine = false) (hgen : scope.isGenerator = false) (hk : scope.kind = .function) : codeAny (model prog w) A (.call (.ref f) args) R s := by
  obtain ⟨gF, gB, stays, leave⟩ := groundX (R := R) B F N hA hf hke
  refine codeAny_call_function hroom ((X₀.keeps F.keep) _ _ ho) rfl hco hgen rfl (codeRec_of (X₀.keeps F.keep) hcd) (hbind _ _ _ _ (wpAny_with_toks (Nat.le_refl _) (wpAny_newFunctionEnv_cells hk (kindsX hkind _) fun env' he s' x => ?_)))
  subst he
  intro hle
  refine ⟨(T.nolimit.keeps F.keep).keeps x.toInCall.keep, codeAny_func ?_⟩
  obtain ⟨h₁, tk, rfl, _⟩ := x.done
  have kept := x.toInCall.keep
  obtain ⟨cells, nc, ca⟩ := Cl.news (h₀ := s.heap) (Nat.le_refl _) fun n c hm => ⟨x.cell n c (lookup_of_mem_nodup (cellsFrom_names scope.names 0 (s.heap.objs.size + 1) [] [] rfl ▸ hnd) hm), x.above n c hm⟩
  have nn : News (hideAll s.heap (news.map (·.1))) s.heap.objs.size h₁ (cells ++ news) := fun p hp => by
    rcases List.mem_append.mp hp with hp | hp
    · obtain ⟨z1, z2, z3⟩ := nc p hp
      refine ⟨z1, z2, ?_⟩
      cases q : (hideAll s.heap (news.map (·.1))).get? p.1 with
      | none => rfl
      | some o => rw [of_hideAll _ q] at z3; cases z3
    · exact ⟨kept _ _ (N p hp).1, Nat.ne_of_lt (Heap.lt_size (N p hp).1), hideAll_none _ (List.mem_map_of_mem hp)⟩
  exact wpAny_mono (h _ s.heap.objs.size h₁ tk cells hle gF ⟨x.toInCall.ns, fun b o e => kept b o (of_hideAll _ e), Nat.le_of_eq (hideAll_size _ _)⟩ nn ca gB (X₀.keeps stays) (T.keeps stays) (fun p hp => Heap.lt_size (N p hp).1))
    (fun fl s' hl => leave _ _ hl) fun _ _ y => y
end
section
variable {prog : Program} {w : World} {A : Around} {E : Value → Shared → Prop} {s : Shared} {Q : Value → Shared → Prop}
theorem m_div16T {x : UInt64} {t u : Tok} {S : Int} (hx : Is x (64 * S)) (hS : S.natAbs < 2 ^ 30) (h : ∀ z (t' : Nat), @LE.le Nat _ s.toks t' ∧ @LE.le Nat _ t' s.toks → Is z (4 * S) → Q (.float z t') { s with toks := s.toks + 1 }) :
    wpAny (model prog w) A (binaryOp .Div (.float x t) (.int 16 u)) Q E s := by
  have h16 : Is (Float64.ofInt 16) (64 * 16) := Is.ofInt (by decide)
  refine AutoFloatOps.truediv_fi_2 h16.notInf (by rw [h16.isZero]; decide) ?_
  exact h _ _ ⟨Nat.le_refl _, Nat.le_refl _⟩ (Is.div hx h16 (by decide) (by omega) (by omega))
theorem m_sub_ffT {x y : UInt64} {a b : Int} {t u : Tok} (hx : Is x a) (hy : Is y b) (ha : a.natAbs < 2 ^ 48) (hb : b.natAbs < 2 ^ 48) (h : ∀ z (t' : Nat), @LE.le Nat _ s.toks t' ∧ @LE.le Nat _ t' s.toks → Is z (a - b) → Q (.float z t') { s with toks := s.toks + 1 }) :
    wpAny (model prog w) A (binaryOp .Sub (.float x t) (.float y u)) Q E s := AutoFloatOps.sub_0 (h _ _ ⟨Nat.le_refl _, Nat.le_refl _⟩ (Is.sub hx hy (by omega)))
theorem m_div_ffT {x y : UInt64} {a b : Int} (c : Int) {t u : Tok} (hx : Is x a) (hy : Is y b) (hb : b ≠ 0) (hc : a * 64 = c * b) (hl : c.natAbs < 2 ^ 48) (h : ∀ z (t' : Nat), @LE.le Nat _ s.toks t' ∧ @LE.le Nat _ t' s.toks → Is z c → Q (.float z t') { s with toks := s.toks + 1 }) :
    wpAny (model prog w) A (binaryOp .Div (.float x t) (.float y u)) Q E s := AutoFloatOps.truediv_1 (by rw [hy.isZero]; simpa using hb) (h _ _ ⟨Nat.le_refl _, Nat.le_refl _⟩ (Is.div hx hy hb hc (by omega)))
theorem gen_toksE {α : Type} {M : Model} {x : Sem α} {Q : α → Shared → Prop} {h : Heap} {g : Array GenState} {d} {X : Tok} {o} (k : ∀ tk, @Eq Nat X tk → wpAny M A x Q E ⟨h, g, d, tk, o⟩) : wpAny M A x Q E ⟨h, g, d, X, o⟩ := k X rfl
/-- the tokens of the floats lie in [lo, hi) -/
def TkIn (lo hi : Tok) (vs : List Value) : Prop := ∀ v ∈ vs, ∀ x t, v = .float x t → lo ≤ t ∧ t < hi
theorem TkIn.nil {lo hi : Tok} : TkIn lo hi [] := fun _ hv => by cases hv
theorem TkIn.wide {lo hi lo' hi' : Tok} {vs : List Value} (h : TkIn lo hi vs) (h1 : @LE.le Nat _ lo' lo) (h2 : @LE.le Nat _ hi hi') : TkIn lo' hi' vs := fun v hv y u e => by
  have := h v hv y u e
  exact ⟨Nat.le_trans h1 this.1, Nat.lt_of_lt_of_le this.2 h2⟩
theorem TkIn.one {lo hi : Tok} {x : UInt64} {t : Tok} (h3 : @LE.le Nat _ lo t) (h4 : @LT.lt Nat _ t hi) : TkIn lo hi [.float x t] := fun v hv y u e => by
  rw [List.mem_singleton.mp hv] at e
  injection e with e1 e2
  subst e2
  exact ⟨h3, h4⟩
theorem TkIn.app {lo hi : Tok} {vs ws : List Value} (h : TkIn lo hi vs) (k : TkIn lo hi ws) : TkIn lo hi (vs ++ ws) := fun v hv y u e => (List.mem_append.mp hv).elim (fun hv => h v hv y u e) fun hv => k v hv y u e
theorem TkIn.two {lo hi lo' hi' : Tok} {vs : List Value} {x y : UInt64} {t u : Tok} (h : TkIn lo hi vs) (h1 : @LE.le Nat _ lo' lo) (h2 : @LE.le Nat _ hi hi') (h3 : @LE.le Nat _ lo' t) (h4 : @LT.lt Nat _ t hi') (h5 : @LE.le Nat _ lo' u) (h6 : @LT.lt Nat _ u hi') : TkIn lo' hi' (vs ++ [.float x t, .float y u]) :=
  (h.wide h1 h2).app ((TkIn.one h3 h4).app (TkIn.one h5 h6))
end
end Mine
end

section
namespace Mine
open PySem PySem.Float64 PySem.W PySem.Calls PyProof.Rows
section
variable {prog : Program} {w : World} {A : Around} {E : Value → Shared → Prop} {s : Shared}
/-- what a generator of floats yields -/
def Flt (bs : List Int) (i : Nat) (v : Value) : Prop := ∃ x t b, v = .float x t ∧ bs[i]? = some b ∧ Is x b
theorem wpAny_Keeps_refl {u : Shared} {tk : Nat} : Keeps u { u with toks := tk } := ⟨u.heap, tk, rfl, fun _ _ e => e⟩
theorem gen_fl {env : Env} {x z : Str} {px p1 p2 p3 p4 : Pos} {scope : Scope} {cl : List (Str × Addr)} {pos : Pos} {Q : Value → Shared → Prop} {l c P cc : Addr} {vs : List Value} {ns : List Int} {S : Int} {yb : UInt64} {ty : Tok} {oc : Obj} {ps : Array Value} {h₀ : Heap} {L : Addr} {m mg : Str → Option Value} {bm : Addr} {ob : Obj}
    {y : Str} {nl : Nat} {rest : List (Addr × Obj)}
    (F₀ : Fr h₀ L s.heap m) (N : News h₀ L s.heap ((P, tabObj ps) :: rest)) (off : ∀ p ∈ rest, p.1 ≠ P) (hm : (l, listOf vs.toArray nl) ∈ rest) (hi : IntsAre vs ns) (hb : ∀ n ∈ ns, n.natAbs ≤ 2 ^ 20)
    (hmc : (cc, oc) ∈ rest) (hoc : oc.data = .cell (some (.float yb ty))) (hyb : Is yb S) (hS : S.natAbs < 2 ^ 40) (hlc : cl.lookup z = some cc)
    (hlim : h₀.NoLimit) (M : BMod h₀ env.globals mg bm ob) (C : CodeHd h₀ c P) (hps : TabOk pos ps) (hG : AllBare s.gens) (hmy : m y = some (.ref l))
    (hQ : ∀ a s₅ fp wr g St c', Fr h₀ L s₅.heap m → News h₀ L s₅.heap ((P, tabObj (tabOf pos c')) :: rest) → AllBare s₅.gens → s₅.os = s.os → s₅.drawn = s.drawn →
      WalksS prog w A.in1 a fp wr (GenOnlyQ g) ns.length (Flt (ns.map fun k => 64 * k - S)) St → St 0 s₅ → (∀ b ∈ fp, b < s₅.heap.objs.size) → (∀ p ∈ (P, tabObj (tabOf pos c')) :: rest, p.1 ∉ wr) → (∀ b ∈ wr, h₀.get? b = none) → L ∉ fp → Q (.ref a) s₅)
    (hh : A.handled = none) (hroom : A.depth < recursionLimit) (hcode : env.code = .ref c) (hloc : env.locals = L)
    (hk1 : env.scope.kind = .function) (hk2 : env.kindOf y = some .local) (hyd : (y == ("__debug__" : Str)) = false)
    (hco : scope.isCoroutine = false) (hclos : closureFor scope env = pure cl) (hcell : ∀ y ∈ scope.names, y.2 ≠ .cell) (h0 : scope.names.lookup (".0" : Str) = some NameKind.local)
    (hx : scope.names.lookup x = some .local) (hz : scope.names.lookup z = some .free) (hkind : scope.kind = .function) (hxd : (x == ("__debug__" : Str)) = false) (hzd : (z == ("__debug__" : Str)) = false) (hzc : (z == ("__classdict__" : Str)) = false)
    (hs : ∀ x, genFold (.Name y p4) env x = pure x) :
    wpAny (model prog w) A (eval (.GeneratorExp (.BinOp (.Name x p1) .Sub (.Name z p2) p3) [⟨.Name x px, .Name y p4, [], 0⟩] scope pos) env) Q E s := by
  have hl : s.heap.IsList l vs.toArray := News.isList N (List.mem_cons_of_mem _ hm)
  have hP : s.heap.get? P = some (tabObj ps) := (N _ (List.mem_cons_self ..)).1
  have hPn : h₀.get? P = none := (N _ (List.mem_cons_self ..)).2.2
  have hPL : P ≠ L := (N _ (List.mem_cons_self ..)).2.1
  have hcg := N _ (List.mem_cons_of_mem _ hmc)
  have hlg := N _ (List.mem_cons_of_mem _ hm)
  have hccl : cc < s.heap.objs.size := Heap.lt_size hcg.1
  have hlen : vs.length = ns.length := hi.length
  refine gen_list (F := Flt (ns.map fun k => 64 * k - S)) (more := [cc]) hh hco hclos hcell h0 hx hkind hroom (fun Q' hq => ?_) F₀ hl hlim M hcode C hPn hP hps ?_ hG ?_ ?_ ?_ hs
  · refine wpAny_Name (wpAny_loadName_local hk1 hk2 (hloc ▸ F₀.ns) hmy hq) hyd
  · intro b hb'; rw [List.mem_singleton.mp hb']; exact hccl
  · intro Cc c' A' E' i v u m₂ hA hv hns hmx hk hsz
    obtain ⟨k, t, rfl, hki⟩ := IntsAre.at hi i v (by simpa using hv)
    refine wpAny_BinOp ?_
    refine wpAny_Name (wpAny_loadName_local (m := m₂) (by simp [genEnv, hkind]) (by simp [genEnv, Env.kindOf, hx]) hns hmx ?_) hxd
    refine wpAny_Name (wpAny_loadName_free (c := cc) (by simp [genEnv, hkind]) (by simp [genEnv, Env.kindOf, hz]) hlc ⟨oc, hk cc (List.mem_singleton.mpr rfl) oc hcg.1, hoc⟩ ?_ hzc) hzd
    have hkb := hb k (List.mem_of_getElem? hki)
    refine m_sub_if hyb (by omega) (by omega) fun z' t' hz' => ⟨⟨z', t', _, rfl, by rw [List.getElem?_map, hki]; rfl, hz'⟩, u.heap, _, rfl, fun _ _ e => e⟩
  · intro hq
    exact off _ hmc (List.mem_singleton.mp hq).symm
  · intro a s₅ c' fp wr g St k₅ hP₅ hG₅ hos hdr hsz₅ W hst hfp hwr hfl
    refine hQ a s₅ fp wr g St c' ?_ ?_ hG₅ hos hdr (hlen ▸ W.in4_1) hst hfp ?_ ?_ ?_
    · exact LCg.fr_but (I := P) F₀ (fun b o hb' e => k₅ b o (by simpa using hb') e) (Ne.symm hPL) hPn
    · intro p hp
      rcases List.mem_cons.mp hp with rfl | hp
      · exact ⟨hP₅, hPL, hPn⟩
      · exact ⟨k₅ _ _ (off p hp) (N p (List.mem_cons_of_mem _ hp)).1, (N p (List.mem_cons_of_mem _ hp)).2⟩
    · intro p hp hq
      have h1 := hwr _ hq
      have h2 : p.1 < s.heap.objs.size := by
        rcases List.mem_cons.mp hp with rfl | hp
        · exact Heap.lt_size hP
        · exact Heap.lt_size (N p (List.mem_cons_of_mem _ hp)).1
      exact Nat.lt_irrefl _ (Nat.lt_of_lt_of_le h2 h1)
    · intro b hq
      have h1 := hwr _ hq
      cases e : h₀.get? b with
      | none => rfl
      | some o => exact absurd (Heap.lt_size (F₀.keep b o e)) (Nat.not_lt.mpr h1)
    · intro hq
      have hL : L < s.heap.objs.size := F₀.ns.lt
      rcases hfl L hq hL with e | e | e
      · exact hlg.2.1 e.symm
      · have : cStatics < h₀.objs.size := by obtain ⟨_, q, _⟩ := hlim; exact q.lt
        rw [← e] at this
        exact absurd F₀.above (Nat.not_le.mpr this)
      · exact hcg.2.1 (List.mem_singleton.mp e).symm
theorem sp_gen {Q : Value → Shared → Prop} {h₀ : Heap} {L D a g : Addr} {m : Str → Option Value} {news : List (Addr × Obj)} {zs : List Value} {as bs cs : List Int} {fp wr : List Addr} {St : Nat → Shared → Prop} {nz : Nat}
    (hh : A.handled = none) (F : Fr h₀ L s.heap m) (N : News h₀ L s.heap news) (hG : AllBare s.gens) (hm : (D, listOf zs.toArray nz) ∈ news) (hz : Fls zs as)
    (W : WalksS prog w A.in1 a fp wr (GenOnlyQ g) cs.length (Flt bs) St) (st : St 0 s) (hfp : ∀ b ∈ fp, b < s.heap.objs.size) (hwN : ∀ p ∈ news, p.1 ∉ wr) (hw0 : ∀ b ∈ wr, h₀.get? b = none) (hL : L ∉ fp)
    (hlen : as.length = cs.length) (hn0 : cs.length ≠ 0) (hab : ∀ (i : Nat) (a b : Int), as[i]? = some a → bs[i]? = some b → ∃ c, cs[i]? = some c ∧ a * b = 64 * c)
    (hb : ∀ i, i ≤ cs.length → (cs.take i).sum.natAbs < 2 ^ 50) (hb' : ∀ b ∈ cs, b.natAbs < 2 ^ 50)
    (h : ∀ h' g' tk x t, Is x cs.sum → Fr h₀ L h' m → News h₀ L h' news → AllBare g' → Q (.float x t) { s with heap := h', gens := g', toks := tk }) :
    wpAny (model prog w) A (call (.builtin "math.sumprod") [.ref D, .ref a]) Q E s := by
  refine call_sp_of (xs := as) (ys := bs) (zs := cs) hh (News.isList N hm) (fun i v hv => hz.at i v hv) (hz.len.trans hlen) hn0 hab hb hb' fun s₁ e => ?_
  have st₁ : St 0 s₁ := by
    have := W.frame 0 s (s.heap.push { cls := .type "list_iterator", data := .fields #[.ref D, .int 0 0] }) s.toks st (Nat.le_refl _) (fun b _ o e => Heap.get?_push_of_some _ e)
    subst e; exact this
  refine W.self 0 s₁ _ _ st₁ ⟨a, fp, wr, _, _, St, rfl, W, st₁, fun b hq => ?_, fun hq => Nat.lt_irrefl _ (hfp _ hq), hwN _ hm, fun b o e => e, fun i v hv => hv, fun s' x t hx hM => ?_⟩
  · subst e
    show b < (s.heap.push _).objs.size
    rw [Heap.size_push]
    exact Nat.lt_succ_of_lt (hfp b hq)
  · have hs := hM.os
    have hd := hM.drawn
    have k : ∀ b o, b ∉ wr → s.heap.get? b = some o → s'.heap.get? b = some o := fun b o hb eb => by
      refine hM.heap b o (fun hq => ?_) (by subst e; exact Heap.get?_push_of_some _ eb)
      rcases List.mem_cons.mp hq with hq | hq
      · rw [hq] at eb; exact absurd (Heap.lt_size eb) (Nat.lt_irrefl _)
      · exact hb hq
    have hg : AllBare s'.gens := by
      have := hM.gens
      refine AllBare.moved ?_ this
      subst e; exact hG
    obtain ⟨hp, gs, dr, tk, os⟩ := s'
    have e1 : os = s.os := by subst e; exact hs
    have e2 : dr = s.drawn := by subst e; exact hd
    subst e1 e2
    refine h hp gs tk x t hx ⟨F.ns.at' fun o e => k L o (fun q => hL (W.sub _ q)) e, fun b o e => k b o (fun q => ?_) (F.keep b o e), F.above⟩ (fun p hp => ⟨k _ _ (hwN p hp) (N p hp).1, (N p hp).2⟩) hg
    rw [hw0 b q] at e; cases e
end
end Mine
end

section
namespace Mine
theorem sum_bound {B : Nat} : ∀ {cs : List Int}, (∀ c ∈ cs, c.natAbs ≤ B) → cs.sum.natAbs ≤ cs.length * B
  | [], _ => by simp
  | c :: cs, h => by
    have h1 := h c (List.mem_cons_self ..)
    have h2 := sum_bound (cs := cs) fun c hc => h c (List.mem_cons_of_mem _ hc)
    rw [List.sum_cons, List.length_cons, Nat.add_mul]
    omega
theorem sum_take_bound {B : Nat} {cs : List Int} (h : ∀ c ∈ cs, c.natAbs ≤ B) (i : Nat) : (cs.take i).sum.natAbs ≤ cs.length * B := by
  have h1 := sum_bound (cs := cs.take i) fun c hc => h c (List.mem_of_mem_take hc)
  have h2 : (cs.take i).length ≤ cs.length := by rw [List.length_take]; exact Nat.min_le_right ..
  exact Nat.le_trans h1 (Nat.mul_le_mul_right _ h2)
/-- what linear_regression's slope is, times 64 -/
def dot (xs ys : List Int) : Int := (List.zipWith (fun x y => (x - 2) * y) xs ys).sum
theorem zw_mem {f : Int → Int → Int} {P : Int → Prop} : ∀ {xs ys : List Int}, (∀ x ∈ xs, ∀ y ∈ ys, P (f x y)) → ∀ c ∈ List.zipWith f xs ys, P c
  | [], _, _, c, hc => by simp at hc
  | _ :: _, [], _, c, hc => by simp at hc
  | x :: xs, y :: ys, h, c, hc => by
    rw [List.zipWith_cons_cons] at hc
    rcases List.mem_cons.mp hc with rfl | hc
    · exact h _ (List.mem_cons_self ..) _ (List.mem_cons_self ..)
    · exact zw_mem (xs := xs) (ys := ys) (fun x hx y hy => h x (List.mem_cons_of_mem _ hx) y (List.mem_cons_of_mem _ hy)) c hc
/-- the products that linear_regression sums -/
def prods (S : Int) (xs ys : List Int) : List Int := List.zipWith (fun x y => (x - 2) * (64 * y - 4 * S)) xs ys
theorem prods_sum (S : Int) : ∀ {xs ys : List Int}, xs.length = ys.length → (prods S xs ys).sum = 64 * dot xs ys - 4 * S * (xs.sum - 2 * xs.length)
  | [], [], _ => by simp [prods, dot]
  | [], _ :: _, h => by simp at h
  | _ :: _, [], h => by simp at h
  | x :: xs, y :: ys, h => by
    have ih := prods_sum S (xs := xs) (ys := ys) (by simpa using h)
    simp only [prods, dot, List.zipWith_cons_cons, List.sum_cons, List.length_cons] at ih ⊢
    rw [ih]
    generalize (List.zipWith (fun x y => (x - 2) * y) xs ys).sum = D
    simp only [Int.natCast_add, Int.mul_add, Int.mul_sub, Int.sub_mul, Int.add_mul]
    simp only [Int.mul_comm, Int.mul_left_comm, Int.mul_assoc]
    simp only [Int.natCast_one, Int.mul_one, Int.one_mul]
    omega
theorem prods_len (S : Int) {xs ys : List Int} (h : xs.length = ys.length) : (prods S xs ys).length = xs.length := by simp [prods, h]
theorem prods_at (S : Int) {xs ys : List Int} (hS : xs.sum = 32) (i : Nat) (a b : Int) (ha : (xs.map fun k => 64 * k - 4 * xs.sum)[i]? = some a) (hb : (ys.map fun k => 64 * k - 4 * S)[i]? = some b) : ∃ c, (prods S xs ys)[i]? = some c ∧ a * b = 64 * c := by
  rw [List.getElem?_map] at ha hb
  obtain ⟨x, hx, rfl⟩ := Option.map_eq_some_iff.mp ha
  obtain ⟨y, hy, rfl⟩ := Option.map_eq_some_iff.mp hb
  refine ⟨(x - 2) * (64 * y - 4 * S), by simp [prods, List.getElem?_zipWith, hx, hy], ?_⟩
  have e : 64 * x - 4 * xs.sum = 64 * (x - 2) := by omega
  rw [e, Int.mul_assoc]
theorem prods_bound {S : Int} {xs ys : List Int} (hx : ∀ n ∈ xs, n = 0 ∨ n = 4) (hy : ∀ n ∈ ys, n = 0 ∨ n = 1) (hS : S.natAbs ≤ 16) : ∀ c ∈ prods S xs ys, c.natAbs ≤ 512 := by
  refine zw_mem (P := fun c => c.natAbs ≤ 512) fun x hxm y hym => ?_
  rcases hx x hxm with rfl | rfl <;> rcases hy y hym with rfl | rfl <;> omega
theorem dot_bound {xs ys : List Int} (hx : ∀ n ∈ xs, n = 0 ∨ n = 4) (hy : ∀ n ∈ ys, n = 0 ∨ n = 1) (hl : xs.length = 16) : (dot xs ys).natAbs ≤ 32 := by
  have h := sum_bound (B := 2) (cs := List.zipWith (fun x y => (x - 2) * y) xs ys) (zw_mem (P := fun c => c.natAbs ≤ 2) fun x hxm y hym => by
    rcases hx x hxm with rfl | rfl <;> rcases hy y hym with rfl | rfl <;> decide)
  have : (List.zipWith (fun x y => (x - 2) * y) xs ys).length ≤ 16 := by rw [List.length_zipWith, hl]; exact Nat.min_le_left ..
  unfold dot
  omega
theorem sq_at {xs : List Int} (hS : xs.sum = 32) (hx : ∀ n ∈ xs, n = 0 ∨ n = 4) (i : Nat) (a b : Int) (ha : (xs.map fun k => 64 * k - 4 * xs.sum)[i]? = some a) (hb : (xs.map fun k => 64 * k - 4 * xs.sum)[i]? = some b) : ∃ c, (xs.map fun _ => (256 : Int))[i]? = some c ∧ a * b = 64 * c := by
  rw [ha] at hb; cases hb
  rw [List.getElem?_map] at ha
  obtain ⟨x, hxi, rfl⟩ := Option.map_eq_some_iff.mp ha
  refine ⟨256, by rw [List.getElem?_map, hxi]; rfl, ?_⟩
  rw [hS]
  rcases hx x (List.mem_of_getElem? hxi) with rfl | rfl <;> rfl
theorem const_sum (xs : List Int) : (xs.map fun _ => (256 : Int)).sum = 256 * xs.length := by
  induction xs with
  | nil => rfl
  | cons a r ih => rw [List.map_cons, List.sum_cons, ih, List.length_cons]; omega
theorem ints_sum {ys : List Int} (hy : ∀ n ∈ ys, n = 0 ∨ n = 1) : 0 ≤ ys.sum ∧ ys.sum ≤ ys.length := by
  induction ys with
  | nil => simp
  | cons a r ih =>
    have h1 := ih fun n hn => hy n (List.mem_cons_of_mem _ hn)
    rw [List.sum_cons, List.length_cons]
    rcases hy a (List.mem_cons_self ..) with rfl | rfl <;> omega
end Mine
end

section
namespace Mine
open PySem PySem.Float64 PySem.W PySem.Calls PyProof.Rows
section
variable {prog : Program} {w : World} {A : Around} {E : Value → Shared → Prop} {s : Shared} {h : Heap} {M : Model} {P : Params}
theorem nt_call (X : (fr.heap_1 P).In h) : Looks M h (specialOf (.ref 181) "__call__") (some (.builtin "type.__call__")) := looks_specialIn X (by kernel_rfl)
theorem nt_typ (X : (fr.heap_1 P).In h) : Looks M h (isInstance (.ref 181) (.type "type")) true := looks_instIn X (by kernel_rfl)
theorem nt_self (X : (fr.heap_1 P).In h) : Looks M h (isSubtype (.ref 181) (.ref 181)) true := looks_mroIn X (by kernel_rfl)
theorem nt_tup (X : (fr.heap_1 P).In h) : Looks M h (isSubtype (.ref 181) (.type "tuple")) true := looks_mroIn X (by kernel_rfl)
theorem nt_obj (X : (fr.heap_1 P).In h) : Looks M h (isSubtype (.ref 181) (.type "object")) true := looks_mroIn X (by kernel_rfl)
theorem nt_init (X : (fr.heap_1 P).In h) : Looks M h (typeLookup (.ref 181) "__init__") (some (.builtin "object.__init__")) := looks_findIn X (by kernel_rfl)
theorem nt_made (X : (fr.heap_1 w.params).In h) : Looks (model prog w) h (Bind.madeBy (.ref 181)) none := Looks.of_peek X (by kernel_rfl)
theorem nt_mro (X : (fr.heap_1 w.params).In h) : Looks (model prog w) h (mroOf (.ref 181)) [.ref 181, .type "tuple", .type "object"] := Looks.of_peek X (by kernel_rfl)
theorem nt_here (X : (fr.heap_1 w.params).In h) : Looks (model prog w) h (Bind.madeHere "tuple.__new__" (.ref 181)) () := Looks.of_peek X (by kernel_rfl)
theorem nt_isType (X : (fr.heap_1 w.params).In h) : Looks (model prog w) h (isType (.ref 181)) true := Looks.of_peek X (by kernel_rfl)
def NewBack (P : Params) (Q : Value → Shared → Prop) (E : Value → Shared → Prop) (r : Result) (s' : Shared) : Prop := match r with
  | .ok (.ret v) => ∃ x o, v = .ref x ∧ s'.heap.get? x = some o ∧ o.cls = .ref 181 ∧ (fr.heap_1 P).In s'.heap ∧ Q v s'
  | .ok _ => False
  | .error e => E e s'
theorem nt_oargs (x a b : Value) : argsOk "object.__init__" ⟨[x], [("slope", a), ("intercept", b)]⟩ := by unfold argsOk; kernel_rfl
theorem nt_make {a b : Value} {h₀ : Heap} {L : Addr} {m : Str → Option Value} {Q : Value → Shared → Prop} (F : Fr h₀ L s.heap m) (X₀ : (fr.heap_1 w.params).In h₀)
    (h : codeAny (model prog w) (A.under (.builtin "type.__call__" ⟨[.ref 181], [("slope", a), ("intercept", b)]⟩)) (.call (.ref 131) ⟨[.ref 181], [("slope", a), ("intercept", b)]⟩) (NewBack w.params Q E) { s with toks := s.toks + 1 }) :
    wpAny (model prog w) A (call (.ref 181) [] [("slope", a), ("intercept", b)]) Q E s := by
  have X := X₀.keeps F.keep
  obtain ⟨hh, g, d, t, os⟩ := s
  have call := nt_call (M := model prog w) X
  have typ := nt_typ (M := model prog w) X
  have hm := nt_mro (prog := prog) X
  have made := nt_made (prog := prog) X
  refine wpAny_call (codeAny_of_tree ?_)
  show wpAny _ _ (callAny (.ref 181) _) _ _ _
  refine nd_load (X 181 _ rfl) ?_
  show wpAny _ _ (callAny.viaDunder (.ref 181) _) _ _ _
  unfold callAny.viaDunder
  refine wpAny_bind (call.at ?_)
  dsimp only
  rw [tc_bind]
  refine wpAny_bind (wpAny_pure (wpAny_bind (wpAny_pure ?_)))
  refine wpAny_pure (a := Fin.again (.call (.builtin "type.__call__") ⟨[.ref 181], [("slope", a), ("intercept", b)]⟩)) (And.intro rfl ?_)
  refine codeAny_call_builtin_at (Code.quiet_builtin _ (by decide +kernel)) entry_typeCall (check_slot tc_kind tc_split typ (tc_args _ _ _) ?_)
  unfold Builtin.«type.__call__»
  have getn : ∀ {A' : Around} {Q' : Value → Shared → Prop} {E' : Value → Shared → Prop} {ex : Bool}, Q' (.ref 131) { (⟨hh, g, d, t, os⟩ : Shared) with toks := t + 1 } → wpAny (model prog w) A' (getAttr (.ref 181) "__new__" ex) Q' E' ⟨hh, g, d, t, os⟩ := fun {A' Q' E' ex} hq =>
    cls_sm (C := 181) (name := "__new__") (K := fr.heap_1 w.params) (mc := .type "type") (p := 182) (f := .ref 131) (rest := []) F X₀ (by kernel_rfl) (by kernel_rfl) (by kernel_rfl) (by kernel_rfl) (by kernel_rfl) hq
  repeat (first | with_reducible refine getn ?_ | simp only [List.isEmpty_cons, Bool.false_eq_true, if_false] | with_reducible refine wpAny_call ?_ | lk)
  refine codeAny_mono h fun r s' z => ?_
  rcases r with e | (v | _ | _ | _) <;> first | exact z | exact z.elim | skip
  obtain ⟨x, o, rfl, ho, hc, X', hq⟩ := z
  obtain ⟨oc, od, odt, osl⟩ := o
  dsimp only at hc
  subst hc
  obtain ⟨h1, g1, d1, t1, os1⟩ := s'
  have ty : Looks (model prog w) h1 (typeOf (.ref x)) (.ref 181) := (Looks.ld ho).andThen .now
  have self := nt_self (M := model prog w) X'
  have obj := nt_obj (M := model prog w) X'
  have init := nt_init (M := model prog w) X'
  have made' := nt_made (prog := prog) X'
  have io : Looks (model prog w) h1 (isInstance (.ref x) (.type "object")) true := ty.andThen obj
  have b1 : Looks (model prog w) h1 (bindSpecial (.builtin "object.__init__") (.ref x)) (.builtin "object.__init__", [.ref x]) := Looks.of_pure (oi_bind _)
  unfold isInstance callSpecial? specialOf
  repeat (first | with_reducible refine wpAny_call ?_ | lk)
  refine codeAny_call_builtin oi_plain entry_oi (@check_slot (model prog w) _ _ _ "object.__init__" "object" "__init__" (.ref x) [] _ _ oi_kind oi_split io (nt_oargs (.ref x) a b) ?_)
  unfold Builtin.«object.__init__»
  repeat lk
  exact hq
end
end Mine
end

section
namespace Mine
open PySem PySem.Float64 PySem.W PySem.Calls PyProof.Rows
section
variable {prog : Program} {w : World} {A : Around} {E : Value → Shared → Prop} {s : Shared} {h : Heap} {M : Model} {P : Params}
theorem nt_check (X : (fr.heap_1 w.params).In h) (t : Addr) : Looks (model prog w) h (checkBuiltinCall "tuple.__new__" ⟨[.ref 181, .ref t], []⟩) () := Looks.of_peek X (by kernel_rfl)
/-- what linear_regression hands back -/
abbrev lrObj (d : Addr) (vs : List Value) : Obj := { cls := .ref 181, dict := some d, data := .seq vs.toArray }
theorem nt_new {t : Addr} {vs : List Value} {h₀ : Heap} {L : Addr} {m : Str → Option Value} {news : List (Addr × Obj)} {n : Nat} {Q : Value → Shared → Prop} (F : Fr h₀ L s.heap m) (X₀ : (fr.heap_1 w.params).In h₀) (N : News h₀ L s.heap news)
    (hm : (t, ({ cls := .type "tuple", data := .seq vs.toArray n } : Obj)) ∈ news) (hl : vs.length ≤ 8)
    (h : ∀ x d h', Fr h₀ L h' m → News h₀ L h' ((x, lrObj d vs) :: news) → (∀ p ∈ news, p.1 < x) → Q (.ref x) { s with heap := h' }) :
    wpAny (model prog w) A (call (.builtin "tuple.__new__") [.ref 181, .ref t]) Q E s := by
  have X := X₀.keeps F.keep
  have chk := nt_check (prog := prog) X t
  have isT := nt_isType (prog := prog) X
  have sub := nt_tup (M := model prog w) X
  have here := nt_here (prog := prog) X
  have init := nt_init (M := model prog w) X
  have ht := (N _ hm).1
  have hks : ∀ b o, s.heap.get? b = some o → b < s.heap.objs.size := fun b o e => Heap.lt_size e
  obtain ⟨hh, g, d, tk, os⟩ := s
  dsimp only at *
  refine wpAny_call ?_
  refine codeAny_call_builtin_at (Code.quiet_builtin _ (by decide +kernel)) PySem.F.entry_tuple_new (chk.at ?_)
  unfold Builtin.«tuple.__new__»
  have hsz : vs.toArray.size ≤ sizeLine := by rw [List.size_toArray, sizeLine_eq]; omega
  have col : ∀ {A' : Around} {Q' : List Value → Shared → Prop} {E' : Value → Shared → Prop}, (∀ h', (∀ b o', hh.get? b = some o' → h'.get? b = some o') → Q' vs.toArray.toList { (⟨hh, g, d, tk, os⟩ : Shared) with heap := h' }) → wpAny (model prog w) A' (collect (.ref t)) Q' E' ⟨hh, g, d, tk, os⟩ :=
    fun {A' Q' E'} hq => wpAny_collect_seq (s := ⟨hh, g, d, tk, os⟩) t (.inr rfl) ht rfl rfl hq hsz
  repeat (first | with_reducible refine col ?_ | lk)
  intro h1 hk1
  have F1 : Fr h₀ L h1 m := F.keeps hk1
  have N1 : News h₀ L h1 news := N.grown hk1
  have X1 : (fr.heap_1 w.params).In h1 := X₀.keeps F1.keep
  rw [show vs.toArray.toList.toArray = vs.toArray by simp]
  refine wpAny_bind (wpAny_pure (wpAny_bind (wpAny_alloc (wpAny_bind ?_))))
  unfold newObj
  dsimp only
  rw [if_neg (by omega)]
  refine wpAny_bind (wpAny_alloc ?_)
  unfold classHasDel
  have g1 : ((h1.push { cls := .type "dict", data := .dict #[] }).push (lrObj h1.objs.size vs)).get? 181 = _ := Heap.get?_push_of_some _ (Heap.get?_push_of_some _ (X1 181 _ rfl))
  refine wpAny_bind (wpAny_bind (wpAny_load g1 (wpAny_pure ?_)))
  refine wpAny_pure (wpAny_pure ?_)
  have N2 := (N1.push F1 { cls := .type "dict", data := .dict #[] }).push (F1.push _) (lrObj h1.objs.size vs)
  refine h _ h1.objs.size _ ((F1.push _).push _) (fun p hp => N2 p ?_) (fun p hp => ?_)
  · rcases List.mem_cons.mp hp with rfl | hp
    · exact List.mem_cons_self ..
    · exact List.mem_cons_of_mem _ (List.mem_cons_of_mem _ hp)
  · rw [Heap.size_push]
    exact Nat.lt_succ_of_lt (Heap.lt_size (N1 p hp).1)
end
end Mine
end

section
open PySem PySem.W PySem.Calls PyProof.Rows
namespace Mine
local macro_rules | `(tactic| k_all) => `(tactic| exact all_ne (by assumption) (by (try dsimp only); omega))
local macro_rules | `(tactic| walk_at "call builtin:tuple.__new__") => `(tactic| (k_here; refine Stop.mk ?_))
theorem meta_tuple : typeOf (.type "tuple") = pure (.type "type") := by kernel_rfl
theorem nt_find {P : Params} : findCls (fr.heap_1 P) (.type "tuple") (.type "type") "__new__" = some (.val (.builtin "tuple.__new__")) := by kernel_rfl
theorem nt_stub : Manifest.isStub "tuple" = false := by decide +kernel
theorem nt_handed : handedIn (.builtin "tuple.__new__") = true := by decide +kernel
theorem c_new (w : World) (p : Program) (loose : List Str) (mean : ExcName → Option Value) (mg mb : Str → Option Value) (x1 x2 : UInt64) (t1 t2 : Tok) (news : List (Addr × Obj)) (dp un : Nat) (gd : Option (List Code)) (cn : Str) (cs : Scope) (a : Addr) (ccd : Value) (cl : List (Str × Addr)) (outer : List Env) (A₀ : Around) (base h₀ : Heap) (L : Addr) (m : Str → Option Value) (s : Shared) (R : Result → Shared → Prop)
    (B : Below A₀ base outer h₀) (F : Fr h₀ L s.heap m) (X : (fr.heap_1 w.params).In h₀) (N : News h₀ L s.heap news) (T : Top p loose mean mg mb h₀) (hk : cs.kind = .function) (hd : dp + 10 < recursionLimit) (hu : un + 50 < cLine)
    (hret : ∀ x d h' tk', Fr h₀ L h' m → News h₀ L h' ((x, lrObj d [.float x1 t1, .float x2 t2]) :: news) → (∀ p ∈ news, p.1 < x) → R (.ok (.ret (.ref x))) { s with heap := h', toks := tk' }) :
    codeAny (model Challenge.rw_re0039_01.row.prog w) ((ktrTop dp un gd cn cs L a ccd cl outer).under (.builtin "type.__call__" ⟨[.ref 181], [("slope", .float x1 t1), ("intercept", .float x2 t2)]⟩)) (.call (.ref 131) ⟨[.ref 181], [("slope", .float x1 t1), ("intercept", .float x2 t2)]⟩) R s := by
  revert X; k_fill; intro X
  w_on
  k_dflt (refine' code_def ?k1 ?k2 ?k3 ?k4 ?k5 ?kA ?kF ?kK ?k6 ?k7 ?k8 ?k9 ?kB ?_ ?c2 ?c3 ?c4 ?c5; (case kA => exact rfl); (case kF => exact rfl); (case kK => assumption); (case k1 => k_asm); (case k2 => k_asm); (case k3 => k_asm); (case k4 => k_asm); (case k5 => k_asm); (case k6 => k_is); (case k7 => k_is); (case k8 => ktr_room); (case k9 => first | exact BindsTo.of_eq rfl | exact binds_K (by k_in) rfl (by k_is) rfl rfl rfl); (case c5 => decide); (case kB => exact locs rfl); (case c2 => exact rfl); (case c3 => exact rfl); (case c4 => exact rfl); k_whole; intro g' L' h' FG' F' N' B' X' T'; (try dsimp only); (try k_lift B'); (try k_fold))
  k_steps
  refine method_type (K := fr.heap_1 w.params) (T := "tuple") (name := "__new__") (v := .builtin "tuple.__new__") F' X' meta_tuple nt_stub nt_find nt_handed ?_
  dsimp only
  k_steps
  refine Stop.go ?_
  refine nt_new (vs := [.float x1 t1, .float x2 t2]) (by assumption) X' (by assumption) (by k_mem) (Nat.le_of_ble_eq_true rfl) ?_
  intro x9 d9 h9 F9 N9 l9
  dsimp only
  k_steps
  exact hret x9 d9 h9 _ (by assumption) (cb_drop (by assumption) (fun p hp => by rcases List.mem_cons.mp hp with rfl | hp; exact List.mem_cons_self ..; exact List.mem_cons_of_mem _ (List.mem_cons_of_mem _ hp))) (fun p hp => l9 p (List.mem_cons_of_mem _ hp))
end Mine
end

section
namespace Mine
open PySem PySem.Float64 PySem.W PySem.Calls PyProof.Rows
section
variable {prog : Program} {w : World} {A : Around} {E : Value → Shared → Prop} {s : Shared} {h : Heap} {M : Model} {P : Params}
theorem nt_iter (X : (fr.heap_1 P).In h) : Looks M h (typeLookup (.ref 181) "__iter__") (some (.builtin "tuple.__iter__")) := looks_findIn X (by kernel_rfl)
theorem ti_bind (x : Addr) : bindSpecial (.builtin "tuple.__iter__") (.ref x) = pure (.builtin "tuple.__iter__", [.ref x]) := slot_tuple_iter.bind (.ref x)
/-- an object that bears a sequence, of any class -/
def Bs (h : Heap) (t : Addr) (items : Array Value) : Prop := ∃ o n, h.get? t = some o ∧ o.data = .seq items n
theorem nx_item {it t : Addr} {i : Nat} {items : Array Value} {x : Value} {Q : Option Value → Shared → Prop} (hit : IsTupIter s.heap it t i) (hb : Bs s.heap t items) (hx : items[i]? = some x)
    (hQ : ∀ h', IsTupIter h' it t (i + 1) → Heap.SameBut it s.heap h' → Q (some x) { s with heap := h' }) : wpAny (model prog w) A (pyNext (.ref it)) Q E s := by
  obtain ⟨ob, nb, e1, e2⟩ := hb
  have hit' := hit
  obtain ⟨o, ho, hc, hd⟩ := hit'
  unfold pyNext
  refine wpAny_bind (wpAny_attempt (wpAny_callSpecial?_slot (name := Str.ofString "__next__") hit.typeIs slot_tupleiter_next (wpAny_call_entry slot_tupleiter_next hit.typeIs entry_tupleiter_next ?_ (args_tupleiter_next _))))
  show wpAny _ _ (field (.ref it) 0 >>= _) _ _ s
  refine wpAny_bind (wpAny_field ho hd (x := .ref t) rfl ?_)
  show wpAny _ _ (if (Value.ref t == Value.none) = true then _ else _) _ _ s
  rw [if_neg (show ¬ ((Value.ref t == Value.none) = true) from Bool.false_ne_true)]
  show wpAny _ _ (field (.ref it) 1 >>= _) _ _ s
  refine wpAny_bind (wpAny_field ho hd (x := .int i 0) rfl ?_)
  show wpAny _ _ (seqItems? (.ref t) >>= _) _ _ s
  refine wpAny_bind (wpAny_seqItems e1 e2 ?_)
  simp only [Int.toNat_natCast, hx]
  refine wpAny_bind (wpAny_setField ho hd (by simp) (wpAny_pure ⟨x, rfl, wpAny_pure (hQ _ ?_ (Heap.SameBut.update ..))⟩))
  exact ⟨_, Heap.get?_update_self _ ho (Obj.isFreed_of_fields (Obj.data_mapFields hd _)), (Obj.cls_mapFields ..).trans hc, by rw [Obj.data_mapFields hd]; simp [rawInt]⟩
theorem nx_end {it t : Addr} {i : Nat} {items : Array Value} {Q : Option Value → Shared → Prop} (hh : A.handled = none) (hit : IsTupIter s.heap it t i) (hb : Bs s.heap t items) (hx : items[i]? = none)
    (hQ : ∀ h', Heap.ExtBut it s.heap h' → Q none { s with heap := h' }) : wpAny (model prog w) A (pyNext (.ref it)) Q E s := by
  obtain ⟨ob, nb, e1, e2⟩ := hb
  have hit' := hit
  obtain ⟨o, ho, hc, hd⟩ := hit'
  unfold pyNext
  refine wpAny_bind (wpAny_attempt (wpAny_callSpecial?_slot (name := Str.ofString "__next__") hit.typeIs slot_tupleiter_next (wpAny_call_entry slot_tupleiter_next hit.typeIs entry_tupleiter_next ?_ (args_tupleiter_next _))))
  show wpAny _ _ (field (.ref it) 0 >>= _) _ _ s
  refine wpAny_bind (wpAny_field ho hd (x := .ref t) rfl ?_)
  show wpAny _ _ (if (Value.ref t == Value.none) = true then _ else _) _ _ s
  rw [if_neg (show ¬ ((Value.ref t == Value.none) = true) from Bool.false_ne_true)]
  show wpAny _ _ (field (.ref it) 1 >>= _) _ _ s
  refine wpAny_bind (wpAny_field ho hd (x := .int i 0) rfl ?_)
  show wpAny _ _ (seqItems? (.ref t) >>= _) _ _ s
  refine wpAny_bind (wpAny_seqItems e1 e2 ?_)
  simp only [Int.toNat_natCast, hx]
  refine wpAny_bind (wpAny_rule (wpAny_bind (wpAny_setField ho hd (by simp) ?_)))
  show wpAny _ _ (newExc (.type "StopIteration") [] >>= _) _ _ _
  refine wpAny_bind ?_
  simp only [newExc, newTuple]
  refine wpAny_bind (wpAny_newObj_type ?_ (by size_fits))
  refine wpAny_bind (m := firstArgMember _ _) (wpAny_of_eq (a := Value.none) (by first | rfl | (simp only [firstArgMember]; rfl)) ?_)
  refine wpAny_newObj_type ?_ (by size_fits)
  simp only [raiseNew]
  refine wpAny_bind (wpAny_handled ?_)
  rw [show A.in1.handled = none from hh]
  refine wpAny_bind (wpAny_pure (wpAny_throw ?_))
  refine wpAny_bind (wpAny_isInstance (T := "StopIteration") (b := true) ⟨_, Heap.get?_push_size _ rfl, rfl⟩ isSubtype_stop ?_)
  exact wpAny_pure (hQ _ (((Heap.SameBut.update ..).extBut.push _).push _))
theorem Bs.but {h h' : Heap} {t I : Addr} {items : Array Value} (x : Bs h t items) (hs : Heap.ExtBut I h h') (ht : t ≠ I) : Bs h' t items := let ⟨o, n, e, d⟩ := x; ⟨o, n, hs t o ht e, d⟩
/-- two names take the two items of what linear_regression hands back -/
theorem nt_unpack {env : Env} {e₁ e₂ : PySem.Expr} {k} {pos : Pos} {x d : Addr} {v₁ v₂ : Value} {h₀ : Heap} {L : Addr} {m : Str → Option Value} {news : List (Addr × Obj)} {Q : Unit → Shared → Prop} (hh : A.handled = none) (F : Fr h₀ L s.heap m) (X₀ : (fr.heap_1 w.params).In h₀) (N : News h₀ L s.heap news) (hm : (x, lrObj d [v₁, v₂]) ∈ news)
    (hn : (assignEach [e₁, e₂] env).length = 2) (hstar : (assignEach [e₁, e₂] env).findIdx? (·.1) = none)
    (h : ∀ h', Fr h₀ L h' m → News h₀ L h' news → wpAny (model prog w) A (assignInOrder ((assignEach [e₁, e₂] env).map (·.2)) [v₁, v₂]) Q E { s with heap := h' }) :
    wpAny (model prog w) A (assign (.Tuple [e₁, e₂] k pos) env (.ref x)) Q E s := by
  have X := X₀.keeps F.keep
  have ho := (N _ hm).1
  have hlt : x ≠ s.heap.objs.size := Nat.ne_of_lt (Heap.lt_size ho)
  have ty : Looks (model prog w) s.heap (typeOf (.ref x)) (.ref 181) := (Looks.ld ho).andThen .now
  have it1 := nt_iter (M := model prog w) X
  have io : Looks (model prog w) s.heap (isInstance (.ref x) (.type "tuple")) true := ty.andThen (nt_tup X)
  have sp : Looks (model prog w) s.heap (specialOf (.ref x) "__iter__") (some (.builtin "tuple.__iter__")) := ty.andThen it1
  rw [assign_Tuple]
  refine wpAny_bind (wpAny_standAt ?_)
  unfold unpack
  rw [hn, hstar]
  refine wpAny_bind (wpAny_holding ?_)
  unfold unpackItems notIterableAtAll
  refine wpAny_bind (wpAny_bind (sp.here (wpAny_pure ?_)))
  simp only [Bool.false_eq_true, if_false]
  refine wpAny_bind (wpAny_holding ?_)
  unfold pyIter
  refine wpAny_bind (sp.here ?_)
  have hcall : ∀ {Q' : Value → Shared → Prop}, Q' (.ref s.heap.objs.size) { s with heap := s.heap.push { cls := .type "tuple_iterator", data := .fields #[.ref x, .int 0 0] } } → wpAny (model prog w) A (call (.builtin "tuple.__iter__") [.ref x]) Q' E s := fun {Q'} hq => by
    refine wpAny_call (codeAny_call_builtin (by decide +kernel) PySem.F.entry_tuple_iter (@check_slot (model prog w) _ _ _ "tuple.__iter__" "tuple" "__iter__" (.ref x) [] _ _ (by decide +kernel) (by decide +kernel) io (args_tuple_iter (.ref x)) ?_))
    show wpAny _ _ (do ret (← newFields "tuple_iterator" [.ref x, rawInt 0])) _ _ s
    exact wpAny_bind (wpAny_newObj_type (wpAny_pure hq))
  have body : ∀ {refuse : Sem Value} {Q' : Option Value → Shared → Prop}, Q' (some (.ref s.heap.objs.size)) { s with heap := s.heap.push { cls := .type "tuple_iterator", data := .fields #[.ref x, .int 0 0] } } → wpAny (model prog w) A (callSpecialIfBoundUnlessNone? (.ref x) "__iter__" refuse) Q' E s := fun {refuse Q'} hq => by
    simp only [callSpecialIfBoundUnlessNone?, bindSpecialIfBound?]
    refine wpAny_holding (wpAny_bind (wpAny_bind (sp.here ?_)))
    simp only [ti_bind]
    have fin : wpAny (model prog w) A (if (Value.builtin "tuple.__iter__" == Value.none) = true then (refuse >>= fun v => pure (some v)) else (call (.builtin "tuple.__iter__") [.ref x] >>= fun v => pure (some v))) Q' E s := by
      simp only [builtin_beq_none, Bool.false_eq_true, if_false]
      exact wpAny_bind (hcall (wpAny_pure hq))
    refine wpAny_bind (wpAny_askSetting (wpAny_ite ?_))
    split
    · exact wpAny_pure fin
    · exact wpAny_tryCatch (wpAny_pure fin)
  refine wpAny_bind (body ?_)
  have hT : Shared.TypeIs { s with heap := s.heap.push { cls := .type "tuple_iterator", data := .fields #[.ref x, .int 0 0] } } (.ref s.heap.objs.size) "tuple_iterator" := ⟨_, Heap.get?_push_size _ rfl, rfl⟩
  refine wpAny_bind (wpAny_specialOf hT slot_tupleiter_next.lookup (wpAny_pure ?_))
  have hit0 : IsTupIter (s.heap.push { cls := .type "tuple_iterator", data := .fields #[.ref x, .int 0 0] }) s.heap.objs.size x 0 := ⟨_, Heap.get?_push_size _ rfl, rfl, rfl⟩
  have hb0 : Bs (s.heap.push { cls := .type "tuple_iterator", data := .fields #[.ref x, .int 0 0] }) x #[v₁, v₂] := ⟨_, _, Heap.get?_push_of_some _ ho, rfl⟩
  show wpAny _ _ (holding [.ref s.heap.objs.size] (draw (.ref s.heap.objs.size) 2) >>= _) _ _ _
  refine wpAny_bind (wpAny_holding ?_)
  show wpAny _ _ (pyNext _ >>= _) _ _ _
  refine wpAny_bind (nx_item hit0 hb0 (x := v₁) rfl fun h₁ hit₁ hs₁ => ?_)
  refine wpAny_bind (wpAny_holding ?_)
  show wpAny _ _ (pyNext _ >>= _) _ _ _
  have hb₁ := hb0.but hs₁.extBut hlt
  refine wpAny_bind (nx_item hit₁ hb₁ (x := v₂) rfl fun h₂ hit₂ hs₂ => ?_)
  have hb₂ := hb₁.but hs₂.extBut hlt
  refine wpAny_bind (wpAny_holding ?_)
  show wpAny _ _ (pure []) _ _ _
  refine wpAny_pure (wpAny_pure (wpAny_pure ?_))
  dsimp only
  rw [if_neg (by simp)]
  refine wpAny_bind (wpAny_holding (nx_end hh hit₂ hb₂ rfl fun h₃ hs₃ => ?_))
  simp only [Option.isSome_none, Bool.false_eq_true, if_false]
  refine wpAny_pure ?_
  have kp : ∀ b o, s.heap.get? b = some o → h₃.get? b = some o := fun b o e => by
    have hb : b ≠ s.heap.objs.size := Nat.ne_of_lt (Heap.lt_size e)
    exact hs₃ b o hb (hs₂.extBut b o hb (hs₁.extBut b o hb (Heap.get?_push_of_some _ e)))
  exact h h₃ (F.keeps kp) (N.grown kp)
end
end Mine
end

section
namespace Mine
open PySem PySem.W PySem.Calls PyProof.Rows
section
variable {prog : Program} {w : World} {A : Around} {E : Value → Shared → Prop} {s : Shared} {env : Env} {h₀ : Heap} {x : Str} {body : List Stmt} {Q : Flow → Shared → Prop}
/-- a loop over a range, by an invariant over the ledger; the names in stored may change -/
theorem loop_R {r : Addr} {a₀ b₀ : Int} {t₀ u₀ v₀ : Tok} {n : Nat} {m₀ : Str → Option Value} {news : List (Addr × Obj)} (stored : List Str) (J : Nat → List (Addr × Obj) → Prop)
    (hh : A.handled = none) (hr : IsRange s.heap r a₀ b₀ 1 t₀ u₀ v₀) (hsmall : Builtin.Range.small a₀ b₀ 1 = true) (hn : Builtin.Range.rangeSize a₀ b₀ 1 = (n : Int)) (F : Fr h₀ env.locals s.heap m₀) (N : News h₀ env.locals s.heap news) (hj : J 0 news)
    (turn : ∀ (i : Nat) t (u : Str → Option Value) nx h tk own (Q' : Flow → Shared → Prop), i < n → TbOff own nx → J i nx → Fr h₀ env.locals h (fun z => if z = x then some (.int (a₀ + i) t) else if stored.contains z then u z else m₀ z) → News h₀ env.locals h (nx ++ own) →
      (∀ m' nx' all h' tk', Fr h₀ env.locals h' m' → News h₀ env.locals h' all → (∀ p ∈ nx', p ∈ all) → (∀ p ∈ own, p ∈ all) → TbOff own nx' → (∀ z, z ≠ x → stored.contains z = false → m' z = m₀ z) → J (i + 1) nx' → Q' .next { s with heap := h', toks := tk' }) →
      (∀ v s', Q (.ret v) s' → Q' (.ret v) s') →
      wpAny (model prog w) A (execs body env) Q' E { s with heap := h, toks := tk })
    (done : ∀ (u : Str → Option Value) nx h tk, J n nx → Fr h₀ env.locals h (fun z => if z = x then u z else if stored.contains z then u z else m₀ z) → News h₀ env.locals h nx → Q .next { s with heap := h, toks := tk }) :
    wpAny (model prog w) A (pyIter (.ref r)) (fun it s₂ => LoopAtV prog w A h₀ env x body Q E it s₂) E s := by
  refine tbr_invG (fun i m nx => (∀ z, z ≠ x → stored.contains z = false → m z = m₀ z) ∧ J i nx) hh hr hsmall hn F N ⟨fun _ _ _ => rfl, hj⟩ ?_ ?_
  · rintro i k t m₁ nx h tk own hk hoff ⟨hm, hJ⟩ F₁ N₁
    obtain ⟨hi, rfl⟩ : i < n ∧ a₀ + (i : Int) = k := by
      have h1 := List.getElem?_eq_some_iff.mp hk
      obtain ⟨h2, h3⟩ := h1
      rw [rangeKs_length] at h2
      refine ⟨h2, ?_⟩
      rw [← h3]; simp [rangeKs]
    have e : (fun z => if z = x then some (Value.int (a₀ + (i : Int)) t) else m₁ z) = fun z => if z = x then some (Value.int (a₀ + (i : Int)) t) else if stored.contains z then m₁ z else m₀ z := by
      funext z
      by_cases h1 : z = x
      · simp [h1]
      · simp only [if_neg h1]
        cases h3 : stored.contains z with
        | true => simp
        | false => simp only [Bool.false_eq_true, if_false]; exact hm z h1 h3
    rw [e] at F₁
    refine turn i t m₁ nx h tk own _ hi hoff hJ F₁ N₁ (fun m' nx' all h' tk' F' N' h1 h2 h3 h4 h5 => ⟨h', tk', m', all, nx', rfl, F', N', h1, h2, h3, h4, h5⟩) fun v s' hq => hq
  · rintro m₁ nx h tk ⟨hm, hJ⟩ F₁ N₁
    refine done m₁ nx h tk hJ ?_ N₁
    have e : (fun z => if z = x then m₁ z else if stored.contains z then m₁ z else m₀ z) = m₁ := by
      funext z
      by_cases h1 : z = x
      · simp [h1]
      · simp only [if_neg h1]
        cases h3 : stored.contains z with
        | true => simp
        | false => simp only [Bool.false_eq_true, if_false]; exact (hm z h1 h3).symm
    rw [e]; exact F₁
end
/-- a list of triples of ints -/
inductive Trips (news : List (Addr × Obj)) : List Value → List (Int × Int × Int) → Prop
  | nil : Trips news [] []
  | cons {a : Addr} {x y z : Int} {t u v : Tok} {n : Nat} {vs : List Value} {ts : List (Int × Int × Int)} : (a, ({ cls := .type "tuple", data := .seq #[.int x t, .int y u, .int z v] n } : Obj)) ∈ news → Trips news vs ts → Trips news (.ref a :: vs) ((x, y, z) :: ts)
theorem Trips.mono {news news' : List (Addr × Obj)} {vs : List Value} {ts : List (Int × Int × Int)} (h : Trips news vs ts) (hs : ∀ p ∈ news, p ∈ news') : Trips news' vs ts := by
  induction h with
  | nil => exact .nil
  | cons hm _ ih => exact .cons (hs _ hm) ih
theorem Trips.snoc {news : List (Addr × Obj)} {vs : List Value} {ts : List (Int × Int × Int)} {a : Addr} {x y z : Int} {t u v : Tok} {n : Nat} (h : Trips news vs ts) (hm : (a, ({ cls := .type "tuple", data := .seq #[.int x t, .int y u, .int z v] n } : Obj)) ∈ news) : Trips news (vs ++ [.ref a]) (ts ++ [(x, y, z)]) := by
  induction h with
  | nil => exact .cons hm .nil
  | cons h _ ih => exact .cons h ih
theorem Trips.len {news : List (Addr × Obj)} {vs : List Value} {ts : List (Int × Int × Int)} (h : Trips news vs ts) : vs.length = ts.length := by
  induction h with
  | nil => rfl
  | cons _ _ ih => simp [ih]
/-- what _is_single_bit says -/
def sbit (n : Int) : Bool := if n = 0 then false else Builtin.bitAnd n (n - 1) == 0
theorem allLt_mem {d : Nat} {l : List (Addr × Obj)} (h : AllLt d l) : ∀ p ∈ l, p.1 < d := by
  induction l with
  | nil => intro p hp; cases hp
  | cons q r ih =>
    intro p hp
    rcases List.mem_cons.mp hp with rfl | hp
    · exact h.1
    · exact ih h.2 p hp
theorem news_hd {h₀ h : Heap} {L a : Addr} {o : Obj} {r : List (Addr × Obj)} (N : News h₀ L h ((a, o) :: r)) : ∃ o', o' = o ∧ News h₀ L h ((a, o') :: r) := ⟨o, rfl, N⟩
end Mine
end

section
namespace Mine
open PySem PySem.W PySem.Calls PyProof.Rows
section
variable {prog : Program} {w : World} {A : Around} {E : Value → Shared → Prop} {s : Shared} {env : Env}
/-- where a for over a range begins -/
def ForAt (prog : Program) (w : World) (A : Around) (h₀ : Heap) (env : Env) (x : Str) (body : List Stmt) (Q : Flow → Shared → Prop) (E : Value → Shared → Prop) (xv : Value) (s₁ : Shared) : Prop :=
  ∃ (r : Addr) (a b : Int) (t u v : Tok) (n : Nat) (m₀ : Str → Option Value) (news : List (Addr × Obj)) (stored : List Str) (G : Array GenState → Prop) (J : Nat → List (Addr × Obj) → Prop),
    xv = .ref r ∧ A.handled = none ∧ IsRange s₁.heap r a b 1 t u v ∧ Builtin.Range.small a b 1 = true ∧ Builtin.Range.rangeSize a b 1 = (n : Int) ∧ Fr h₀ env.locals s₁.heap m₀ ∧ News h₀ env.locals s₁.heap news ∧ G s₁.gens ∧ J 0 news ∧
    (∀ (i : Nat) t (u : Str → Option Value) nx I oI h g tk (Q' : Flow → Shared → Prop), i < n → (∀ p ∈ nx, p.1 ≠ I) → J i nx → G g → Fr h₀ env.locals h (fun z => if stored.contains z then u z else m₀ z) → News h₀ env.locals h ((I, oI) :: nx) →
      (∀ m' nx' h' g' tk', Fr h₀ env.locals h' m' → News h₀ env.locals h' ((I, oI) :: nx') → (∀ p ∈ nx', p.1 ≠ I) → G g' → (∀ z, stored.contains z = false → m' z = m₀ z) → J (i + 1) nx' → Q' .next { s₁ with heap := h', gens := g', toks := tk' }) →
      (∀ v s', Q (.ret v) s' → Q' (.ret v) s') →
      wpAny (model prog w) A (storeName env x (.int (a + i) t)) (fun _ s₂ => wpAny (model prog w) A (execs body env) Q' E s₂) E { s₁ with heap := h, gens := g, toks := tk }) ∧
    ∀ (u : Str → Option Value) nx h g tk, J n nx → G g → Fr h₀ env.locals h (fun z => if stored.contains z then u z else m₀ z) → News h₀ env.locals h nx → Q .next { s₁ with heap := h, gens := g, toks := tk }
theorem shape {stored : List Str} {m m₀ : Str → Option Value} (hm : ∀ z, stored.contains z = false → m z = m₀ z) : m = fun z => if stored.contains z then m z else m₀ z := by
  funext z
  cases h3 : stored.contains z with
  | true => simp
  | false => simp only [Bool.false_eq_true, if_false]; exact hm z h3
theorem for_G {x : Str} {px pos : Pos} {iter : PySem.Expr} {body : List Stmt} {Q : Flow → Shared → Prop} (h₀ : Heap)
    (h : wpAny (model prog w) A (eval iter env) (fun xv s₁ => ForAt prog w A h₀ env x body Q E xv s₁) E s)
    (hs : ∀ x, foldedSetIterable iter env x = pure x := by intro _; rfl) (hE : PassesOwn (model prog w) A env E := by passes_own) :
    wpAny (model prog w) A (exec (.For (.Name x px) iter body [] pos) env) Q E s := by
  refine wpAny_For (wpAny_mono h (fun xv s₁ h₁ => ?_) fun _ _ e => e) hs
  obtain ⟨r, a, b, t, u, v, n, m₀, news, stored, G, J, rfl, hh, hr, hsm, hn, F, N, hG, hJ, turn, done⟩ := h₁
  refine wpAny_pyIter_range hr hsm ?_
  have W : Walks prog w A s₁.heap.objs.size [s₁.heap.objs.size] [s₁.heap.objs.size] n (fun i v => ∃ t, v = .int (a + (i : Int)) t)
      (fun i h => IsRangeIter h s₁.heap.objs.size (a + (i : Nat) * 1) ((n : Int) - (i : Nat)) 1) := LCg.range_walks hh a n
  have hI₀ : h₀.get? s₁.heap.objs.size = none := next_is_new F
  have hIL : env.locals ≠ s₁.heap.objs.size := Nat.ne_of_lt F.ns.lt
  generalize hIe : s₁.heap.objs.size = I at *
  refine codeAny_forLoop (R := fun r s' => match r with | .ok f => Q f s' | .error e => cameBackBy (model prog w) A env E e s')
    (fun k s' => ∃ (i : Nat) (h' : Heap) (g' : Array GenState) (tk' : Nat) (m' : Str → Option Value) (nx : List (Addr × Obj)), s' = { s₁ with heap := h', gens := g', toks := tk' } ∧ i ≤ n ∧ k = n + 1 - i ∧
      IsRangeIter h' I (a + (i : Nat) * 1) ((n : Int) - (i : Nat)) 1 ∧ Fr h₀ env.locals h' m' ∧ News h₀ env.locals h' nx ∧ (∀ p ∈ nx, p.1 ≠ I) ∧ G g' ∧ (∀ z, stored.contains z = false → m' z = m₀ z) ∧ J i nx) ?_ (n + 1)
    ⟨0, _, _, _, m₀, news, rfl, Nat.zero_le _, rfl, by show IsRangeIter _ _ _ _ _; rw [hn, ← hIe]; simpa using Heap.get?_push_size _ rfl, F.push _, (fun p hp => ⟨Heap.get?_push_of_some _ (N p hp).1, (N p hp).2⟩),
      (fun p hp e => by have := Heap.lt_size (N p hp).1; rw [e, hIe] at this; exact Nat.lt_irrefl _ this), hG, fun _ _ => rfl, hJ⟩
  rintro k s' ⟨i, h', g', tk', m', nx, rfl, hi, rfl, hst, F', N', off, hG', hm, hJ'⟩
  by_cases hlt : i < n
  · refine W.item i _ _ _ hlt hst fun v h₂ tk₂ hP hst₂ hk₂ => ?_
    obtain ⟨t', rfl⟩ := hP
    dsimp only
    have F₂ : Fr h₀ env.locals h₂ m' := LCg.fr_but F' hk₂ hIL hI₀
    have N₂ : News h₀ env.locals h₂ nx := LCg.news_but N' hk₂ off
    have gI : h₂.get? I = some _ := hst₂
    have N₃ : News h₀ env.locals h₂ ((I, _) :: nx) := List.forall_mem_cons.mpr ⟨⟨gI, Ne.symm hIL, hI₀⟩, N₂⟩
    rw [shape hm] at F₂
    refine wpAny_assign_Name ?_
    refine wpAny_passesOwn hE (wpAny_mono (turn i t' m' nx I _ h₂ g' tk₂ (fun f s₃ => match f with
        | .next | .cont => ∃ m, m < n + 1 - i ∧ ∃ (i : Nat) (h' : Heap) (g' : Array GenState) (tk' : Nat) (m' : Str → Option Value) (nx : List (Addr × Obj)), s₃ = { s₁ with heap := h', gens := g', toks := tk' } ∧ i ≤ n ∧ m = n + 1 - i ∧
            IsRangeIter h' I (a + (i : Nat) * 1) ((n : Int) - (i : Nat)) 1 ∧ Fr h₀ env.locals h' m' ∧ News h₀ env.locals h' nx ∧ (∀ p ∈ nx, p.1 ≠ I) ∧ G g' ∧ (∀ z, stored.contains z = false → m' z = m₀ z) ∧ J i nx
        | .brk => Q .next s₃
        | .ret v => Q (.ret v) s₃) hlt off hJ' hG' F₂ N₃ (fun m₄ nx₄ h₄ g₄ tk₄ F₄ N₄ off₄ hG₄ hm₄ hJ₄ => ?_) fun v s' hq => hq) (fun _ s₂ hq => ?_) fun _ _ e => e)
    · have gI₄ := (N₄ _ (List.mem_cons_self ..)).1
      exact ⟨n + 1 - (i + 1), by omega, i + 1, h₄, g₄, tk₄, m₄, nx₄, rfl, hlt, rfl, gI₄, F₄, fun p hp => N₄ p (List.mem_cons_of_mem _ hp), off₄, hG₄, hm₄, hJ₄⟩
    · refine wpAny_passesOwn hE (wpAny_mono hq (fun f s₃ z => ?_) fun _ _ e => e)
      cases f with
      | next => exact z
      | cont => exact z
      | brk => exact z
      | ret v => exact z
  · obtain rfl : i = n := Nat.le_antisymm hi (Nat.not_lt.mp hlt)
    refine W.done _ _ _ hst fun h₂ tk₂ hk₂ => ?_
    dsimp only
    refine wpAny_pure ?_
    have F₂ : Fr h₀ env.locals h₂ m' := LCg.fr_but F' hk₂ hIL hI₀
    rw [shape hm] at F₂
    exact done m' nx h₂ g' tk₂ hJ' hG' F₂ (LCg.news_but N' hk₂ off)
end
end Mine
end

section
namespace Mine
open PySem PySem.W PySem.Calls PyProof.Rows
section
variable {prog : Program} {w : World} {A : Around} {E : Value → Shared → Prop} {s : Shared} {env : Env}
/-- where a for over a range begins; the invariant is told a bound below the tokens -/
def ForAtT (prog : Program) (w : World) (A : Around) (h₀ : Heap) (env : Env) (x : Str) (body : List Stmt) (Q : Flow → Shared → Prop) (E : Value → Shared → Prop) (xv : Value) (s₁ : Shared) : Prop :=
  ∃ (r : Addr) (a b : Int) (t u v : Tok) (n : Nat) (m₀ : Str → Option Value) (news : List (Addr × Obj)) (stored : List Str) (G : Array GenState → Prop) (J : Nat → List (Addr × Obj) → Nat → Prop) (k₀ : Nat),
    xv = .ref r ∧ A.handled = none ∧ IsRange s₁.heap r a b 1 t u v ∧ Builtin.Range.small a b 1 = true ∧ Builtin.Range.rangeSize a b 1 = (n : Int) ∧ Fr h₀ env.locals s₁.heap m₀ ∧ News h₀ env.locals s₁.heap news ∧ G s₁.gens ∧ J 0 news k₀ ∧ @LE.le Nat _ k₀ s₁.toks ∧
    (∀ (i : Nat) t (u : Str → Option Value) nx I oI h g (k tk : Nat) (Q' : Flow → Shared → Prop), i < n → (∀ p ∈ nx, p.1 ≠ I) → J i nx k → @LE.le Nat _ k tk → G g → Fr h₀ env.locals h (fun z => if stored.contains z then u z else m₀ z) → News h₀ env.locals h ((I, oI) :: nx) →
      (∀ m' nx' h' g' (tk' : Nat), Fr h₀ env.locals h' m' → News h₀ env.locals h' ((I, oI) :: nx') → (∀ p ∈ nx', p.1 ≠ I) → G g' → (∀ z, stored.contains z = false → m' z = m₀ z) → J (i + 1) nx' tk' → Q' .next { s₁ with heap := h', gens := g', toks := tk' }) →
      (∀ v s', Q (.ret v) s' → Q' (.ret v) s') →
      wpAny (model prog w) A (storeName env x (.int (a + i) t)) (fun _ s₂ => wpAny (model prog w) A (execs body env) Q' E s₂) E { s₁ with heap := h, gens := g, toks := tk }) ∧
    ∀ (u : Str → Option Value) nx h g (k tk : Nat), J n nx k → @LE.le Nat _ k tk → G g → Fr h₀ env.locals h (fun z => if stored.contains z then u z else m₀ z) → News h₀ env.locals h nx → Q .next { s₁ with heap := h, gens := g, toks := tk }
theorem for_GT {x : Str} {px pos : Pos} {iter : PySem.Expr} {body : List Stmt} {Q : Flow → Shared → Prop} (h₀ : Heap)
    (h : wpAny (model prog w) A (eval iter env) (fun xv s₁ => ForAtT prog w A h₀ env x body Q E xv s₁) E s)
    (hs : ∀ x, foldedSetIterable iter env x = pure x := by intro _; rfl) (hE : PassesOwn (model prog w) A env E := by passes_own) :
    wpAny (model prog w) A (exec (.For (.Name x px) iter body [] pos) env) Q E s := by
  refine wpAny_For (wpAny_mono h (fun xv s₁ h₁ => ?_) fun _ _ e => e) hs
  obtain ⟨r, a, b, t, u, v, n, m₀, news, stored, G, J, k₀, rfl, hh, hr, hsm, hn, F, N, hG, hJ, hk₀, turn, done⟩ := h₁
  refine wpAny_pyIter_range hr hsm ?_
  have W : Walks prog w A s₁.heap.objs.size [s₁.heap.objs.size] [s₁.heap.objs.size] n (fun i v => ∃ t, v = .int (a + (i : Int)) t)
      (fun i h => IsRangeIter h s₁.heap.objs.size (a + (i : Nat) * 1) ((n : Int) - (i : Nat)) 1) := LCg.range_walks hh a n
  have hI₀ : h₀.get? s₁.heap.objs.size = none := next_is_new F
  have hIL : env.locals ≠ s₁.heap.objs.size := Nat.ne_of_lt F.ns.lt
  generalize hIe : s₁.heap.objs.size = I at *
  refine codeAny_forLoop (R := fun r s' => match r with | .ok f => Q f s' | .error e => cameBackBy (model prog w) A env E e s')
    (fun k s' => ∃ (i : Nat) (h' : Heap) (g' : Array GenState) (tk' : Nat) (m' : Str → Option Value) (nx : List (Addr × Obj)), s' = { s₁ with heap := h', gens := g', toks := tk' } ∧ i ≤ n ∧ k = n + 1 - i ∧
      IsRangeIter h' I (a + (i : Nat) * 1) ((n : Int) - (i : Nat)) 1 ∧ Fr h₀ env.locals h' m' ∧ News h₀ env.locals h' nx ∧ (∀ p ∈ nx, p.1 ≠ I) ∧ G g' ∧ (∀ z, stored.contains z = false → m' z = m₀ z) ∧ ∃ k₁, J i nx k₁ ∧ @LE.le Nat _ k₁ tk') ?_ (n + 1)
    ⟨0, _, _, _, m₀, news, rfl, Nat.zero_le _, rfl, by show IsRangeIter _ _ _ _ _; rw [hn, ← hIe]; simpa using Heap.get?_push_size _ rfl, F.push _, (fun p hp => ⟨Heap.get?_push_of_some _ (N p hp).1, (N p hp).2⟩),
      (fun p hp e => by have := Heap.lt_size (N p hp).1; rw [e, hIe] at this; exact Nat.lt_irrefl _ this), hG, fun _ _ => rfl, _, hJ, hk₀⟩
  rintro k s' ⟨i, h', g', tk', m', nx, rfl, hi, rfl, hst, F', N', off, hG', hm, k₁, hJ', hk₁⟩
  by_cases hlt : i < n
  · refine wpAny_with_toks (n := k₁) hk₁ (W.item i _ _ _ hlt hst fun v h₂ tk₂ hP hst₂ hk₂ => ?_)
    intro hle₂
    obtain ⟨t', rfl⟩ := hP
    dsimp only
    have F₂ : Fr h₀ env.locals h₂ m' := LCg.fr_but F' hk₂ hIL hI₀
    have N₂ : News h₀ env.locals h₂ nx := LCg.news_but N' hk₂ off
    have gI : h₂.get? I = some _ := hst₂
    have N₃ : News h₀ env.locals h₂ ((I, _) :: nx) := List.forall_mem_cons.mpr ⟨⟨gI, Ne.symm hIL, hI₀⟩, N₂⟩
    rw [shape hm] at F₂
    refine wpAny_assign_Name ?_
    refine wpAny_passesOwn hE (wpAny_mono (turn i t' m' nx I _ h₂ g' k₁ tk₂ (fun f s₃ => match f with
        | .next | .cont => ∃ m, m < n + 1 - i ∧ ∃ (i : Nat) (h' : Heap) (g' : Array GenState) (tk' : Nat) (m' : Str → Option Value) (nx : List (Addr × Obj)), s₃ = { s₁ with heap := h', gens := g', toks := tk' } ∧ i ≤ n ∧ m = n + 1 - i ∧
            IsRangeIter h' I (a + (i : Nat) * 1) ((n : Int) - (i : Nat)) 1 ∧ Fr h₀ env.locals h' m' ∧ News h₀ env.locals h' nx ∧ (∀ p ∈ nx, p.1 ≠ I) ∧ G g' ∧ (∀ z, stored.contains z = false → m' z = m₀ z) ∧ ∃ k₁, J i nx k₁ ∧ @LE.le Nat _ k₁ tk'
        | .brk => Q .next s₃
        | .ret v => Q (.ret v) s₃) hlt off hJ' hle₂ hG' F₂ N₃ (fun m₄ nx₄ h₄ g₄ tk₄ F₄ N₄ off₄ hG₄ hm₄ hJ₄ => ?_) fun v s' hq => hq) (fun _ s₂ hq => ?_) fun _ _ e => e)
    · have gI₄ := (N₄ _ (List.mem_cons_self ..)).1
      exact ⟨n + 1 - (i + 1), by omega, i + 1, h₄, g₄, tk₄, m₄, nx₄, rfl, hlt, rfl, gI₄, F₄, fun p hp => N₄ p (List.mem_cons_of_mem _ hp), off₄, hG₄, hm₄, tk₄, hJ₄, Nat.le_refl _⟩
    · refine wpAny_passesOwn hE (wpAny_mono hq (fun f s₃ z => ?_) fun _ _ e => e)
      cases f with
      | next => exact z
      | cont => exact z
      | brk => exact z
      | ret v => exact z
  · obtain rfl : i = n := Nat.le_antisymm hi (Nat.not_lt.mp hlt)
    refine wpAny_with_toks (n := k₁) hk₁ (W.done _ _ _ hst fun h₂ tk₂ hk₂ => ?_)
    intro hle₂
    dsimp only
    refine wpAny_pure ?_
    have F₂ : Fr h₀ env.locals h₂ m' := LCg.fr_but F' hk₂ hIL hI₀
    rw [shape hm] at F₂
    exact done m' nx h₂ g' k₁ tk₂ hJ' hle₂ hG' F₂ (LCg.news_but N' hk₂ off)
end
end Mine
end

section
namespace Mine
open PySem PySem.W PySem.Calls PyProof.Rows
theorem Trips.at {news : List (Addr × Obj)} {vs : List Value} {ts : List (Int × Int × Int)} (h : Trips news vs ts) : ∀ (i : Nat) (v : Value), vs[i]? = some v →
    ∃ a x y z t u w n, v = .ref a ∧ ts[i]? = some (x, y, z) ∧ (a, ({ cls := .type "tuple", data := .seq #[.int x t, .int y u, .int z w] n } : Obj)) ∈ news := by
  induction h with
  | nil => intro i v h; simp at h
  | cons hm _ ih =>
    intro i v h
    cases i with
    | zero => simp at h; subst h; exact ⟨_, _, _, _, _, _, _, _, rfl, rfl, hm⟩
    | succ i => exact ih i v (by simpa using h)
section
variable {prog : Program} {w : World} {A : Around} {E : Value → Shared → Prop} {s : Shared} {h₀ : Heap} {L : Addr} {m : Str → Option Value} {env : Env}
/-- a turn of a comprehension's loop: the target takes the item, the test is asked, the element is put at the end -/
theorem loop_tt {elt ct iter : PySem.Expr} {elts : List PySem.Expr} {x1} {tp : Pos} {scope : Scope} {pos : Pos} {it acc : Value} {env : Env} {R : Result → Shared → Prop} (I : Nat → Shared → Prop)
    (turn : ∀ n s, I n s → ∀ E' : Value → Shared → Prop, wpAny (model prog w) A (pyNext it) (fun r s₁ => match r with
      | none => R (.ok .next) s₁
      | some v => wpAny (model prog w) A (letOwnedTupleGo (.Tuple elts x1 tp) it v) (fun _ s₂ => wpAny (model prog w) A (assign (.Tuple elts x1 tp) env v) (fun _ s₃ =>
          wpAny (model prog w) A (isTrue ct env (eval ct env)) (fun ok s₄ => if ok = true then wpAny (model prog w) A (eval elt env) (fun y s₅ =>
              wpAny (model prog w) A (call (.builtin "list.append") [acc, y]) (fun _ s₆ => ∃ k, k < n ∧ I k s₆) E' s₅) E' s₄ else ∃ k, k < n ∧ I k s₄) E' s₃) E' s₂) E' s₁) E' s)
    (n : Nat) (h : I n s) : codeAny (model prog w) A (.compLoop (.ListComp elt [⟨.Tuple elts x1 tp, iter, [ct], 0⟩] scope pos) 0 it acc env) R s := by
  refine codeAny_loop rfl I (fun n s hI => ?_) n h
  show wpAny _ A ((compTurn (.ListComp elt [⟨.Tuple elts x1 tp, iter, [ct], 0⟩] scope pos) 0 it acc env).onRaise (fun x => do noteFrame x env; theTreesLotGoes x)) _ _ s
  refine wpAny_noted ?_
  rw [compTurn_list]
  have T := turn n s hI (notedBy (model prog w) A env fun e s' => R (.error e) s')
  refine wpAny_bind (wpAny_standAt (wpAny_bind (wpAny_mono T (fun r s₁ h₁ => ?_) fun _ _ h' => h')))
  cases r with
  | none => exact wpAny_pure h₁
  | some v =>
    refine wpAny_bind (wpAny_mono h₁ (fun _ s₂ h₂ => ?_) fun _ _ h' => h')
    refine wpAny_bind (wpAny_mono h₂ (fun _ s₃ h₃ => ?_) fun _ _ h' => h')
    refine wpAny_bind (wpAny_mono (wpAny_tests_one h₃) (fun ok s₄ h₄ => ?_) fun _ _ h' => h')
    cases ok with
    | true =>
      simp only [if_true] at h₄
      exact wpAny_bind (wpAny_bind (wpAny_mono h₄ (fun x s₅ h₅ => wpAny_bind (wpAny_mono h₅ (fun _ s₆ h₆ => wpAny_pure (wpAny_pure ⟨rfl, h₆⟩)) fun _ _ h' => h')) fun _ _ h' => h'))
    | false =>
      simp only [Bool.false_eq_true, if_false] at h₄ ⊢
      exact wpAny_pure ⟨rfl, h₄⟩
/-- a comprehension over triples, one test, the elements ints -/
theorem comp3 {elt ct iter : PySem.Expr} {x y z : Str} {px py pz tp : Pos} {kk} {scope : Scope} {cl : List (Str × Addr)} {pos : Pos} {Q : Value → Shared → Prop} {ax : Addr} {vs : List Value} {ts : List (Int × Int × Int)} {k : Nat} {news : List (Addr × Obj)}
    (p : Int × Int × Int → Bool) (g : Int × Int × Int → Int)
    (F : Fr h₀ L s.heap m) (N : News h₀ L s.heap news) (hm : (ax, listOf vs.toArray k) ∈ news) (hT : Trips news vs ts) (hl : ts.length ≤ 1000) (hh : A.handled = none)
    (hiter : ∀ Q' : Value → Shared → Prop, Q' (.ref ax) s → wpAny (model prog w) A (eval iter env) Q' E s)
    (turn : ∀ a b c ta tb tc I oI C oC D m₂ ys h tk (E' : Value → Shared → Prop) (Q' : Bool → Shared → Prop), (a, b, c) ∈ ts → LCg.NsObj oC m₂ → m₂ x = some (.int a ta) → m₂ y = some (.int b tb) → m₂ z = some (.int c tc) → Fr h₀ L h m → News h₀ L h ((I, oI) :: (C, oC) :: (D, LCg.lst ys) :: news) →
      (∀ h' tk', Fr h₀ L h' m → News h₀ L h' ((I, oI) :: (C, oC) :: (D, LCg.lst ys) :: news) → Q' (p (a, b, c)) { s with heap := h', toks := tk' }) → wpAny (model prog w) A (isTrue ct (compEnvC scope cl C env) (eval ct (compEnvC scope cl C env))) Q' E' { s with heap := h, toks := tk })
    (turn2 : ∀ a b c ta tb tc I oI C oC D m₂ ys h tk (E' Q' : Value → Shared → Prop), (a, b, c) ∈ ts → LCg.NsObj oC m₂ → m₂ x = some (.int a ta) → m₂ y = some (.int b tb) → m₂ z = some (.int c tc) → Fr h₀ L h m → News h₀ L h ((I, oI) :: (C, oC) :: (D, LCg.lst ys) :: news) →
      (∀ u h' tk', Fr h₀ L h' m → News h₀ L h' ((I, oI) :: (C, oC) :: (D, LCg.lst ys) :: news) → Q' (.int (g (a, b, c)) u) { s with heap := h', toks := tk' }) → wpAny (model prog w) A (eval elt (compEnvC scope cl C env)) Q' E' { s with heap := h, toks := tk })
    (fin : ∀ D ys h tk, IntsAre ys ((ts.filter p).map g) → Fr h₀ L h m → News h₀ L h ((D, LCg.lst ys) :: news) → AllLt D news → Q (.ref D) { s with heap := h, toks := tk })
    (hclos : closureFor scope env = pure cl) (hcell : ∀ y ∈ scope.names, y.2 ≠ .cell) (hkind : scope.kind = .function)
    (hnames : ∀ y ∈ scope.names, y.2 = .local → scope.names.lookup y.1 = some .local) (hx : scope.names.lookup x = some .local) (hy : scope.names.lookup y = some .local) (hz : scope.names.lookup z = some .local) (hxy : y ≠ x) (hxz : z ≠ x) (hyz : z ≠ y)
    (hs : ∀ x, foldedSetIterable iter env x = pure x := by intro _; rfl) :
    wpAny (model prog w) A (eval (.ListComp elt [⟨.Tuple [.Name x px, .Name y py, .Name z pz] kk tp, iter, [ct], 0⟩] scope pos) env) Q E s := by
  rw [eval_ListComp]
  refine wpAny_comprehension_free (use := none) rfl hs hclos hkind hnames (hiter _ ?_)
  have hL := News.isList N hm
  have hlt : @LT.lt Nat _ ax s.heap.objs.size := by obtain ⟨_, e, _⟩ := hL; exact Heap.lt_size e
  refine wpAny_pyIter_list hL ?_
  refine wpAny_newObj_type (wpAny_newFunctionEnv hcell (by intro y hy; simp at hy) (fun h₁ hns₁ hsb₁ => ?_) hkind)
  dsimp only at hns₁ hsb₁ ⊢
  generalize hI : s.heap.objs.size = I at *
  have hs1 : (s.heap.push { cls := .type "list_iterator", data := .fields #[.ref ax, .int 0 0] }).objs.size = I + 1 := by rw [Heap.size_push, hI]
  generalize hH1 : s.heap.push { cls := .type "list_iterator", data := .fields #[.ref ax, .int 0 0] } = H1 at *
  have hs2 : (H1.push { cls := .type "list", data := .seq ([] : List Value).toArray }).objs.size = I + 1 + 1 := by rw [Heap.size_push, hs1]
  generalize hH2 : H1.push { cls := .type "list", data := .seq ([] : List Value).toArray } = H2 at *
  rw [hs2] at hns₁ hsb₁
  rw [hs1]
  rw [hs2]
  have lo : ∀ (b : Nat) (o : Obj), s.heap.get? b = some o → b < I := fun b o e => by rw [← hI]; exact Heap.lt_size e
  have up1 : ∀ b o, s.heap.get? b = some o → H1.get? b = some o := fun b o e => by rw [← hH1]; exact Heap.get?_push_of_some _ e
  have up2 : ∀ b o, H1.get? b = some o → H2.get? b = some o := fun b o e => by rw [← hH2]; exact Heap.get?_push_of_some _ e
  have up3 : ∀ (b : Nat) (o : Obj), b ≠ I + 1 + 1 → H2.get? b = some o → h₁.get? b = some o := fun b o hb e => hsb₁.extBut b o hb (Heap.get?_push_of_some _ e)
  have gI1 : H1.get? I = some { cls := .type "list_iterator", data := .fields #[.ref ax, .int 0 0] } := by rw [← hH1, ← hI]; exact Heap.get?_push_size _ rfl
  have gD2 : H2.get? (I + 1) = some (LCg.lst []) := by rw [← hH2, ← hs1]; exact Heap.get?_push_size _ rfl
  have hLlt : @LT.lt Nat _ L I := by rw [← hI]; exact F.ns.lt
  have no0 : ∀ (b : Nat), I ≤ b → h₀.get? b = none := fun b hb => by
    cases e : h₀.get? b with
    | none => rfl
    | some o => exact absurd (lo b o (F.keep b o e)) (Nat.not_lt.mpr hb)
  have hnlt : ∀ q ∈ news, @LT.lt Nat _ q.1 I := fun q hq => lo _ _ (N q hq).1
  have hvl : vs.length = ts.length := hT.len
  have W := Walks.list (prog := prog) (w := w) (A := A) hh I ax (Nat.ne_of_lt hlt) vs.toArray
  have hvs : vs.toArray.size = ts.length := by rw [List.size_toArray, hvl]
  rw [hvs] at W
  have k1 : ∀ b o, s.heap.get? b = some o → h₁.get? b = some o := fun b o e => up3 b o (neN (by have := lo b o e; omega)) (up2 b o (up1 b o e))
  have st0 : h₁.IsListIter I ax 0 ∧ h₁.IsList ax vs.toArray := ⟨⟨_, up3 I _ (neN (by omega)) (up2 I _ gI1), rfl, rfl⟩, hL.at fun o e => k1 _ o e⟩
  have mk : ∀ s₃ : Shared, s₃ = { s with heap := h₁, toks := s.toks + ([] : List (Str × Value)).length } →
      codeAny (model prog w) A (.compLoop (.ListComp elt [⟨.Tuple [.Name x px, .Name y py, .Name z pz] kk tp, iter, [ct], 0⟩] scope pos) 0 (.ref I) (.ref (I + 1)) (compEnvC scope cl (I + 1 + 1) env))
        (compPost (model prog w) A E none Q (.ref (I + 1)) (I + 1 + 1)) s₃ := by
    rintro s₃ rfl
    refine loop_tt (fun q s' => ∃ (i : Nat) (h' : Heap) (tk' : Nat) (ys : List Value) (mC : Str → Option Value), s' = { s with heap := h', toks := tk' } ∧ i ≤ ts.length ∧ q = ts.length + 1 - i ∧ (h'.IsListIter I ax i ∧ h'.IsList ax vs.toArray) ∧
      Fr h₀ L h' m ∧ h'.Ns (I + 1 + 1) mC ∧ News h₀ L h' ((I + 1, LCg.lst ys) :: news) ∧ IntsAre ys (((ts.take i).filter p).map g)) ?_ (ts.length + 1)
      ⟨0, h₁, _, [], _, rfl, Nat.zero_le _, rfl, st0, F.keeps k1, hns₁, List.forall_mem_cons.mpr ⟨⟨up3 _ _ (Nat.ne_of_lt (Nat.lt_succ_self _)) gD2, neN (by omega), no0 _ (by omega)⟩, N.grown k1⟩, by simp only [List.take_zero, List.filter_nil, List.map_nil]; exact .nil⟩
    rintro q s' ⟨i, h', tk', ys, mC, rfl, hi, rfl, hst, F', hn', N', hI'⟩ E'
    by_cases hlt : i < ts.length
    · refine W.item i _ _ _ hlt hst fun v h₂ tk₂ hPv hst₂ hk₂ => ?_
      obtain ⟨t, a, b, c, ta, tb, tc, nt, rfl, hti, hmt⟩ := hT.at i v (by simpa using hPv)
      have hmem : (a, b, c) ∈ ts := List.mem_of_getElem? hti
      have N₂ : News h₀ L h₂ ((I + 1, LCg.lst ys) :: news) := LCg.news_but N' hk₂ fun p hp => by
        rcases List.mem_cons.mp hp with rfl | hp
        · exact Nat.ne_of_gt (Nat.lt_succ_self _)
        · exact Nat.ne_of_lt (hnlt p hp)
      have F₂ : Fr h₀ L h₂ m := LCg.fr_but F' hk₂ (Nat.ne_of_lt hLlt) (no0 _ (Nat.le_refl _))
      have hn₂ : h₂.Ns (I + 1 + 1) mC := hn'.at' fun o e => hk₂ _ o (by simp; exact neN (by omega)) e
      have ht : IsTup h₂ t #[.int a ta, .int b tb, .int c tc] := ⟨_, (N₂ _ (List.mem_cons_of_mem _ hmt)).1, rfl, nt, rfl⟩
      refine wpAny_letOwnedTupleGo_listiter hst₂.1 ?_
      refine assign_Tuple_tuple hh ht rfl rfl fun h₃ he => ?_
      have he' : ∀ b o, h₂.get? b = some o → h₃.get? b = some o := fun b o e => he b o (Nat.ne_of_lt (Heap.lt_size e)) e
      have ik : ∀ {y : Str}, scope.names.lookup y = some .local → (compEnvC scope cl (I + 1 + 1) env).kindOf y = some .local := fun hy => lookup_relabel_local hy
      have ip : ((compEnvC scope cl (I + 1 + 1) env).scope.kind == .class || ((compEnvC scope cl (I + 1 + 1) env).scope.kind == .module && (compEnvC scope cl (I + 1 + 1) env).locals != (compEnvC scope cl (I + 1 + 1) env).globals)) = false := by simp [compEnvC, relabel, hkind]
      refine assignInOrder_cons (wpAny_assign_Name (wpAny_storeName_local (ik hx) (hn₂.at' fun o e => he' _ o e) (fun h₄ hn₄ hs₄ => ?_) ip))
      refine assignInOrder_cons (wpAny_assign_Name (wpAny_storeName_local (ik hy) hn₄ (fun h₅ hn₅ hs₅ => ?_) ip))
      refine assignInOrder_cons (wpAny_assign_Name (wpAny_storeName_local (ik hz) hn₅ (fun h₆ hn₆ hs₆ => ?_) ip))
      refine assignInOrder_nil ?_
      have k3 : ∀ (b : Nat) (o : Obj), b ≠ I + 1 + 1 → h₂.get? b = some o → h₆.get? b = some o := fun b o hb e => hs₆.extBut b o hb (hs₅.extBut b o hb (hs₄.extBut b o hb (he' b o e)))
      have st₆ : h₆.IsListIter I ax (i + 1) ∧ h₆.IsList ax vs.toArray := ⟨by obtain ⟨o, e, r⟩ := hst₂.1; exact ⟨o, k3 _ o (neN (by omega)) e, r⟩, hst₂.2.at fun o e => k3 _ o (neN (by omega)) e⟩
      obtain ⟨oC, hoC, hCo⟩ := LCg.ns_obj hn₆
      obtain ⟨oI, hoI, hIr⟩ := st₆.1
      have F₆ : Fr h₀ L h₆ m := ⟨F₂.ns.at' fun o e => k3 _ o (neN (by omega)) e, fun b o e => k3 b o (fun q => by rw [q, no0 _ (by omega)] at e; cases e) (F₂.keep b o e), F₂.above⟩
      have N₆ : News h₀ L h₆ ((I, oI) :: (I + 1 + 1, oC) :: (I + 1, LCg.lst ys) :: news) := by
        refine List.forall_mem_cons.mpr ⟨⟨hoI, neN (by omega), no0 _ (Nat.le_refl _)⟩, List.forall_mem_cons.mpr ⟨⟨hoC, neN (by omega), no0 _ (by omega)⟩, fun p hp => ⟨k3 _ _ ?_ (N₂ p hp).1, (N₂ p hp).2⟩⟩⟩
        rcases List.mem_cons.mp hp with rfl | hp
        · exact Nat.ne_of_lt (Nat.lt_succ_self _)
        · have := hnlt p hp; exact neN (by omega)
      have mx : (fun q => if q = z then some (Value.int c tc) else if q = y then some (Value.int b tb) else if q = x then some (Value.int a ta) else mC q) x = some (.int a ta) := by
        simp [Ne.symm hxz, Ne.symm hxy]
      have my : (fun q => if q = z then some (Value.int c tc) else if q = y then some (Value.int b tb) else if q = x then some (Value.int a ta) else mC q) y = some (.int b tb) := by
        simp [Ne.symm hyz]
      have mz : (fun q => if q = z then some (Value.int c tc) else if q = y then some (Value.int b tb) else if q = x then some (Value.int a ta) else mC q) z = some (.int c tc) := by simp
      have step : ((ts.take (i + 1)).filter p).map g = ((ts.take i).filter p).map g ++ (if p (a, b, c) then [g (a, b, c)] else []) := by
        rw [List.take_add_one, hti, List.filter_append, List.map_append]
        congr 1
        cases hp : p (a, b, c) <;> simp [hp]
      refine turn a b c ta tb tc I oI (I + 1 + 1) oC (I + 1) _ ys h₆ _ E' _ hmem hCo mx my mz F₆ N₆ fun h₇ tk₇ F₇ N₇ => ?_
      cases hp : p (a, b, c) with
      | false =>
        rw [hp] at step
        simp only [Bool.false_eq_true, if_false, List.append_nil] at step ⊢
        refine ⟨ts.length + 1 - (i + 1), by omega, i + 1, h₇, tk₇, ys, _, rfl, hlt, rfl, ⟨⟨oI, (N₇ _ (List.mem_cons_self ..)).1, hIr⟩, (News.isList N₇ (List.mem_cons_of_mem _ (List.mem_cons_of_mem _ (List.mem_cons_of_mem _ hm))))⟩, F₇, hCo.ns (N₇ _ (List.mem_cons_of_mem _ (List.mem_cons_self ..))).1, fun p hp => N₇ p (List.mem_cons_of_mem _ (List.mem_cons_of_mem _ hp)), ?_⟩
        rw [step]; exact hI'
      | true =>
        rw [hp] at step
        simp only [if_true] at step ⊢
        refine turn2 a b c ta tb tc I oI (I + 1 + 1) oC (I + 1) _ ys h₇ _ E' _ hmem hCo mx my mz F₇ N₇ fun u h₈ tk₈ F₈ N₈ => ?_
        have hys : ys.length ≤ 1000 := by
          rw [hI'.length, List.length_map]
          refine Nat.le_trans (List.length_filter_le _ _) ?_
          rw [List.length_take]
          exact Nat.le_trans (Nat.min_le_right ..) hl
        refine append_at (hsz := by rw [sizeLine_eq, List.size_toArray]; omega) (N₈ _ (List.mem_cons_of_mem _ (List.mem_cons_of_mem _ (List.mem_cons_self ..)))).1 fun h₉ hs₉ hD₉ => ?_
        have k9 : ∀ (b : Nat) (o : Obj), b ≠ I + 1 → h₈.get? b = some o → h₉.get? b = some o := fun b o hb e => hs₉.extBut b o hb e
        have N9 : News h₀ L h₉ news := fun p hp => ⟨k9 _ _ (neN (by have := hnlt p hp; omega)) (N₈ p (List.mem_cons_of_mem _ (List.mem_cons_of_mem _ (List.mem_cons_of_mem _ hp)))).1, (N₈ p (List.mem_cons_of_mem _ (List.mem_cons_of_mem _ (List.mem_cons_of_mem _ hp)))).2⟩
        refine ⟨ts.length + 1 - (i + 1), by omega, i + 1, h₉, tk₈, ys ++ [.int (g (a, b, c)) u], _, rfl, hlt, rfl, ⟨⟨oI, k9 _ _ (neN (by omega)) (N₈ _ (List.mem_cons_self ..)).1, hIr⟩, News.isList N9 hm⟩, F₈.change hs₉ (neN (by omega)) (no0 _ (by omega)),
          hCo.ns (k9 _ _ (neN (by omega)) (N₈ _ (List.mem_cons_of_mem _ (List.mem_cons_self ..))).1), List.forall_mem_cons.mpr ⟨⟨hD₉.trans (congrArg some (LCg.lst_snoc ys _)), neN (by omega), no0 _ (by omega)⟩, N9⟩, ?_⟩
        rw [step]
        exact IntsAre.append hI' (.cons _ u .nil)
    · obtain rfl : i = ts.length := Nat.le_antisymm hi (Nat.not_lt.mp hlt)
      refine W.done _ _ _ hst fun h₂ tk₂ hk₂ => ?_
      dsimp only
      have N₂ : News h₀ L h₂ ((I + 1, LCg.lst ys) :: news) := LCg.news_but N' hk₂ fun p hp => by
        rcases List.mem_cons.mp hp with rfl | hp
        · exact Nat.ne_of_gt (Nat.lt_succ_self _)
        · exact Nat.ne_of_lt (hnlt p hp)
      have F₂ : Fr h₀ L h₂ m := LCg.fr_but F' hk₂ (Nat.ne_of_lt hLlt) (no0 _ (Nat.le_refl _))
      have hn₂ : h₂.Ns (I + 1 + 1) mC := hn'.at' fun o e => hk₂ _ o (by simp; exact neN (by omega)) e
      rw [List.take_length] at hI'
      refine ⟨mC, hn₂, fun h₃ hs₃ => fin (I + 1) ys h₃ _ hI' (F₂.change hs₃ (neN (by omega)) (no0 _ (by omega))) (fun p hp => ⟨hs₃.extBut _ _ ?_ (N₂ p hp).1, (N₂ p hp).2⟩) (allLt_of fun p hp => by have := hnlt p hp; exact Nat.lt_succ_of_lt this)⟩
      rcases List.mem_cons.mp hp with rfl | hp
      · exact Nat.ne_of_lt (Nat.lt_succ_self _)
      · have := hnlt p hp; exact neN (by omega)
  refine codeAny_compStart_list (mk _ rfl) ?_
  refine wpAny_pyIter_listiter (l := ax) (i := 0) st0.1 (mk _ rfl)
end
end Mine
end

section
namespace Mine
open PySem PySem.Float64 PySem.W PySem.Calls PyProof.Rows
section
variable {prog : Program} {w : World} {A : Around} {E : Value → Shared → Prop} {s : Shared} {Q : Value → Shared → Prop} {h₀ : Heap} {L D b : Addr} {m : Str → Option Value} {news news' : List (Addr × Obj)}
theorem m_div_ii {k c : Int} {d : Int} {t u : Tok} (hd : 0 < d) (hc : k * 64 = c * d) (hk : c.natAbs < 2 ^ 40) (h : ∀ z t', Is z c → Q (.float z t') { s with toks := s.toks + 1 }) :
    wpAny (model prog w) A (binaryOp .Div (.int k t) (.int d u)) Q E s := by
  have hneg : (decide (k < 0) != decide (d < 0)) = decide (k < 0) := by
    rw [decide_eq_false (Int.not_lt.mpr (Int.le_of_lt hd))]; cases decide (k < 0) <;> rfl
  have hi : Is (ofFrac (decide (k < 0) != decide (d < 0)) k.natAbs d.natAbs) c := by
    rw [hneg]
    refine Is.frac (by omega) ?_ (fun hc0 => ?_) (by omega)
    · have := congrArg Int.natAbs hc
      rw [Int.natAbs_mul, Int.natAbs_mul] at this
      exact this
    · by_cases hk0 : k < 0
      · rw [decide_eq_true hk0, decide_eq_true]
        apply Int.lt_of_not_ge
        intro hge
        have : 0 ≤ c * d := Int.mul_nonneg hge (Int.le_of_lt hd)
        omega
      · rw [decide_eq_false hk0, decide_eq_false]
        intro hlt
        have : c * d < 0 := Int.mul_neg_of_neg_of_pos hlt hd
        omega
  exact AutoIntOps.truediv_2 (by simpa using Int.ne_of_gt hd) hi.notInf (h _ _ hi)
theorem m_extend2 {vs : List Value} {v₁ v₂ : Value} {n n2 : Nat} (F : Fr h₀ L s.heap m) (N : News h₀ L s.heap news) (hb : (b, listOf [v₁, v₂].toArray n2) ∈ news)
    (U : Upd D (listOf vs.toArray n) (listOf (vs ++ [v₁, v₂]).toArray (n + 1)) news news') (hl : vs.length ≤ 100)
    (h : ∀ h', Fr h₀ L h' m → News h₀ L h' news' → Q .none { s with heap := h' }) : wpAny (model prog w) A (call (.builtin "list.extend") [.ref D, .ref b]) Q E s := by
  refine kl_extend F N hb rfl (by simp) U ?_ (by rw [sizeLine_eq]; simp; omega) (by rw [sizeLine_eq]; simp; omega) h
  simp [Builtin.List.listTooLong]
  intro _
  rw [sizeLine_eq]; omega
end
end Mine
end

section
namespace Mine
open PySem PySem.Float64 PySem.W PySem.Calls PyProof.Rows
inductive IsL : List UInt64 → List Int → Prop
  | nil : IsL [] []
  | cons {x : UInt64} {n : Int} {xs : List UInt64} {ns : List Int} : Is x n → IsL xs ns → IsL (x :: xs) (n :: ns)
theorem Fls.bits {vs : List Value} {ns : List Int} (h : Fls vs ns) : ∃ ws, Flt.FloatsAre vs ws ∧ IsL ws ns := by
  induction h with
  | nil => exact ⟨[], .nil, .nil⟩
  | cons hx _ ih =>
    obtain ⟨ws, a, b⟩ := ih
    exact ⟨_ :: ws, .cons _ _ a, .cons hx b⟩
theorem IsL.len {ws : List UInt64} {ns : List Int} (h : IsL ws ns) : ws.length = ns.length := by
  induction h with
  | nil => rfl
  | cons _ _ ih => simp [ih]
theorem settled_is {t c : UInt64} {a : Int} (ht : Is t a) (hc : Is c 0) (ha : a.natAbs < 2 ^ 50) : Is (Num.settled t c) a := by
  unfold Num.settled
  split
  · have := Is.add ht hc (by omega)
    rwa [Int.add_zero] at this
  · exact ht
theorem sumFloats_is {ws : List UInt64} {ns : List Int} (h : IsL ws ns) : ∀ {t c : UInt64} {a : Int}, Is t a → Is c 0 → a.natAbs + (ns.map Int.natAbs).sum < 2 ^ 48 → ∃ y, Num.sumFloats t c (ws.map .float) = some (.float y) ∧ Is y (a + ns.sum) := by
  induction h with
  | nil => intro t c a ht hc hb; exact ⟨_, rfl, by simpa using settled_is ht hc (by simp at hb; omega)⟩
  | cons hx _ ih =>
    rename_i x n xs ns _
    intro t c a ht hc hb
    rw [List.map_cons, List.sum_cons] at hb
    have hs := Is.add ht hx (by omega)
    have l1 : Is (add (sub x (add t x)) t) 0 := by
      have h1 := Is.sub hx hs (by omega)
      have h2 := Is.add h1 ht (by omega)
      have e : n - (a + n) + a = 0 := by omega
      rwa [e] at h2
    have l2 : Is (add (sub t (add t x)) x) 0 := by
      have h1 := Is.sub ht hs (by omega)
      have h2 := Is.add h1 hx (by omega)
      have e : a - (a + n) + n = 0 := by omega
      rwa [e] at h2
    rw [List.map_cons, Num.sumFloats]
    rw [List.sum_cons, ← Int.add_assoc]
    refine ih hs ?_ (by omega)
    split
    · exact Is.add hc l1 (by decide)
    · exact Is.add hc l2 (by decide)
section
variable {prog : Program} {w : World} {A : Around} {E : Value → Shared → Prop} {s : Shared} {Q : Value → Shared → Prop} {h₀ : Heap} {L D : Addr} {m : Str → Option Value} {news : List (Addr × Obj)}
theorem m_sumF {vs : List Value} {ns : List Int} {k : Nat} (hh : A.handled = none) (F : Fr h₀ L s.heap m) (N : News h₀ L s.heap news) (hm : (D, listOf vs.toArray k) ∈ news) (hf : Fls vs ns) (hne : ns ≠ []) (hb : (ns.map Int.natAbs).sum < 2 ^ 47)
    (h : ∀ h' tk x t, Is x ns.sum → Fr h₀ L h' m → News h₀ L h' news → Q (.float x t) { s with heap := h', toks := tk }) :
    wpAny (model prog w) A (call (.builtin "sum") [.ref D]) Q E s := by
  obtain ⟨ws, hw, hi⟩ := hf.bits
  have hl : s.heap.IsList D vs.toArray := News.isList N hm
  have hr : ∃ y, Num.sumInts 0 (ws.map .float) = some (.float y) ∧ Is y ns.sum := by
    cases hi with
    | nil => exact absurd rfl hne
    | cons hx hr =>
      rename_i x n xs ns
      rw [List.map_cons, Num.sumInts]
      rw [List.map_cons, List.sum_cons] at hb
      have h0 := Is.add (Is.ofInt (i := 0) (by decide)) hx (by omega)
      have := sumFloats_is hr h0 (Is.zero false) (by omega)
      obtain ⟨y, e, hy⟩ := this
      refine ⟨y, e, ?_⟩
      rw [List.sum_cons]
      have e1 : 64 * 0 + n + ns.sum = n + ns.sum := by omega
      rwa [e1] at hy
  obtain ⟨y, hr, hy⟩ := hr
  refine Flt.call_sum_walkF hr (Flt.iter_list_ hl fun s₂ e st hfp hlI => ?_)
  subst e
  have W := (Walks.list (prog := prog) (w := w) (A := A.in1) hh _ D hlI vs.toArray).toS
  have hlen : vs.toArray.size = (ws.map WData.float).length := by simpa using hw.length
  rw [hlen] at W
  refine ⟨_, _, _, _, _, _, rfl, W, st, hfp, fun i v hP => ?_, fun s' v hv hM => ?_⟩
  · obtain ⟨b, t, rfl, e⟩ := hw.at i v (by simpa using hP)
    exact ⟨.float b, by simp [e], .float b t⟩
  · have hs' := moved_eq hM
    rw [hs']
    have kp : ∀ b o, s.heap.get? b = some o → s'.heap.get? b = some o := fun b o eb => by
      refine hM.heap b o (fun hq => ?_) (Heap.get?_push_of_some _ eb)
      rw [List.mem_singleton.mp hq] at eb
      exact absurd (Heap.lt_size eb) (Nat.lt_irrefl _)
    cases hv with
    | float _ t => exact h _ _ _ _ hy (F.grownK kp) (N.grown kp)
theorem m_subF {value slice : PySem.Expr} {vs : List Value} {ns : List Int} {n : Nat} {k : Int} {u : Tok} (N : News h₀ L s.heap news) (hm : (D, listOf vs.toArray n) ∈ news) (hf : Fls vs ns) (h0 : 0 ≤ k) (h1 : k < ns.length) (hfit : k < 2 ^ 63)
    (h : ∀ x t, Is x (ns.getD k.toNat 0) → Q (.float x t) s) (hs : subscripted slice false (.ref D) (.int k u) = operate [.ref D, .int k u] (getItem (.ref D) (.int k u)) := by with_unfolding_all rfl) :
    wpAny (model prog w) A (subscriptTail value slice (.ref D) (.int k u)) Q E s := by
  have hl := News.isList N hm
  have hk : k.toNat < vs.length := by rw [hf.len]; omega
  obtain ⟨v, hv⟩ : ∃ v, vs[k.toNat]? = some v := ⟨_, List.getElem?_eq_getElem hk⟩
  obtain ⟨x, t, b, rfl, hb, hx⟩ := hf.at _ _ hv
  refine tail_any hl.typeIs slot_list_getitem.lookup (wpAny_getItem_list hl h0 hfit (by simpa using hv) ?_) hs
  refine h x t ?_
  rw [List.getD_eq_getElem?_getD, hb]
  exact hx
end
section
variable {prog : Program} {w : World} {A : Around} {h₀ : Heap} {L : Addr} {m : Str → Option Value} {env : Env} {elt : PySem.Expr} {x : Str} {scope : Scope} {cl : List (Str × Addr)} {s : Shared} {S : List (Addr × Obj) → Prop} {Fin : List Value → List (Addr × Obj) → Prop} {news : List (Addr × Obj)} {P : Nat → Value → Prop}
/-- a comprehension over written ints whose elements are floats -/
theorem rest_flK {n : Nat} {ks : List Int} (g : Int → Int) (hlen : ks.length = n) (hP : ∀ (i : Nat) v, i < n → P i v → ∃ k t, ks[i]? = some k ∧ v = .int k t) (hS : S news)
    (turn : ∀ k t I oI C oC D m₂ ys h tk (E' Q' : Value → Shared → Prop), k ∈ ks → LCg.NsObj oC m₂ → m₂ x = some (.int k t) → Fr h₀ L h m → News h₀ L h ((I, oI) :: (C, oC) :: (D, LCg.lst ys) :: news) → LCg.Off3 I C D news → ((@Ne Nat I C) ∧ (@Ne Nat I D) ∧ (@Ne Nat C D)) →
      (∀ z u h' tk', Is z (g k) → Fr h₀ L h' m → News h₀ L h' ((I, oI) :: (C, oC) :: (D, LCg.lst ys) :: news) → Q' (.float z u) { s with heap := h', toks := tk' }) →
      wpAny (model prog w) A (eval elt (compEnvC scope cl C env)) Q' E' { s with heap := h, toks := tk })
    (fin : ∀ ys, Fls ys (ks.map g) → Fin ys news) : LCg.CompRest prog w A h₀ L m env elt x scope cl s S P Fin n 0 [] news := by
  have key : ∀ (j i : Nat) (ys : List Value), i + j = n → Fls ys ((ks.take i).map g) → LCg.CompRest prog w A h₀ L m env elt x scope cl s S P Fin j i ys news := by
    intro j
    induction j with
    | zero =>
      intro i ys hi' hy
      have e : i = ks.length := by omega
      subst e
      rw [List.take_length] at hy
      exact LCg.CompRest.zero (fin ys hy)
    | succ j ih =>
      intro i ys hi' hy
      refine LCg.CompRest.succ ?_
      intro v I oI C oC D m₂ h tk E' hv hC hx F N off ne
      obtain ⟨k, t, hk, hv'⟩ := hP i v (by omega) hv
      rw [hv'] at hx
      refine turn k t I oI C oC D m₂ ys h tk E' _ (List.mem_of_getElem? hk) hC hx F N off ne fun z u h' tk' hz F' N' => ⟨h', tk', news, rfl, F', N', off, hS, ?_⟩
      refine ih (i + 1) _ (by omega) ?_
      rw [List.take_add_one, hk]
      simpa using hy.snoc hz
  exact key n 0 [] (by omega) (by simp only [List.take_zero, List.map_nil]; exact .nil)
/-- a comprehension over written ints whose elements are ints -/
theorem rest_inK {n : Nat} {ks : List Int} (g : Int → Int) (hlen : ks.length = n) (hP : ∀ (i : Nat) v, i < n → P i v → ∃ k t, ks[i]? = some k ∧ v = .int k t) (hS : S news)
    (turn : ∀ k t I oI C oC D m₂ ys h tk (E' Q' : Value → Shared → Prop), k ∈ ks → LCg.NsObj oC m₂ → m₂ x = some (.int k t) → Fr h₀ L h m → News h₀ L h ((I, oI) :: (C, oC) :: (D, LCg.lst ys) :: news) → LCg.Off3 I C D news → ((@Ne Nat I C) ∧ (@Ne Nat I D) ∧ (@Ne Nat C D)) →
      (∀ u h' tk', Fr h₀ L h' m → News h₀ L h' ((I, oI) :: (C, oC) :: (D, LCg.lst ys) :: news) → Q' (.int (g k) u) { s with heap := h', toks := tk' }) →
      wpAny (model prog w) A (eval elt (compEnvC scope cl C env)) Q' E' { s with heap := h, toks := tk })
    (fin : ∀ ys, IntsAre ys (ks.map g) → Fin ys news) : LCg.CompRest prog w A h₀ L m env elt x scope cl s S P Fin n 0 [] news := by
  have key : ∀ (j i : Nat) (ys : List Value), i + j = n → IntsAre ys ((ks.take i).map g) → LCg.CompRest prog w A h₀ L m env elt x scope cl s S P Fin j i ys news := by
    intro j
    induction j with
    | zero =>
      intro i ys hi' hy
      have e : i = ks.length := by omega
      subst e
      rw [List.take_length] at hy
      exact LCg.CompRest.zero (fin ys hy)
    | succ j ih =>
      intro i ys hi' hy
      refine LCg.CompRest.succ ?_
      intro v I oI C oC D m₂ h tk E' hv hC hx F N off ne
      obtain ⟨k, t, hk, hv'⟩ := hP i v (by omega) hv
      rw [hv'] at hx
      refine turn k t I oI C oC D m₂ ys h tk E' _ (List.mem_of_getElem? hk) hC hx F N off ne fun u h' tk' F' N' => ⟨h', tk', news, rfl, F', N', off, hS, ?_⟩
      refine ih (i + 1) _ (by omega) ?_
      rw [List.take_add_one, hk]
      simpa using IntsAre.append hy (.cons (g k) u .nil)
  exact key n 0 [] (by omega) (by simp only [List.take_zero, List.map_nil]; exact .nil)
end
theorem ia6f {vs : List Value} {ns : List Int} (h : IntsAre vs ns) (hl : ns.length = 6) : ∃ a b c d e f t u v w x y, ns = [a, b, c, d, e, f] ∧ vs = [.int a t, .int b u, .int c v, .int d w, .int e x, .int f y] := by
  rcases h with _ | ⟨_, _, h⟩ <;> first | (simp at hl; done) | skip
  rcases h with _ | ⟨_, _, h⟩ <;> first | (simp at hl; done) | skip
  rcases h with _ | ⟨_, _, h⟩ <;> first | (simp at hl; done) | skip
  rcases h with _ | ⟨_, _, h⟩ <;> first | (simp at hl; done) | skip
  rcases h with _ | ⟨_, _, h⟩ <;> first | (simp at hl; done) | skip
  rcases h with _ | ⟨_, _, h⟩ <;> first | (simp at hl; done) | skip
  rcases h with _ | ⟨_, _, h⟩ <;> first | (simp at hl; done) | exact ⟨_, _, _, _, _, _, _, _, _, _, _, _, rfl, rfl⟩
end Mine
end

section
open PySem PySem.W PySem.Calls PyProof.Rows
namespace Mine
local macro_rules | `(tactic| walk_at "execs cons") => `(tactic| (k_here; (fail_if_success (fail_if_success k_gentoks)); refine gen_toksE ?_; intro tk' etk'; (try dsimp only at etk')))
local macro_rules | `(tactic| walk_at "execs nil") => `(tactic| (k_here; (fail_if_success (fail_if_success k_gentoks)); refine gen_toksE ?_; intro tk' etk'; (try dsimp only at etk')))
local macro_rules | `(tactic| k_all) => `(tactic| exact all_ne (by assumption) (by (try dsimp only); omega))
local macro_rules | `(tactic| walk_at "call builtin:len") => `(tactic| (k_here; (with_reducible show wpAny _ _ (call (Value.builtin "len") [Value.ref _]) _ _ _); k_dflt (refine' m_len ?k1 ?k2 ?k3 ?k4 ?_; (case k1 => k_asm); (case k2 => k_mem); (case k3 => assumption); (case k4 => decide); k_whole)))
local macro_rules | `(tactic| walk_at "call builtin:math.fsum") => `(tactic| (k_here; (with_reducible show wpAny _ _ (call (Value.builtin "math.fsum") [Value.ref _]) _ _ _); k_dflt (refine' wpAny_with_toks (Nat.le_refl _) (m_fsum ?k0 ?k1 ?k2 ?k3 ?k4 ?k5 ?k6 ?_); (case k0 => exact rfl); (case k1 => k_asm); (case k2 => k_asm); (case k3 => k_mem); (case k4 => assumption); (case k5 => assumption); (case k6 => omega); k_whole); intro h' tk x' t' hx' F' N' hle'; (try dsimp only at hle')))
local macro_rules | `(tactic| walk_at "binaryOp Div float int") => `(tactic| (k_here; (with_reducible show wpAny _ _ (binaryOp Operator.Div (Value.float _ _) (Value.int 16 _)) _ _ _); k_dflt (refine' m_div16T ?k1 ?k2 ?_; (case k1 => assumption); (case k2 => omega); k_whole); intro x' t' et' hx'; (try dsimp only at et')))
local macro_rules | `(tactic| walk_at "binaryOp Sub int float") => `(tactic| (k_here; (with_reducible show wpAny _ _ (binaryOp Operator.Sub (Value.int _ _) (Value.float _ _)) _ _ _); k_dflt (refine' m_sub_if ?k1 ?k2 ?k3 ?_; (case k1 => assumption); (case k2 => first | assumption | omega); (case k3 => first | assumption | omega); k_whole); intro x' t' hx'))
theorem c_fmean (w : World) (p : Program) (loose : List Str) (mean : ExcName → Option Value) (mg mb : Str → Option Value) (ly : Addr) (vy : List Value) (ys : List Int) (ny : Nat) (rest : List (Addr × Obj))
   (hy : IntsAre vy ys) (hyl : ys.length = 16) (hy1 : ∀ n ∈ ys, n = 0 ∨ n = 1) :
   ClaimT 1 w p loose mean mg mb 113 ((ly, listOf vy.toArray ny) :: rest) [.ref ly] (fun lo hi v news' => ∃ x t, v = .float x t ∧ Is x (4 * ys.sum) ∧ @LE.le Nat _ (lo + 1) t ∧ @LT.lt Nat _ t hi ∧ news' = (ly, listOf vy.toArray ny) :: rest) := by
  unfold ClaimT
  k_fill
  w_on
  intros
  rename_i hret
  have hvy : (vy.toArray.size : Int) = 16 := by rw [List.size_toArray, hy.length, hyl]; rfl
  have hyb : ∀ n ∈ ys, n.natAbs ≤ 2 ^ 20 := fun n hn => by rcases hy1 n hn with rfl | rfl <;> decide
  have hysB : ys.sum.natAbs ≤ 16 := by have := ints_sum hy1; omega
  refine wpAny_call ?_
  k_dflt (refine' code_defT ?k1 ?k2 ?k3 ?k4 ?k5 ?kA ?kF ?kK ?k6 ?k7 ?k8 ?k9 ?kB ?kD ?_ ?c2 ?c3 ?c4; (case kA => exact rfl); (case kF => exact rfl); (case kK => assumption); (case k1 => k_asm); (case k2 => k_asm); (case k3 => k_asm); (case k4 => k_asm); (case k5 => k_asm); (case k6 => k_is); (case k7 => k_is); (case k8 => ktr_room); (case k9 => first | exact BindsTo.of_eq rfl | (refine' kp_binds ?kx ?ke; (case kx => k_in); (case ke => exact fun _ => rfl)) | exact binds_K (by k_in) rfl (by k_is) rfl rfl rfl); (case kB => exact rfl); (case kD => decide +kernel); (case c2 => exact rfl); (case c3 => exact rfl); (case c4 => exact rfl); k_whole; intro g' L' h' tk' cells' hle' FG' F' N' Y' B' X' T' l1; (try k_lt l1); k_cells Y'; (try simp only [List.cons_append, List.nil_append] at N'); (try dsimp only); (try k_lift B'); (try k_fold))
  k_steps
  refine hret _ _ _ _ (by assumption) (cb_drop (by assumption) (fun p hp => List.mem_cons_of_mem _ hp)) ⟨_, _, rfl, by assumption, ?lo, ?hi, rfl⟩
  case lo => (try dsimp only); omega
  case hi => (try dsimp only); omega
end Mine
end

section
open PySem PySem.W PySem.Calls PyProof.Rows
namespace Mine
local macro_rules | `(tactic| k_all) => `(tactic| exact all_ne (by assumption) (by (try dsimp only); omega))
local macro_rules | `(tactic| walk_at "call builtin:len") => `(tactic| (k_here; (with_reducible show wpAny _ _ (call (Value.builtin "len") [Value.ref _]) _ _ _); k_dflt (refine' m_len ?k1 ?k2 ?k3 ?k4 ?_; (case k1 => k_asm); (case k2 => k_mem); (case k3 => assumption); (case k4 => decide); k_whole)))
local macro_rules | `(tactic| walk_at "call builtin:math.fsum") => `(tactic| (k_here; (with_reducible show wpAny _ _ (call (Value.builtin "math.fsum") [Value.ref _]) _ _ _); k_dflt (refine' m_fsum ?k0 ?k1 ?k2 ?k3 ?k4 ?k5 ?k6 ?_; (case k0 => exact rfl); (case k1 => k_asm); (case k2 => k_asm); (case k3 => k_mem); (case k4 => assumption); (case k5 => assumption); (case k6 => omega); k_whole); intro h' tk x' t' hx' F' N'))
local macro_rules | `(tactic| walk_at "binaryOp Div float int") => `(tactic| (k_here; (with_reducible show wpAny _ _ (binaryOp Operator.Div (Value.float _ _) (Value.int 16 _)) _ _ _); k_dflt (refine' m_div16 ?k1 ?k2 ?_; (case k1 => assumption); (case k2 => omega); k_whole); intro x' t' hx'))
local macro_rules | `(tactic| walk_at "binaryOp Sub int float") => `(tactic| (k_here; (with_reducible show wpAny _ _ (binaryOp Operator.Sub (Value.int _ _) (Value.float _ _)) _ _ _); k_dflt (refine' m_sub_if ?k1 ?k2 ?k3 ?_; (case k1 => assumption); (case k2 => first | assumption | omega); (case k3 => first | assumption | omega); k_whole); intro x' t' hx'))
theorem c_hb (w : World) (p : Program) (loose : List Str) (mean : ExcName → Option Value) (mg mb : Str → Option Value) (n : Int) (t : Tok) (news : List (Addr × Obj)) (hn : 0 ≤ n) (hn2 : n < 16) :
   Claim 1 w p loose mean mg mb 204 news [.int n t] (fun v more => more = news ∧ ∃ t, v = .int (Builtin.Int.intBits n - 1) t) := by
  unfold Claim
  k_fill
  w_on
  intros
  rename_i hret
  refine wpAny_call ?_
  k_dflt cell_enter
  k_steps
  exact hret _ _ _ _ (by assumption) (by assumption) ⟨rfl, _, rfl⟩
theorem c_sb (w : World) (p : Program) (loose : List Str) (mean : ExcName → Option Value) (mg mb : Str → Option Value) (n : Int) (t : Tok) (news : List (Addr × Obj)) (hn : 0 ≤ n) (hn2 : n < 16) :
   Claim 1 w p loose mean mg mb 197 news [.int n t] (fun v more => more = news ∧ v = .bool (sbit n)) := by
  unfold Claim
  k_fill
  w_on
  intros
  rename_i hret
  refine wpAny_call ?_
  k_dflt cell_enter
  k_steps
  · exact hret _ _ _ _ (by assumption) (by assumption) ⟨rfl, by unfold sbit; rw [if_pos (by assumption)]⟩
  · exact hret _ _ _ _ (by assumption) (by assumption) ⟨rfl, by unfold sbit; rw [if_neg (by assumption)]⟩
end Mine
end

section
open PySem PySem.W PySem.Calls PyProof.Rows
namespace Mine
local macro_rules | `(tactic| walk_at "none7") => `(tactic| fail)
local macro_rules | `(tactic| k_all) => `(tactic| first | assumption | exact all_ne (by assumption) (by (try dsimp only); omega))
local macro_rules | `(tactic| walk_at "call builtin:len") => `(tactic| (k_here; (with_reducible show wpAny _ _ (call (Value.builtin "len") [Value.ref _]) _ _ _); k_dflt (refine' m_len ?k1 ?k2 ?k3 ?k4 ?_; (case k1 => k_asm); (case k2 => k_mem); (case k3 => assumption); (case k4 => decide); k_whole)))
local macro_rules | `(tactic| walk_at "call builtin:math.fsum") => `(tactic| (k_here; (with_reducible show wpAny _ _ (call (Value.builtin "math.fsum") [Value.ref _]) _ _ _); k_dflt (refine' m_fsum ?k0 ?k1 ?k2 ?k3 ?k4 ?k5 ?k6 ?_; (case k0 => exact rfl); (case k1 => k_asm); (case k2 => k_asm); (case k3 => k_mem); (case k4 => assumption); (case k5 => assumption); (case k6 => omega); k_whole); intro h' tk x' t' hx' F' N'))
local macro_rules | `(tactic| walk_at "binaryOp Div float int") => `(tactic| (k_here; (with_reducible show wpAny _ _ (binaryOp Operator.Div (Value.float _ _) (Value.int 16 _)) _ _ _); k_dflt (refine' m_div16 ?k1 ?k2 ?_; (case k1 => assumption); (case k2 => omega); k_whole); intro x' t' hx'))
local macro_rules | `(tactic| walk_at "binaryOp Sub int float") => `(tactic| (k_here; (with_reducible show wpAny _ _ (binaryOp Operator.Sub (Value.int _ _) (Value.float _ _)) _ _ _); k_dflt (refine' m_sub_if ?k1 ?k2 ?k3 ?_; (case k1 => assumption); (case k2 => first | assumption | omega); (case k3 => first | assumption | omega); k_whole); intro x' t' hx'))
local macro_rules | `(tactic| walk_at "pyIter ref") => `(tactic| (k_here; refine Stop.mk ?_))
local macro_rules | `(tactic| walk_at "call ref") => `(tactic| (k_here; refine Stop.mk ?_))
def innerS (more : Nat) : Nat → List (Int × Int × Int)
  | 0 => []
  | j + 1 => innerS more j ++ if sbit (Builtin.bitXor (0 + more) (0 + j)) then [((Builtin.Int.intBits (Builtin.bitXor (0 + more) (0 + j)) : Int) - 1, (0 + j : Int), (0 + more : Int))] else []
def outerS : Nat → List (Int × Int × Int)
  | 0 => []
  | i + 1 => outerS i ++ innerS i i
theorem innerS_len (more : Nat) : ∀ j, (innerS more j).length ≤ j
  | 0 => Nat.le_refl _
  | j + 1 => by
    have := innerS_len more j
    rw [innerS, List.length_append]
    split <;> simp <;> omega
theorem outerS_len : ∀ i, i ≤ 16 → (outerS i).length ≤ 16 * i
  | 0, _ => Nat.le_refl _
  | i + 1, h => by
    have h1 := outerS_len i (by omega)
    have h2 := innerS_len i i
    rw [outerS, List.length_append]; omega
theorem xor_b : ∀ i : Fin 16, ∀ j : Fin 16, 0 ≤ Builtin.bitXor (0 + (i.1 : Int)) (0 + (j.1 : Int)) ∧ Builtin.bitXor (0 + (i.1 : Int)) (0 + (j.1 : Int)) < 16 := by decide +kernel
def SJ (D : Addr) (rest : List (Addr × Obj)) (ts : List (Int × Int × Int)) (nx : List (Addr × Obj)) : Prop :=
  ∃ vs tl, nx = (D, LCg.lst vs) :: (tl ++ rest) ∧ (∀ p ∈ tl ++ rest, p.1 ≠ D) ∧ TbOff rest tl ∧ Trips tl vs ts
theorem c_steps (w : World) (p : Program) (loose : List Str) (mean : ExcName → Option Value) (mg mb : Str → Option Value) (rest : List (Addr × Obj)) :
   Claim 2 w p loose mean mg mb 216 rest [] (fun v news' => ∃ d vs tl, v = .ref d ∧ news' = (d, LCg.lst vs) :: tl ++ rest ∧ Trips tl vs (outerS 16)) := by
  unfold Claim
  k_fill
  w_on
  intros
  rename_i hret
  refine wpAny_call ?_
  k_dflt cell_enter
  k_steps
  refine Stop.go ?_
  rename_i D0 _ l0 _ _ _ _ _ _ _ _ R0 F0 N0 _
  refine loop_R (n := 16) ["less"] (fun i nx => SJ D0 rest (outerS i) nx) rfl R0 (by decide) (by rfl) F0 N0 ⟨[], [], rfl, ?_, ?_, .nil⟩ ?_ ?_
  · exact fun p hp => Nat.ne_of_lt (l0 p hp)
  · intro p hp q hq; cases hq
  · intro i t u nx h1 tk1 own Q1 hi hoff hJ F1 N1 hnext hret1
    obtain ⟨vs, tl, rfl, hne, hof, hT⟩ := hJ
    k_steps
    refine Stop.go ?_
    rename_i R2 F2 N2 _
    have hoD : ∀ p ∈ own, p.1 ≠ D0 := fun p hp => hoff p hp _ (List.mem_cons_self ..)
    have N2' := cb_drop N2 (news := (D0, LCg.lst vs) :: (tl ++ (rest ++ own))) (fun p hp => by simpa [List.mem_append, or_assoc] using hp)
    refine loop_R (n := i) [] (fun j nx => SJ D0 (rest ++ own) (outerS i ++ innerS i j) nx) rfl R2 (small_one (by omega) (by omega) (by omega) (by omega)) (by rw [rangeSize_nat]; congr 1; omega) F2 N2' ⟨vs, tl, rfl, ?_, ?_, ?_⟩ ?_ ?_
    · intro p hp
      rcases List.mem_append.mp hp with hp | hp
      · exact hne p (List.mem_append.mpr (.inl hp))
      · rcases List.mem_append.mp hp with hp | hp
        · exact hne p (List.mem_append.mpr (.inr hp))
        · exact hoD p hp
    · intro p hp q hq
      rcases List.mem_append.mp hp with hp | hp
      · exact hof p hp q hq
      · exact hoff p hp q (List.mem_cons_of_mem _ (List.mem_append.mpr (.inl hq)))
    · simpa [innerS] using hT
    · intro j t2 u2 nx2 h2 tk2 own2 Q2 hj hoff2 hJ2 F3 N3 hnext2 hret2
      obtain ⟨vs2, tl2, rfl, hne2, hof2, hT2⟩ := hJ2
      obtain ⟨hx0, hx1⟩ := xor_b ⟨i, hi⟩ ⟨j, by omega⟩
      dsimp only at hx0 hx1
      have N3' : News _ _ _ ((D0, LCg.lst vs2) :: (tl2 ++ (rest ++ own) ++ own2)) := N3
      have hneT : ∀ p ∈ tl2 ++ (rest ++ own) ++ own2, p.1 ≠ D0 := fun p hp => by
        rcases List.mem_append.mp hp with hp | hp
        · exact hne2 p hp
        · exact hoff2 p hp _ (List.mem_cons_self ..)
      have hvl : vs2.toArray.size ≤ 300 := by
        have h1 := hT2.len
        have h2 := outerS_len i (by omega)
        have h3 := innerS_len i j
        rw [List.length_append] at h1
        rw [List.size_toArray]; omega
      clear N3
      k_steps
      refine Stop.go ?_
      refine c_sb w p loose mean mg mb _ _ _ hx0 hx1 _ _ _ _ _ _ _ _ _ _ _ _ _ _ _ _ _ (by assumption) (by assumption) (by assumption) (by assumption) (by assumption) rfl (by ktr_room) (by ktr_units) ?_
      rintro v3 h3 tk3 news3 F4 N4 ⟨rfl, rfl⟩
      clear F3 N3'
      k_steps
      · refine Stop.go ?_
        refine c_hb w p loose mean mg mb _ _ _ hx0 hx1 _ _ _ _ _ _ _ _ _ _ _ _ _ _ _ _ _ (by assumption) (by assumption) (by assumption) (by assumption) (by assumption) rfl (by ktr_room) (by ktr_units) ?_
        rintro v5 h5 tk5 news5 F6 N6 ⟨rfl, t5, rfl⟩
        clear F4 N4
        k_steps
        rename_i a5 _ l5 _ F5 N5
        obtain ⟨o5, ho5, N5⟩ := news_hd N5
        refine hnext2 _ ((D0, LCg.lst (vs2 ++ [.ref a5])) :: (((a5, o5) :: tl2) ++ (rest ++ own))) _ _ _ F5 N5 ?s1 ?s2 ?off ?fr ⟨vs2 ++ [.ref a5], (a5, o5) :: tl2, rfl, ?ne, ?of, ?T⟩
        case s1 =>
          intro p hp
          rw [← LCg.lst_snoc] at hp
          simp only [List.cons_append, List.mem_cons, List.mem_append] at hp ⊢
          rcases hp with hp | hp | hp | hp | hp
          · exact .inr (.inl hp)
          · exact .inl hp
          · exact .inr (.inr (.inl (.inl hp)))
          · exact .inr (.inr (.inl (.inr (.inl hp))))
          · exact .inr (.inr (.inl (.inr (.inr hp))))
        case s2 => exact fun p hp => List.mem_cons_of_mem _ (List.mem_cons_of_mem _ (List.mem_append.mpr (.inr hp)))
        case off =>
          intro p hp q hq
          rcases List.mem_cons.mp hq with rfl | hq
          · exact hoff2 p hp (D0, LCg.lst vs2) (List.mem_cons_self ..)
          · rw [List.cons_append] at hq
            rcases List.mem_cons.mp hq with rfl | hq
            · exact Nat.ne_of_lt (allLt_mem l5.2 p (List.mem_append.mpr (.inr hp)))
            · exact hoff2 p hp q (List.mem_cons_of_mem _ hq)
        case fr => intro z hz _; exact if_neg hz
        case ne =>
          intro p hp
          rw [List.cons_append] at hp
          rcases List.mem_cons.mp hp with rfl | hp
          · exact Nat.ne_of_gt l5.1
          · exact hne2 p hp
        case of =>
          intro p hp q hq
          rcases List.mem_cons.mp hq with rfl | hq
          · exact Nat.ne_of_lt (allLt_mem l5.2 p (List.mem_append.mpr (.inl (List.mem_append.mpr (.inr hp)))))
          · exact hof2 p hp q hq
        case T =>
          rw [innerS, if_pos (by assumption), ← List.append_assoc]
          exact (hT2.mono fun p hp => List.mem_cons_of_mem _ hp).snoc (by subst ho5; exact List.mem_cons_self ..)
      · refine hnext2 _ _ _ _ _ (by assumption) (by assumption) (fun p hp => ?_) ?_ hoff2 ?_ ⟨vs2, tl2, rfl, hne2, hof2, ?_⟩
        · rcases List.mem_cons.mp hp with rfl | hp
          · exact List.mem_cons_self ..
          · exact List.mem_cons_of_mem _ (List.mem_append.mpr (.inl hp))
        · exact fun p hp => List.mem_cons_of_mem _ (List.mem_append.mpr (.inr hp))
        · intro z hz _; exact if_neg hz
        · rw [innerS, if_neg (by rename_i q; rw [q]; decide), List.append_nil]; exact hT2
    · intro u3 nx3 h3 tk3 hJ3 F3 N3
      obtain ⟨vs3, tl3, rfl, hne3, hof3, hT3⟩ := hJ3
      k_steps
      refine hnext _ ((D0, LCg.lst vs3) :: (tl3 ++ rest)) _ _ _ (by assumption) (by assumption) (fun p hp => ?_) ?_ ?_ ?_ ⟨vs3, tl3, rfl, fun p hp => ?_, fun p hp q hq => hof3 p (List.mem_append.mpr (.inl hp)) q hq, by rw [outerS]; exact hT3⟩
      · rcases List.mem_cons.mp hp with rfl | hp
        · exact List.mem_cons_self ..
        · refine List.mem_cons_of_mem _ ?_
          rcases List.mem_append.mp hp with hp | hp
          · exact List.mem_append.mpr (.inl hp)
          · exact List.mem_append.mpr (.inr (List.mem_append.mpr (.inl hp)))
      · exact fun p hp => List.mem_cons_of_mem _ (List.mem_append.mpr (.inr (List.mem_append.mpr (.inr hp))))
      · intro p hp q hq
        rcases List.mem_cons.mp hq with rfl | hq
        · exact hoff p hp (D0, LCg.lst vs) (List.mem_cons_self ..)
        · rcases List.mem_append.mp hq with hq | hq
          · exact hof3 p (List.mem_append.mpr (.inr hp)) q hq
          · exact hoff p hp q (List.mem_cons_of_mem _ (List.mem_append.mpr (.inr hq)))
      · intro z hz hs
        simp at hs
        simp [hz, hs]
      · rcases List.mem_append.mp hp with hp | hp
        · exact hne3 p (List.mem_append.mpr (.inl hp))
        · exact hne p (List.mem_append.mpr (.inr hp))
  · intro u3 nx3 h3 tk3 hJ3 F3 N3
    obtain ⟨vs3, tl3, rfl, hne3, hof3, hT3⟩ := hJ3
    k_steps
    exact hret _ _ _ _ (by assumption) (by assumption) ⟨D0, vs3, tl3, rfl, rfl, hT3⟩
end Mine
end

section
open PySem PySem.W PySem.Calls PyProof.Rows
namespace Mine
local macro_rules | `(tactic| walk_at "none8") => `(tactic| fail)
local macro_rules | `(tactic| walk_at "none7") => `(tactic| fail)
local macro_rules | `(tactic| k_all) => `(tactic| first | assumption | exact all_ne (by assumption) (by (try dsimp only); omega))
local macro_rules | `(tactic| walk_at "call builtin:len") => `(tactic| (k_here; (with_reducible show wpAny _ _ (call (Value.builtin "len") [Value.ref _]) _ _ _); k_dflt (refine' m_len ?k1 ?k2 ?k3 ?k4 ?_; (case k1 => k_asm); (case k2 => k_mem); (case k3 => assumption); (case k4 => decide); k_whole)))
local macro_rules | `(tactic| walk_at "call builtin:math.fsum") => `(tactic| (k_here; (with_reducible show wpAny _ _ (call (Value.builtin "math.fsum") [Value.ref _]) _ _ _); k_dflt (refine' m_fsum ?k0 ?k1 ?k2 ?k3 ?k4 ?k5 ?k6 ?_; (case k0 => exact rfl); (case k1 => k_asm); (case k2 => k_asm); (case k3 => k_mem); (case k4 => assumption); (case k5 => assumption); (case k6 => omega); k_whole); intro h' tk x' t' hx' F' N'))
local macro_rules | `(tactic| walk_at "binaryOp Div float int") => `(tactic| (k_here; (with_reducible show wpAny _ _ (binaryOp Operator.Div (Value.float _ _) (Value.int 16 _)) _ _ _); k_dflt (refine' m_div16 ?k1 ?k2 ?_; (case k1 => assumption); (case k2 => omega); k_whole); intro x' t' hx'))
local macro_rules | `(tactic| walk_at "binaryOp Sub int float") => `(tactic| (k_here; (with_reducible show wpAny _ _ (binaryOp Operator.Sub (Value.int _ _) (Value.float _ _)) _ _ _); k_dflt (refine' m_sub_if ?k1 ?k2 ?k3 ?_; (case k1 => assumption); (case k2 => first | assumption | omega); (case k3 => first | assumption | omega); k_whole); intro x' t' hx'))
local macro_rules | `(tactic| walk_at "pyIter ref") => `(tactic| (k_here; (with_reducible show wpAny _ _ (pyIter (Value.ref _)) (fun it s₂ => LoopAtV _ _ _ _ _ _ _ _ _ it s₂) _ _); refine Stop.mk ?_))
local macro_rules | `(tactic| walk_at "CompEnd") => `(tactic| (k_here; k_dflt (refine LCg.CompEnd.intro (by assumption) (by assumption) _ (fun _ hp => hp) (by assumption) (by lcg_src) ?_)))
theorem ia6 {vs : List Value} {ns : List Int} (h : IntsAre vs ns) (hl : ns.length = 6) : ∃ a b c d e f t u v w x y, ns = [a, b, c, d, e, f] ∧ vs = [.int a t, .int b u, .int c v, .int d w, .int e x, .int f y] := by
  rcases h with _ | ⟨_, _, h⟩ <;> first | (simp at hl; done) | skip
  rcases h with _ | ⟨_, _, h⟩ <;> first | (simp at hl; done) | skip
  rcases h with _ | ⟨_, _, h⟩ <;> first | (simp at hl; done) | skip
  rcases h with _ | ⟨_, _, h⟩ <;> first | (simp at hl; done) | skip
  rcases h with _ | ⟨_, _, h⟩ <;> first | (simp at hl; done) | skip
  rcases h with _ | ⟨_, _, h⟩ <;> first | (simp at hl; done) | skip
  rcases h with _ | ⟨_, _, h⟩ <;> first | (simp at hl; done) | exact ⟨_, _, _, _, _, _, _, _, _, _, _, _, rfl, rfl⟩
theorem c_cells (w : World) (p : Program) (loose : List Str) (mean : ExcName → Option Value) (mg mb : Str → Option Value) (rest : List (Addr × Obj)) (ls : Addr) (vs : List Value) (ns : List Int) (hvs : IntsAre vs ns) (hns : ns.length ≤ 64)
   (dp un : Nat) (gd : Option (List Code)) (cn : Str) (cs : Scope) (a : Addr) (ccd : Value) (cl : List (Str × Addr)) (outer : List Env) (A₀ : Around) (base h₀ : Heap) (L : Addr) (m : Str → Option Value) (s : Shared) (Q E : Value → Shared → Prop)
   (B : Below A₀ base outer h₀) (F : Fr h₀ L s.heap m) : (fr.heap_1 w.params).In h₀ → News h₀ L s.heap rest → Top p loose mean mg mb h₀ → cs.kind = .function → base.IsList ls vs.toArray →
    dp + 20 * 1 < recursionLimit → un + 100 * 1 < cLine →
    (∀ d h' tk' cvs c0 c1 c2 c3 q b n, Fr h₀ L h' m → News h₀ L h' ((d, listOf cvs.toArray n) :: rest) → IntsAre cvs [c0, c1, c2, c3, q, b] → -8 ≤ c0 ∧ c0 ≤ 8 → -8 ≤ c1 ∧ c1 ≤ 8 → -8 ≤ c2 ∧ c2 ≤ 8 → -8 ≤ c3 ∧ c3 ≤ 8 → (∃ r, q = 2 * r - 31 ∧ 0 ≤ r ∧ r < 33) → 0 ≤ b ∧ b < 65536 → AllLt d rest → Q (.ref d) { s with heap := h', toks := tk' }) →
    wpAny (model Challenge.rw_re0039_01.row.prog w) (ktrTop dp un gd cn cs L a ccd cl outer) (call (.ref 209) [.ref ls]) Q E s := by
  k_fill
  w_on
  intros
  rename_i hret
  refine wpAny_call ?_
  k_dflt cell_enter
  k_steps
  refine Stop.go ?_
  rename_i D0 _ l0 _ _ _ _ _ _ _ _ R0 F0 N0 _
  refine loop_R (n := ns.length) [] (fun _ nx => ∃ cvs cs9, nx = (D0, listOf cvs.toArray 0) :: rest ∧ IntsAre cvs cs9 ∧ cs9.length = 6) rfl R0 (small_one (by omega) (by omega) (by omega) (by omega)) (by rw [rangeSize_nat]; congr 1) F0 N0 ⟨_, [11, 10, 10, 9, 20, 4104], rfl, .cons _ _ (.cons _ _ (.cons _ _ (.cons _ _ (.cons _ _ (.cons _ _ .nil))))), rfl⟩ ?_ ?_
  · intro i t u nx h1 tk1 own Q1 hi hoff hJ F1 N1 hnext hret1
    obtain ⟨cvs, cs9, rfl, hcv, hcl⟩ := hJ
    have N1' : News _ _ _ ((D0, listOf cvs.toArray 0) :: (rest ++ own)) := N1
    have hneT : ∀ p ∈ rest ++ own, p.1 ≠ D0 := fun p hp => by
      rcases List.mem_append.mp hp with hp | hp
      · exact Nat.ne_of_lt (l0 p hp)
      · exact hoff p hp _ (List.mem_cons_self ..)
    clear N1
    k_steps
    rename_i F5 N5 i5 l5 s5
    refine hnext _ ((D0, _) :: rest) _ _ _ F5 N5 (fun p hp => ?_) (fun p hp => List.mem_cons_of_mem _ (List.mem_append.mpr (.inr hp))) (fun p hp q hq => ?_) (fun z hz _ => if_neg hz) ⟨_, _, rfl, i5, l5.trans hcl⟩
    · rcases List.mem_cons.mp hp with rfl | hp
      · exact List.mem_cons_self ..
      · exact List.mem_cons_of_mem _ (List.mem_append.mpr (.inl hp))
    · rcases List.mem_cons.mp hq with rfl | hq
      · exact hoff p hp (D0, listOf cvs.toArray 0) (List.mem_cons_self ..)
      · exact hoff p hp q (List.mem_cons_of_mem _ hq)
  · intro u nx h1 tk1 hJ F1 N1
    obtain ⟨cvs, cs9, rfl, hcv, hcl⟩ := hJ
    obtain ⟨x0, x1, x2, x3, x4, x5, y0, y1, y2, y3, y4, y5, rfl, rfl⟩ := ia6 hcv hcl
    have l0' := allLt_of l0
    k_steps
    rename_i lz _ _ _ _
    obtain ⟨e1, e2, e3, e4, e5⟩ := lz
    have hmod : ∀ (x k : Int), 0 < k → 0 ≤ Int.fmod x k ∧ Int.fmod x k < k := fun x k hk => ⟨Int.fmod_nonneg_of_pos x hk, Int.fmod_lt_of_pos x hk⟩
    have m0 := hmod x0 17 (by decide)
    have m1 := hmod x1 17 (by decide)
    have m2 := hmod x2 17 (by decide)
    have m3 := hmod x3 17 (by decide)
    have m4 := hmod ([x0, x1, x2, x3, x4, x5].getD (Int.toNat 4) 0) 33 (by decide)
    have m5 := hmod ([x0, x1, x2, x3, x4, x5].getD (Int.toNat 5) 0) 65536 (by decide)
    (rename News h₀ L _ _ => kN9)
    obtain ⟨o9, ho9, kN9⟩ := news_hd kN9
    have hex : ∃ cvs n, o9 = listOf (List.toArray cvs) n ∧ IntsAre cvs [x0.fmod 17 - 8, x1.fmod 17 - 8, x2.fmod 17 - 8, x3.fmod 17 - 8, 2 * ([x0, x1, x2, x3, x4, x5].getD (Int.toNat 4) 0).fmod 33 - 31, ([x0, x1, x2, x3, x4, x5].getD (Int.toNat 5) 0).fmod 65536] := ⟨_, _, ho9, .cons _ _ (.cons _ _ (.cons _ _ (.cons _ _ (.cons _ _ (.cons _ _ .nil)))))⟩
    obtain ⟨cvs, n9, rfl, hi9⟩ := hex
    exact hret _ _ _ cvs _ _ _ _ _ _ n9 (by assumption) (cb_drop kN9 (List.forall_mem_cons.mpr ⟨List.mem_cons_self .., fun p hp => List.mem_cons_of_mem _ (List.mem_cons_of_mem _ (List.mem_cons_of_mem _ (List.mem_cons_of_mem _ (List.mem_cons_of_mem _ hp))))⟩)) hi9 (by omega) (by omega) (by omega) (by omega) ⟨_, rfl, by omega, by omega⟩ (by omega) e5
end Mine
end

section
open PySem PySem.W PySem.Calls PyProof.Rows
namespace Mine
local macro_rules | `(tactic| walk_at "execs cons") => `(tactic| (k_here; (fail_if_success (fail_if_success k_gentoks)); refine gen_toksE ?_; intro tk' etk'; (try dsimp only at etk')))
local macro_rules | `(tactic| walk_at "execs nil") => `(tactic| (k_here; (fail_if_success (fail_if_success k_gentoks)); refine gen_toksE ?_; intro tk' etk'; (try dsimp only at etk')))
local macro_rules | `(tactic| k_all) => `(tactic| first | assumption | exact all_ne (by assumption) (by (try dsimp only); omega))
local macro_rules | `(tactic| walk_at "call builtin:len") => `(tactic| (k_here; (with_reducible show wpAny _ _ (call (Value.builtin "len") [Value.ref _]) _ _ _); k_dflt (refine' m_len ?k1 ?k2 ?k3 ?k4 ?_; (case k1 => k_asm); (case k2 => k_mem); (case k3 => assumption); (case k4 => decide); k_whole)))
local macro_rules | `(tactic| walk_at "call builtin:math.fsum") => `(tactic| (k_here; (with_reducible show wpAny _ _ (call (Value.builtin "math.fsum") [Value.ref _]) _ _ _); k_dflt (refine' wpAny_with_toks (Nat.le_refl _) (m_fsum ?k0 ?k1 ?k2 ?k3 ?k4 ?k5 ?k6 ?_); (case k0 => exact rfl); (case k1 => k_asm); (case k2 => k_asm); (case k3 => k_mem); (case k4 => assumption); (case k5 => assumption); (case k6 => omega); k_whole); intro h' tk x' t' hx' F' N' hle'; (try dsimp only at hle')))
local macro_rules | `(tactic| walk_at "binaryOp Div float int") => `(tactic| (k_here; (with_reducible show wpAny _ _ (binaryOp Operator.Div (Value.float _ _) (Value.int 16 _)) _ _ _); k_dflt (refine' m_div16T ?k1 ?k2 ?_; (case k1 => assumption); (case k2 => omega); k_whole); intro x' t' et' hx'; (try dsimp only at et')))
local macro_rules | `(tactic| walk_at "binaryOp Sub int float") => `(tactic| (k_here; (with_reducible show wpAny _ _ (binaryOp Operator.Sub (Value.int _ _) (Value.float _ _)) _ _ _); k_dflt (refine' m_sub_if ?k1 ?k2 ?k3 ?_; (case k1 => assumption); (case k2 => first | assumption | omega); (case k3 => first | assumption | omega); k_whole); intro x' t' hx'))
local macro_rules | `(tactic| walk_at "exec For Name Call cons nil") => `(tactic| (k_here; refine Stop.mk ?_))
local macro_rules | `(tactic| walk_at "eval ListComp") => `(tactic| (k_here; refine Stop.mk ?_))
local macro_rules | `(tactic| walk_at "binaryOp Div int int") => `(tactic| (k_here; refine Stop.mk ?_))
local macro_rules | `(tactic| walk_at "call builtin:list.extend") => `(tactic| (k_here; refine Stop.mk ?_))
local macro_rules | `(tactic| walk_at "call builtin:sum") => `(tactic| (k_here; (with_reducible show wpAny _ _ (call (Value.builtin "sum") [Value.ref _]) _ _ _); k_dflt (refine' wpAny_with_toks (Nat.le_refl _) (sumK ?k0 ?k1 ?k2 ?k3 ?k4 ?_); (case k0 => exact rfl); (case k1 => k_asm); (case k2 => k_asm); (case k3 => exact News.isList (by assumption) (by k_mem)); (case k4 => assumption); k_whole); intro h' tk' t' F' N' hle'; (try dsimp only at hle')))
theorem m_div_iiT {prog : Program} {w : World} {A : Around} {E : Value → Shared → Prop} {s : Shared} {Q : Value → Shared → Prop} {k c : Int} {d : Int} {t u : Tok} (hd : 0 < d) (hc : k * 64 = c * d) (hk : c.natAbs < 2 ^ 40) (h : ∀ z (t' : Nat), @LE.le Nat _ s.toks t' → @LE.le Nat _ t' s.toks → Is z c → Q (.float z t') { s with toks := s.toks + 1 }) :
    wpAny (model prog w) A (binaryOp .Div (.int k t) (.int d u)) Q E s := by
  have hneg : (decide (k < 0) != decide (d < 0)) = decide (k < 0) := by
    rw [decide_eq_false (Int.not_lt.mpr (Int.le_of_lt hd))]; cases decide (k < 0) <;> rfl
  have hi : Is (Float64.ofFrac (decide (k < 0) != decide (d < 0)) k.natAbs d.natAbs) c := by
    rw [hneg]
    refine Is.frac (by omega) ?_ (fun hc0 => ?_) (by omega)
    · have := congrArg Int.natAbs hc
      rw [Int.natAbs_mul, Int.natAbs_mul] at this
      exact this
    · by_cases hk0 : k < 0
      · rw [decide_eq_true hk0, decide_eq_true]
        apply Int.lt_of_not_ge
        intro hge
        have : 0 ≤ c * d := Int.mul_nonneg hge (Int.le_of_lt hd)
        omega
      · rw [decide_eq_false hk0, decide_eq_false]
        intro hlt
        have : c * d < 0 := Int.mul_neg_of_neg_of_pos hlt hd
        omega
  exact AutoIntOps.truediv_2 (by simpa using Int.ne_of_gt hd) hi.notInf (h _ _ (Nat.le_refl _) (Nat.le_refl _) hi)
def riseL (ys : List Int) (ts : List (Int × Int × Int)) (i : Nat) : Int := ((ts.filter fun t => t.1 == (0 + i : Int)).map fun t => ys.getD t.2.2.toNat 0 - ys.getD t.2.1.toNat 0).sum
def startL (ys : List Int) (ts : List (Int × Int × Int)) (i : Nat) : Int := ((ts.filter fun t => t.1 == (0 + i : Int)).map fun t => ys.getD t.2.1.toNat 0).sum
def dueL (ys : List Int) (ts : List (Int × Int × Int)) : Nat → List Int
  | 0 => [4 * ys.sum]
  | i + 1 => dueL ys ts i ++ [2 * riseL ys ts i, 8 * startL ys ts i]
theorem dueL_len (ys : List Int) (ts : List (Int × Int × Int)) : ∀ i, (dueL ys ts i).length = 2 * i + 1
  | 0 => rfl
  | i + 1 => by rw [dueL, List.length_append, dueL_len]; simp; omega
theorem getD_01 {ys : List Int} (hy : ∀ n ∈ ys, n = 0 ∨ n = 1) (i : Nat) : ys.getD i 0 = 0 ∨ ys.getD i 0 = 1 := by
  rw [List.getD_eq_getElem?_getD]
  cases h : ys[i]? with
  | none => exact .inl rfl
  | some v => exact hy v (List.mem_of_getElem? h)
theorem rise_bound {ys : List Int} (hy : ∀ n ∈ ys, n = 0 ∨ n = 1) (ts : List (Int × Int × Int)) (hl : ts.length ≤ 1000) (i : Nat) : (riseL ys ts i).natAbs ≤ 1000 ∧ (startL ys ts i).natAbs ≤ 1000 := by
  have hf : (ts.filter fun t => t.1 == (0 + i : Int)).length ≤ 1000 := Nat.le_trans (List.length_filter_le _ _) hl
  constructor
  · have := sum_bound (B := 1) (cs := (ts.filter fun t => t.1 == (0 + i : Int)).map fun t => ys.getD t.2.2.toNat 0 - ys.getD t.2.1.toNat 0) (fun c hc => by
      obtain ⟨t, _, rfl⟩ := List.mem_map.mp hc
      have h1 := getD_01 hy t.2.2.toNat
      have h2 := getD_01 hy t.2.1.toNat
      omega)
    rw [List.length_map] at this
    exact Nat.le_trans this (by omega)
  · have := sum_bound (B := 1) (cs := (ts.filter fun t => t.1 == (0 + i : Int)).map fun t => ys.getD t.2.1.toNat 0) (fun c hc => by
      obtain ⟨t, _, rfl⟩ := List.mem_map.mp hc
      have h2 := getD_01 hy t.2.1.toNat
      omega)
    rw [List.length_map] at this
    exact Nat.le_trans this (by omega)
theorem c_due (w : World) (p : Program) (loose : List Str) (mean : ExcName → Option Value) (mg mb : Str → Option Value) (rest : List (Addr × Obj)) (ly lt : Addr) (vy vt : List Value) (ys : List Int) (ts : List (Int × Int × Int)) (ny nt : Nat)
   (hy : IntsAre vy ys) (hyl : ys.length = 16) (hy1 : ∀ n ∈ ys, n = 0 ∨ n = 1) (hT : Trips rest vt ts) (htl : ts.length ≤ 1000) (htb : ∀ t ∈ ts, 0 ≤ t.2.1 ∧ t.2.1 < 16 ∧ 0 ≤ t.2.2 ∧ t.2.2 < 16) :
   ClaimT 1 w p loose mean mg mb 226 ((ly, listOf vy.toArray ny) :: (lt, listOf vt.toArray nt) :: rest) [.ref ly, .ref lt] (fun lo hi v news' => ∃ d vs n, v = .ref d ∧ news' = (d, listOf vs.toArray n) :: (ly, listOf vy.toArray ny) :: (lt, listOf vt.toArray nt) :: rest ∧ Fls vs (dueL ys ts 4) ∧ TkIn lo hi vs) := by
  unfold ClaimT
  k_fill
  w_on
  intros
  rename_i s _ _ _ _ _ _ _ _ _ _ hret
  have hysB : ys.sum.natAbs ≤ 16 := by have := ints_sum hy1; omega
  refine wpAny_call ?_
  k_dflt (refine' code_defT ?k1 ?k2 ?k3 ?k4 ?k5 ?kA ?kF ?kK ?k6 ?k7 ?k8 ?k9 ?kB ?kD ?_ ?c2 ?c3 ?c4; (case kA => exact rfl); (case kF => exact rfl); (case kK => assumption); (case k1 => k_asm); (case k2 => k_asm); (case k3 => k_asm); (case k4 => k_asm); (case k5 => k_asm); (case k6 => k_is); (case k7 => k_is); (case k8 => ktr_room); (case k9 => first | exact BindsTo.of_eq rfl | (refine' kp_binds ?kx ?ke; (case kx => k_in); (case ke => exact fun _ => rfl)) | exact binds_K (by k_in) rfl (by k_is) rfl rfl rfl); (case kB => exact rfl); (case kD => decide +kernel); (case c2 => exact rfl); (case c3 => exact rfl); (case c4 => exact rfl); k_whole; intro g' L' h' tk' cells' hle' FG' F' N' Y' B' X' T' l1; (try k_lt l1); k_cells Y'; (try simp only [List.cons_append, List.nil_append] at N'); (try dsimp only); (try k_lift B'); (try k_fold))
  rename_i ov oc dv dc
  obtain ⟨l1a, l1b, hrest⟩ := l1
  k_steps
  refine Stop.go ?_
  refine m_div_iiT (c := 4 * ys.sum) (by decide) (by omega) (by omega) ?_
  intro z1 t1 etA etB hz1
  try dsimp only at etA etB
  k_steps
  rename_i D0 _ l0 _ F0 N0
  obtain ⟨l0a, l0b, l0c, l0d, l0e⟩ := l0
  refine Stop.go ?_
  refine for_GT g' ?_
  refine wpAny_with_toks (Nat.le_refl _) ?_
  k_steps
  (rename (@LE.le Nat _ _ (Shared.toks _)) => q0)
  dsimp only at q0
  refine ⟨_, 0, 4, _, _, _, 4, _, _, ["rise", "start"], (fun g => g = _), (fun i nx k => ∃ vs n ov1 v0, nx = (D0, listOf vs.toArray n) :: (L' + 1 + 1, ov1) :: (L' + 1, oc) :: (ly, listOf vy.toArray ny) :: (lt, listOf vt.toArray nt) :: rest ∧ ov1.data = .cell v0 ∧ Fls vs (dueL ys ts i) ∧ TkIn s.toks k vs ∧ @LE.le Nat _ s.toks k), t1 + 1, rfl, rfl, by assumption, by decide, rfl, by assumption, by assumption, rfl, ⟨[.float z1 t1], 0, ov, _, rfl, dv, .cons hz1 .nil, TkIn.one (by omega) (by omega), by omega⟩, by dsimp only; omega, ?_, ?_⟩
  · intro i t u nx I oI h1 g1 k1 tk1 Q1 hi hoI hJ hkk hG F1 N1 hnext hret1
    obtain ⟨vs, n, ov1, v0, rfl, hov, hvs, htk, hlk⟩ := hJ
    subst hG
    have hI1 : @Ne Nat D0 I := hoI _ (List.mem_cons_self ..)
    have hI2 : @Ne Nat (L' + 1 + 1) I := hoI _ (List.mem_cons_of_mem _ (List.mem_cons_self ..))
    have hrV : ∀ p ∈ rest, p.1 ≠ L' + 1 + 1 := all_ne hrest (by omega)
    have hrD : ∀ p ∈ rest, p.1 ≠ D0 := all_ne l0e (Nat.le_refl _)
    k_steps
    refine Stop.go ?_
    (rename News _ _ _ (_ :: _) => N2)
    (rename Fr _ _ _ _ => F2)
    refine wpAny_with_toks (Nat.le_refl _) ?_
    refine comp3 (ax := lt) (vs := vt) (ts := ts) (k := nt) (fun t => t.1 == (0 + i : Int)) (fun t => ys.getD t.2.2.toNat 0 - ys.getD t.2.1.toNat 0) F2 N2 (by k_mem) (hT.mono (fun p hp => List.mem_cons_of_mem _ (List.mem_cons_of_mem _ (List.mem_cons_of_mem _ (List.mem_cons_of_mem _ (List.mem_cons_of_mem _ (List.mem_cons_of_mem _ hp))))))) htl rfl ?iter ?turn ?turn2 ?fin (by with_unfolding_all rfl) (by decide) (by rfl) (by decide) (by decide) (by decide) (by decide) (by decide) (by decide) (by decide)
    case iter =>
      intro Q' hq
      k_steps
      exact hq
    case turn =>
      intro a b c ta tb tc I2 oI2 C2 oC2 D2 m2 ys2 h2 tk2 E2 Q2 hmem hoC hx2 hy2 hz2 F3 N3 hq
      k_steps
      exact hq _ _ (by assumption) (by assumption)
    case turn2 =>
      intro a b c ta tb tc I2 oI2 C2 oC2 D2 m2 ys2 h2 tk2 E2 Q2 hmem hoC hx2 hy2 hz2 F3 N3 hq
      obtain ⟨hb0, hb1, hc0, hc1⟩ := htb _ hmem
      dsimp only at hb0 hb1 hc0 hc1
      k_steps
      exact hq _ _ _ (by assumption) (by assumption)
    clear N2 F2
    intro D2 ys2 h2 tk2 hi2 F3 N3 l3 hleC
    try dsimp only at hleC
    obtain ⟨l3a, l3b, l3c, l3d, l3e, l3f, l3g⟩ := l3
    dsimp only at l3a l3b l3c l3d l3e l3f
    k_steps
    refine Stop.go ?_
    (rename News _ _ _ (_ :: _) => N2)
    (rename Fr _ _ _ _ => F2)
    refine wpAny_with_toks (Nat.le_refl _) ?_
    refine comp3 (ax := lt) (vs := vt) (ts := ts) (k := nt) (fun t => t.1 == (0 + i : Int)) (fun t => ys.getD t.2.1.toNat 0) F2 N2 (by k_mem) (hT.mono (fun p hp => List.mem_cons_of_mem _ (List.mem_cons_of_mem _ (List.mem_cons_of_mem _ (List.mem_cons_of_mem _ (List.mem_cons_of_mem _ (List.mem_cons_of_mem _ (List.mem_cons_of_mem _ hp)))))))) htl rfl ?iterB ?turnB ?turnB2 ?finB (by with_unfolding_all rfl) (by decide) (by rfl) (by decide) (by decide) (by decide) (by decide) (by decide) (by decide) (by decide)
    case iterB =>
      intro Q' hq
      k_steps
      exact hq
    case turnB =>
      intro a b c ta tb tc I2 oI2 C2 oC2 D2 m2 ys2 h2 tk2 E2 Q2 hmem hoC hx2 hy2 hz2 F3 N3 hq
      k_steps
      exact hq _ _ (by assumption) (by assumption)
    case turnB2 =>
      intro a b c ta tb tc I2 oI2 C2 oC2 D2 m2 ys2 h2 tk2 E2 Q2 hmem hoC hx2 hy2 hz2 F3 N3 hq
      obtain ⟨hb0, hb1, hc0, hc1⟩ := htb _ hmem
      dsimp only at hb0 hb1 hc0 hc1
      k_steps
      exact hq _ _ _ (by assumption) (by assumption)
    clear N2 F2
    intro D2 ys2 h2 tk2 hi2 F3 N3 l3 hleC
    try dsimp only at hleC
    obtain ⟨l4a, l4b, l4c, l4d, l4e, l4f, l4g, l4h⟩ := l3
    dsimp only at l4a l4b l4c l4d l4e l4f l4g
    obtain ⟨hrb, hsb⟩ := rise_bound hy1 ts htl i
    k_steps
    refine Stop.go ?_
    refine m_div_iiT (c := 2 * riseL ys ts i) (by decide) (by show riseL ys ts i * 64 = _; omega) (by omega) ?_
    intro z2 u2 etC etD hz2
    try dsimp only at etC etD
    k_steps
    refine Stop.go ?_
    refine m_div_iiT (c := 8 * startL ys ts i) (by decide) (by show startL ys ts i * 64 = _; omega) (by omega) ?_
    intro z3 u3 etE etF hz3
    try dsimp only at etE etF
    k_steps
    rename_i lb
    obtain ⟨lb1, lb2, lb3, lb4, lb5, lb6, lb7, lb8, lb9⟩ := lb
    refine Stop.go ?_
    (rename News _ _ _ (_ :: _) => N4)
    (rename Fr _ _ _ _ => F4)
    have hvl : vs.length ≤ 100 := by
      have h5 := hvs.len
      rw [dueL_len] at h5
      omega
    refine m_extend2 (vs := vs) F4 N4 (by k_mem) (by k_upd) hvl ?_
    intro h9 F9 N9
    k_steps
    refine hnext _ ((D0, listOf (vs ++ [Value.float z2 u2, Value.float z3 u3]).toArray (n + 1)) :: (L' + 1 + 1, _) :: (L' + 1, oc) :: (ly, listOf vy.toArray ny) :: (lt, listOf vt.toArray nt) :: rest) _ _ _ F9 (cb_drop N9 (fun p hp => List.mem_cons_of_mem _ (List.mem_cons_of_mem _ (List.mem_cons_of_mem _ hp)))) ?off rfl ?frm ⟨vs ++ [Value.float z2 u2, Value.float z3 u3], n + 1, _, _, rfl, by assumption, ?fls, ?tkk, ?lkk⟩
    case off => exact List.forall_mem_cons.mpr ⟨hI1, List.forall_mem_cons.mpr ⟨hI2, fun p hp => hoI p (List.mem_cons_of_mem _ (List.mem_cons_of_mem _ hp))⟩⟩
    case frm =>
      intro z hz
      simp at hz
      simp [hz]
    case fls =>
      rw [dueL]
      have := (hvs.snoc (t := u2) hz2).snoc (t := u3) hz3
      simpa using this
    case tkk => dsimp only; exact htk.two (by omega) (by omega) (by omega) (by omega) (by omega) (by omega)
    case lkk => dsimp only; omega
  · intro u nx h1 g1 k1 tk1 hJ hkk hG F1 N1
    obtain ⟨vs, n, ov1, v0, rfl, hov, hvs, htk, hlk⟩ := hJ
    subst hG
    k_steps
    exact hret _ _ _ _ (by assumption) (cb_drop (by assumption) (List.forall_mem_cons.mpr ⟨List.mem_cons_self .., fun p hp => List.mem_cons_of_mem _ (List.mem_cons_of_mem _ (List.mem_cons_of_mem _ hp))⟩)) ⟨D0, vs, n, rfl, rfl, hvs, htk.wide (by omega) (by omega)⟩
end Mine
end

section
open PySem PySem.W PySem.Calls PyProof.Rows
namespace Mine
local macro_rules | `(tactic| k_all) => `(tactic| first | assumption | exact all_ne (by assumption) (by (try dsimp only); omega))
local macro_rules | `(tactic| walk_at "call builtin:len") => `(tactic| (k_here; (with_reducible show wpAny _ _ (call (Value.builtin "len") [Value.ref _]) _ _ _); k_dflt (refine' m_len ?k1 ?k2 ?k3 ?k4 ?_; (case k1 => k_asm); (case k2 => k_mem); (case k3 => assumption); (case k4 => decide); k_whole)))
local macro_rules | `(tactic| walk_at "call builtin:math.fsum") => `(tactic| (k_here; (with_reducible show wpAny _ _ (call (Value.builtin "math.fsum") [Value.ref _]) _ _ _); k_dflt (refine' m_fsum ?k0 ?k1 ?k2 ?k3 ?k4 ?k5 ?k6 ?_; (case k0 => exact rfl); (case k1 => k_asm); (case k2 => k_asm); (case k3 => k_mem); (case k4 => assumption); (case k5 => assumption); (case k6 => omega); k_whole); intro h' tk x' t' hx' F' N'))
local macro_rules | `(tactic| walk_at "binaryOp Div float int") => `(tactic| (k_here; (with_reducible show wpAny _ _ (binaryOp Operator.Div (Value.float _ _) (Value.int 16 _)) _ _ _); k_dflt (refine' m_div16 ?k1 ?k2 ?_; (case k1 => assumption); (case k2 => omega); k_whole); intro x' t' hx'))
local macro_rules | `(tactic| walk_at "binaryOp Sub int float") => `(tactic| (k_here; (with_reducible show wpAny _ _ (binaryOp Operator.Sub (Value.int _ _) (Value.float _ _)) _ _ _); k_dflt (refine' m_sub_if ?k1 ?k2 ?k3 ?_; (case k1 => assumption); (case k2 => first | assumption | omega); (case k3 => first | assumption | omega); k_whole); intro x' t' hx'))
local macro_rules | `(tactic| walk_at "exec Assign cons ListComp") => `(tactic| (k_here; k_dflt (refine LCg.Assign_ListComp_U (F₀ := by k_asm) (by rfl) (by with_unfolding_all rfl) (by with_unfolding_all rfl) (by decide) (by rfl) (by decide) (by rfl) (by rfl) (by rfl) ?_)))
local macro_rules | `(tactic| walk_at "CompSrc") => `(tactic| (k_here; refine Stop.mk ?_))
local macro_rules | `(tactic| walk_at "binaryOp Mult int float") => `(tactic| (k_here; refine Stop.mk ?_))
local macro_rules | `(tactic| walk_at "binaryOp Add float float") => `(tactic| (k_here; refine Stop.mk ?_))
local macro_rules | `(tactic| walk_at "call builtin:sum") => `(tactic| (k_here; (with_reducible show wpAny _ _ (call (Value.builtin "sum") [Value.ref _]) _ _ _); refine Stop.mk ?_))
local macro_rules | `(tactic| walk_at "subscriptTail") => `(tactic| (k_here; (with_reducible show wpAny _ _ (subscriptTail _ _ (Value.ref _) (Value.int _ _)) _ _ _); k_dflt (refine' m_subF ?k1 ?k2 ?k3 ?k4 ?k5 ?k6 ?_ ?k7; (case k1 => k_asm); (case k2 => k_mem); (case k3 => with_reducible assumption); (case k4 => ksa_idx); (case k5 => ksa_idx); (case k6 => ksa_idx); (case k7 => with_unfolding_all rfl); k_whole); intro x' t' hx'))
theorem c_score (w : World) (p : Program) (loose : List Str) (mean : ExcName → Option Value) (mg mb : Str → Option Value) (rest : List (Addr × Obj)) (lc lt : Addr) (vc vt : List Value) (c0 c1 c2 c3 q b : Int) (ts : List Int) (nc nt : Nat)
   (hc : IntsAre vc [c0, c1, c2, c3, q, b]) (h0 : -8 ≤ c0 ∧ c0 ≤ 8) (h1 : -8 ≤ c1 ∧ c1 ≤ 8) (h2 : -8 ≤ c2 ∧ c2 ≤ 8) (h3 : -8 ≤ c3 ∧ c3 ≤ 8) (hq : -31 ≤ q ∧ q ≤ 33) (hT : Fls vt ts) (htl : ts.length = 9) (htb : ∀ i, (ts.getD i 0).natAbs ≤ 10000) :
   Claim 1 w p loose mean mg mb 231 ((lc, listOf vc.toArray nc) :: (lt, listOf vt.toArray nt) :: rest) [.ref lc, .ref lt] (fun v news' => ∃ x t, v = .float x t ∧ news' = (lc, listOf vc.toArray nc) :: (lt, listOf vt.toArray nt) :: rest ∧
     Is x (8 * (4 * c0 * ts.getD 1 0 + 4 * c1 * ts.getD 3 0 + 4 * c2 * ts.getD 5 0 + 4 * c3 * ts.getD 7 0 + 2 * (c0 + c1 + c2 + c3 - q) * ts.getD 0 0))) := by
  unfold Claim
  k_fill
  w_on
  intros
  rename_i hret
  obtain ⟨d0, d1, d2, d3, d4, d5, u0, u1, u2, u3, u4, u5, e1, rfl⟩ := ia6f hc rfl
  obtain ⟨rfl, rfl, rfl, rfl, rfl, rfl⟩ : c0 = d0 ∧ c1 = d1 ∧ c2 = d2 ∧ c3 = d3 ∧ q = d4 ∧ b = d5 := by simpa using e1
  refine wpAny_call ?_
  k_dflt (refine' code_defC ?k1 ?k2 ?k3 ?k4 ?k5 ?kA ?kF ?kK ?k6 ?k7 ?k8 ?k9 ?kB ?kD ?_ ?c2 ?c3 ?c4; (case kA => exact rfl); (case kF => exact rfl); (case kK => assumption); (case k1 => k_asm); (case k2 => k_asm); (case k3 => k_asm); (case k4 => k_asm); (case k5 => k_asm); (case k6 => k_is); (case k7 => k_is); (case k8 => ktr_room); (case k9 => first | exact BindsTo.of_eq rfl | (refine' kp_binds ?kx ?ke; (case kx => k_in); (case ke => exact fun _ => rfl)) | exact binds_K (by k_in) rfl (by k_is) rfl rfl rfl); (case kB => exact rfl); (case kD => decide +kernel); (case c2 => exact rfl); (case c3 => exact rfl); (case c4 => exact rfl); k_whole; intro g' L' h' tk' cells' FG' F' N' Y' B' X' T' l1; (try k_lt l1); k_cells Y'; (try simp only [List.cons_append, List.nil_append] at N'); (try dsimp only); (try k_lift B'); (try k_fold))
  rename_i ov oc dv dc
  obtain ⟨l1a, l1b, hrest⟩ := l1
  k_steps
  refine Stop.go ?_
  refine LCg.CompSrc.range (by rfl) (by k_asm) (by k_asm) (by assumption) (by decide) (n := 4) (by rfl) (by rw [sizeLine_eq]; omega) ?_
  intro g1
  refine rest_flK (ks := [0, 1, 2, 3]) (fun k => 4 * [c0, c1, c2, c3, q, b].getD k.toNat 0 * ts.getD (2 * k + 1).toNat 0) rfl (fun i v hi ⟨t, e⟩ => ⟨(i : Int), t, ?_, ?_⟩) trivial ?_ ?_
  · have : i = 0 ∨ i = 1 ∨ i = 2 ∨ i = 3 := by omega
    rcases this with rfl | rfl | rfl | rfl <;> rfl
  · rw [e]; congr 1; omega
  · intro k t I oI C oC D m₂ ys h1 tk1 E1 Q1 hk hoC hxk F1 N1 off1 ne1 hturn
    have hk4 : 0 ≤ k ∧ k < 4 := by simp at hk; omega
    have hcb : ([c0, c1, c2, c3, q, b].getD k.toNat 0).natAbs ≤ 8 := by
      have : k = 0 ∨ k = 1 ∨ k = 2 ∨ k = 3 := by omega
      rcases this with rfl | rfl | rfl | rfl
      · show c0.natAbs ≤ 8; omega
      · show c1.natAbs ≤ 8; omega
      · show c2.natAbs ≤ 8; omega
      · show c3.natAbs ≤ 8; omega
    have htk := htb (2 * k + 1).toNat
    k_steps
    refine Stop.go ?_
    refine m_mul_if (by assumption) (by omega) ?_ ?_
    · rw [Int.natAbs_mul]
      exact Nat.lt_of_le_of_lt (Nat.mul_le_mul (show _ ≤ 32 by omega) htk) (by decide)
    intro z9 u9 hz9
    exact hturn _ _ _ _ hz9 (by assumption) (by assumption)
  intro zs hzs
  have hsum : ((([0, 1, 2, 3] : List Int).map fun k => 4 * [c0, c1, c2, c3, q, b].getD k.toNat 0 * ts.getD (2 * k + 1).toNat 0).map Int.natAbs).sum < 2 ^ 47 := by
    have e : ∀ (c t : Int), c.natAbs ≤ 8 → t.natAbs ≤ 10000 → (4 * c * t).natAbs ≤ 320000 := fun c t hc ht => by
      rw [Int.natAbs_mul]
      exact Nat.le_trans (Nat.mul_le_mul (show _ ≤ 32 by omega) ht) (by decide)
    have e0 := e c0 (ts.getD 1 0) (by omega) (htb 1)
    have e1 := e c1 (ts.getD 3 0) (by omega) (htb 3)
    have e2 := e c2 (ts.getD 5 0) (by omega) (htb 5)
    have e3 := e c3 (ts.getD 7 0) (by omega) (htb 7)
    show (4 * c0 * ts.getD 1 0).natAbs + ((4 * c1 * ts.getD 3 0).natAbs + ((4 * c2 * ts.getD 5 0).natAbs + ((4 * c3 * ts.getD 7 0).natAbs + 0))) < 2 ^ 47
    omega
  k_steps
  refine Stop.go ?_
  (rename News _ _ _ (_ :: _) => N2)
  (rename Fr _ _ _ _ => F2)
  refine m_sumF (k := zs.length) rfl F2 N2 (show (_, LCg.lst zs) ∈ _ by k_mem) hzs (by simp) hsum ?_
  intro h3 tk3 x3 t3 hx3 F3 N3
  clear N2 F2
  k_steps
  refine Stop.go ?_
  (rename News _ _ _ (_ :: _) => N4)
  (rename Fr _ _ _ _ => F4)
  refine sumK (vs := [_, _, _, _]) (ns := [c0, c1, c2, c3]) rfl F4 N4 (News.isList N4 (by k_mem)) (.cons c0 _ (.cons c1 _ (.cons c2 _ (.cons c3 _ .nil)))) ?_
  intro h5 tk5 t5 F5 N5
  clear N4 F4
  have hs5 : [c0, c1, c2, c3].sum = c0 + c1 + c2 + c3 := by simp [List.sum_cons]; omega
  rw [hs5]
  k_steps
  refine Stop.go ?_
  have ht0 := htb 0
  have hW : (2 * (c0 + c1 + c2 + c3 - q)).natAbs ≤ 200 := by omega
  refine m_mul_if (k := 2 * (c0 + c1 + c2 + c3 - q)) (b := ts.getD 0 0) (by assumption) (by omega) ?_ ?_
  · rw [Int.natAbs_mul]
    exact Nat.lt_of_le_of_lt (Nat.mul_le_mul hW ht0) (by decide)
  intro z6 u6 hz6
  have hb6 : (2 * (c0 + c1 + c2 + c3 - q) * ts.getD 0 0).natAbs ≤ 2000000 := by
    rw [Int.natAbs_mul]
    exact Nat.le_trans (Nat.mul_le_mul hW ht0) (by decide)
  have e : ∀ (c t : Int), c.natAbs ≤ 8 → t.natAbs ≤ 10000 → (4 * c * t).natAbs ≤ 320000 := fun c t hc ht => by
    rw [Int.natAbs_mul]
    exact Nat.le_trans (Nat.mul_le_mul (show _ ≤ 32 by omega) ht) (by decide)
  have e0 := e c0 (ts.getD 1 0) (by omega) (htb 1)
  have e1 := e c1 (ts.getD 3 0) (by omega) (htb 3)
  have e2 := e c2 (ts.getD 5 0) (by omega) (htb 5)
  have e3 := e c3 (ts.getD 7 0) (by omega) (htb 7)
  have hS : (([0, 1, 2, 3] : List Int).map fun k => 4 * [c0, c1, c2, c3, q, b].getD k.toNat 0 * ts.getD (2 * k + 1).toNat 0).sum = 4 * c0 * ts.getD 1 0 + 4 * c1 * ts.getD 3 0 + 4 * c2 * ts.getD 5 0 + 4 * c3 * ts.getD 7 0 := by
    show 4 * c0 * ts.getD 1 0 + (4 * c1 * ts.getD 3 0 + (4 * c2 * ts.getD 5 0 + (4 * c3 * ts.getD 7 0 + 0))) = _
    omega
  rw [hS] at hx3
  k_steps
  refine Stop.go ?_
  refine m_add_ff hx3 hz6 (by omega) (by omega) ?_
  intro z7 u7 hz7
  k_steps
  refine Stop.go ?_
  refine m_mul_if hz7 (by decide) (by omega) ?_
  intro z8 u8 hz8
  k_steps
  exact hret _ _ _ _ (by assumption) (cb_drop (by assumption) (fun p hp => List.mem_cons_of_mem _ (List.mem_cons_of_mem _ (List.mem_cons_of_mem _ (List.mem_cons_of_mem _ hp))))) ⟨z8, u8, rfl, rfl, hz8⟩
end Mine
end

section
open PySem PySem.W PySem.Calls PyProof.Rows
namespace Mine
local macro_rules | `(tactic| walk_at "none12") => `(tactic| fail)
local macro_rules | `(tactic| walk_at "execs cons") => `(tactic| (k_here; (fail_if_success (fail_if_success k_gentoks)); refine gen_toksE ?_; intro tk' etk'; (try dsimp only at etk')))
local macro_rules | `(tactic| walk_at "execs nil") => `(tactic| (k_here; (fail_if_success (fail_if_success k_gentoks)); refine gen_toksE ?_; intro tk' etk'; (try dsimp only at etk')))
local macro_rules | `(tactic| k_all) => `(tactic| exact all_ne (by assumption) (by (try dsimp only); omega))
local macro_rules | `(tactic| walk_at "call builtin:len") => `(tactic| (k_here; (with_reducible show wpAny _ _ (call (Value.builtin "len") [Value.ref _]) _ _ _); k_dflt (refine' m_len ?k1 ?k2 ?k3 ?k4 ?_; (case k1 => k_asm); (case k2 => k_mem); (case k3 => assumption); (case k4 => decide); k_whole)))
local macro_rules | `(tactic| walk_at "call builtin:math.fsum") => `(tactic| (k_here; (with_reducible show wpAny _ _ (call (Value.builtin "math.fsum") [Value.ref _]) _ _ _); k_dflt (refine' wpAny_with_toks (Nat.le_refl _) (m_fsum ?k0 ?k1 ?k2 ?k3 ?k4 ?k5 ?k6 ?_); (case k0 => exact rfl); (case k1 => k_asm); (case k2 => k_asm); (case k3 => k_mem); (case k4 => assumption); (case k5 => assumption); (case k6 => omega); k_whole); intro h' tk x' t' hx' F' N' hle'; (try dsimp only at hle')))
local macro_rules | `(tactic| walk_at "binaryOp Div float int") => `(tactic| (k_here; (with_reducible show wpAny _ _ (binaryOp Operator.Div (Value.float _ _) (Value.int 16 _)) _ _ _); k_dflt (refine' m_div16T ?k1 ?k2 ?_; (case k1 => assumption); (case k2 => omega); k_whole); intro x' t' et' hx'; (try dsimp only at et')))
local macro_rules | `(tactic| walk_at "binaryOp Sub int float") => `(tactic| (k_here; (with_reducible show wpAny _ _ (binaryOp Operator.Sub (Value.int _ _) (Value.float _ _)) _ _ _); k_dflt (refine' m_sub_if ?k1 ?k2 ?k3 ?_; (case k1 => assumption); (case k2 => first | assumption | omega); (case k3 => first | assumption | omega); k_whole); intro x' t' hx'))
local macro_rules | `(tactic| walk_at "exec Assign cons ListComp") => `(tactic| (k_here; refine wpAny_with_toks (Nat.le_refl _) ?_; k_dflt (refine LCg.Assign_ListComp_U (F₀ := by k_asm) (by rfl) (by with_unfolding_all rfl) (by with_unfolding_all rfl) (by decide) (by rfl) (by decide) (by rfl) (by rfl) (by rfl) ?_)))
local macro_rules | `(tactic| walk_at "CompSrc") => `(tactic| (k_here; refine Stop.mk ?_))
local macro_rules | `(tactic| walk_at "binaryOp Div float float") => `(tactic| (k_here; refine Stop.mk ?_))
local macro_rules | `(tactic| walk_at "binaryOp Mult float float") => `(tactic| (k_here; refine Stop.mk ?_))
local macro_rules | `(tactic| walk_at "call builtin:math.sumprod") => `(tactic| (k_here; refine Stop.mk ?_))
theorem nfront5 {h₀ h : Heap} {L : Addr} {a b c d e f : Addr × Obj} {rest : List (Addr × Obj)} (N : News h₀ L h (a :: b :: c :: d :: e :: f :: rest)) : News h₀ L h (f :: a :: b :: c :: d :: e :: rest) := fun p hp => N p (by simp only [List.mem_cons] at hp ⊢; (rcases hp with h | h | h | h | h | h | h <;> simp [h]))
theorem nback {h₀ h : Heap} {L : Addr} {x t a b c d e : Addr × Obj} {rest : List (Addr × Obj)} (N : News h₀ L h (x :: t :: a :: b :: c :: d :: e :: rest)) : News h₀ L h (x :: d :: e :: t :: rest) := fun p hp => N p (by
  simp only [List.mem_cons] at hp ⊢; (rcases hp with h | h | h | h | h <;> simp [h]))
theorem lback {n : Nat} {t a b c d e : Addr × Obj} {rest : List (Addr × Obj)} (l : ∀ p ∈ t :: a :: b :: c :: d :: e :: rest, p.1 < n) : AllLt n (d :: e :: t :: rest) := allLt_of fun p hp => l p (by
  simp only [List.mem_cons] at hp ⊢; (rcases hp with h | h | h | h <;> simp [h]))
theorem news_same {h₀ h h' : Heap} {L : Addr} {news : List (Addr × Obj)} (N : News h₀ L h news) (hs : Heap.SameBut L h h') : News h₀ L h' news := fun p hp => ⟨hs.extBut _ _ (N p hp).2.1 (N p hp).1, (N p hp).2⟩
theorem c_lr (w : World) (p : Program) (loose : List Str) (mean : ExcName → Option Value) (mg mb : Str → Option Value) (lx ly : Addr) (vx vy : List Value) (xs ys : List Int) (nx ny : Nat) (ps : Array Value) (rest : List (Addr × Obj)) (hps : TabOk ⟨149, 12, 149, 35⟩ ps)
   (hnx : lx ≠ 187) (hny : ly ≠ 187) (hne : ∀ q ∈ rest, q.1 ≠ 187) (hx : IntsAre vx xs) (hy : IntsAre vy ys) (hxl : xs.length = 16) (hyl : ys.length = 16) (hx4 : ∀ n ∈ xs, n = 0 ∨ n = 4) (hy1 : ∀ n ∈ ys, n = 0 ∨ n = 1) (hxs : xs.sum = 32) :
   ClaimGT 1 w p loose mean mg mb 190 ((lx, listOf vx.toArray nx) :: (ly, listOf vy.toArray ny) :: (187, tabObj ps) :: rest) [.ref lx, .ref ly]
     (fun lo hi v news' => ∃ x d c' a b t1 t2, (@LE.le Nat _ lo t1 ∧ @LT.lt Nat _ t1 hi ∧ @LE.le Nat _ lo t2 ∧ @LT.lt Nat _ t2 hi) ∧ v = .ref x ∧ Is a (dot xs ys) ∧ Is b (4 * ys.sum - 2 * dot xs ys) ∧ AllLt x ((lx, listOf vx.toArray nx) :: (ly, listOf vy.toArray ny) :: (187, tabObj (tabOf ⟨149, 12, 149, 35⟩ c')) :: rest) ∧
       news' = (x, lrObj d [.float a t1, .float b t2]) :: (lx, listOf vx.toArray nx) :: (ly, listOf vy.toArray ny) :: (187, tabObj (tabOf ⟨149, 12, 149, 35⟩ c')) :: rest) := by
  unfold ClaimGT
  k_fill
  w_on
  intros
  rename_i hret
  have hvx : (vx.toArray.size : Int) = 16 := by rw [List.size_toArray, hx.length, hxl]; rfl
  have hvy : (vy.toArray.size : Int) = 16 := by rw [List.size_toArray, hy.length, hyl]; rfl
  have hxb : ∀ n ∈ xs, n.natAbs ≤ 2 ^ 20 := fun n hn => by rcases hx4 n hn with rfl | rfl <;> decide
  have hyb : ∀ n ∈ ys, n.natAbs ≤ 2 ^ 20 := fun n hn => by rcases hy1 n hn with rfl | rfl <;> decide
  have hysB : ys.sum.natAbs ≤ 16 := by have := ints_sum hy1; omega
  refine wpAny_call ?_
  k_dflt (refine' code_defT ?k1 ?k2 ?k3 ?k4 ?k5 ?kA ?kF ?kK ?k6 ?k7 ?k8 ?k9 ?kB ?kD ?_ ?c2 ?c3 ?c4; (case kA => exact rfl); (case kF => exact rfl); (case kK => assumption); (case k1 => k_asm); (case k2 => k_asm); (case k3 => k_asm); (case k4 => k_asm); (case k5 => k_asm); (case k6 => k_is); (case k7 => k_is); (case k8 => ktr_room); (case k9 => (refine' kp_binds ?kx ?ke; (case kx => k_in); (case ke => exact fun _ => rfl))); (case kB => exact rfl); (case kD => decide +kernel); (case c2 => exact rfl); (case c3 => exact rfl); (case c4 => exact rfl); k_whole; intro g' L' h' tk' cells' hle' FG' F' N' Y' B' X' T' l1; (try k_lt l1); k_cells Y'; (try simp only [List.cons_append, List.nil_append] at N'); (try dsimp only); (try k_lift B'); (try k_fold))
  obtain ⟨l1a, l1b, l1c, hrest⟩ := l1
  k_steps
  refine Stop.go ?_
  refine LCg.CompSrc.ledger (by rfl) (by k_asm) (by k_asm) (by k_mem) (by rw [sizeLine_eq]; omega) ?_
  intro g1
  refine rest_fl (fun k => 64 * k - 4 * xs.sum) hx (.inr ⟨_, by k_mem, rfl, _, rfl⟩) hxb ?_ ?_
  · intro k t I oI C oC D m₂ ys h1 tk1 E1 Q1 hkb hoC hxk F1 N1 off1 ne1 hturn
    k_steps
    exact hturn _ _ _ _ (by assumption) (by assumption) (by assumption)
  intro zs hzs
  k_steps
  (rename (fr.heap_1 w.params).In g' => X9)
  (rename Top p loose mean mg mb g' => T9)
  (rename News _ _ _ (_ :: _) => N9)
  (rename Fr _ _ _ _ => F9)
  (rename (_ ∧ _ ∧ _ ∧ _ ∧ _ ∧ _) => o9)
  obtain ⟨o9a, o9b, o9c, o9d, o9e, o9f⟩ := o9
  have N9 := nfront5 N9
  obtain ⟨bm, ob, M9⟩ := bmod_of_top T9
  refine wpAny_with_toks (Nat.le_refl _) ?_
  refine' gen_fl (S := 4 * ys.sum) (l := ly) (P := 187) (c := 189) F9 N9 ?off ?hm hy hyb ?hmc ?hoc ?hyb ?hS ?hlc T9.nolimit M9 ?C hps ?hG ?hmy ?hQ rfl ?room rfl rfl rfl rfl ?hyd rfl ?hclos ?hcell ?h0 ?hx ?hz rfl ?hxd ?hzd ?hzc ?hs
  (case hclos => with_unfolding_all rfl)
  (case hlc => rfl)
  (case hm => k_mem)
  (case hmc => k_mem)
  (case hoc => assumption)
  (case hyb => assumption)
  (case hS => omega)
  (case hG => assumption)
  (case hmy => rfl)
  (case hyd => decide)
  (case hcell => decide)
  (case h0 => decide)
  (case hx => decide)
  (case hz => decide)
  (case hxd => decide)
  (case hzd => decide)
  (case hzc => decide)
  (case off =>
    refine List.forall_mem_cons.mpr ⟨?_, List.forall_mem_cons.mpr ⟨?_, List.forall_mem_cons.mpr ⟨?_, List.forall_mem_cons.mpr ⟨hnx, List.forall_mem_cons.mpr ⟨hny, hne⟩⟩⟩⟩⟩
    · exact Ne.symm o9e
    · k_ne
    · k_ne)
  (case C => exact ⟨_, _, _, _, _, _, _, _, _, X9 _ _ (by k_is), rfl, rfl, rfl, rfl, rfl, rfl, rfl, rfl, by decide⟩)
  (case room => ktr_room)
  (case hs => intro x; rfl)
  intro ag s5 fp wr gg St cg F5 N5 G5 hos hdr W5 st5 hfp5 hwn5 hw05 hL5
  obtain ⟨h5, gs5, dr5, tk5, os5⟩ := s5
  dsimp only at F5 N5 G5 hos hdr hfp5
  subst hos hdr
  intro hleB
  dsimp only at hleB
  refine wpAny_storeName_local rfl F5.ns (fun h6 hn6 hs6 => ?_) rfl
  have F6 := F5.set hn6 hs6
  have N6 := news_same N5 hs6
  have st6 := W5.frame 0 _ h6 (tk5 + 1) st5 (Nat.le_succ _) (fun b hb o e => hs6.extBut b o (fun q => hL5 (by have q' : b = L' := q; rw [← q']; exact hb)) e)
  clear N9 F9 F5 N5
  dsimp only at st6 ⊢
  have hfp6 : ∀ b ∈ fp, b < h6.objs.size := fun b hb => by rw [hs6.1]; exact hfp5 b hb
  clear st5 hfp5
  k_steps
  refine Stop.go ?_
  have hpl := prods_len ys.sum (hxl.trans hyl.symm)
  have hpb := prods_bound (S := ys.sum) hx4 hy1 hysB
  refine wpAny_with_toks (Nat.le_refl _) ?_
  refine sp_gen (as := xs.map fun k => 64 * k - 4 * xs.sum) (bs := ys.map fun k => 64 * k - 4 * ys.sum) (cs := prods ys.sum xs ys) rfl F6 N6 G5 (by k_mem) hzs (by rw [hpl, hxl, ← hyl]; exact W5) st6 hfp6 hwn5 hw05 hL5 (by rw [hpl, List.length_map]) (by rw [hpl, hxl]; decide)
    (prods_at ys.sum hxs) (fun i _ => by have := sum_take_bound hpb i; rw [hpl, hxl] at this; omega) (fun b hb => by have := hpb b hb; omega) ?_
  intro h7 g7 tk7 x7 t7 hx7 F7 N7 G7 hleC
  dsimp only at hleC
  rw [prods_sum _ (hxl.trans hyl.symm), hxs, hxl] at hx7
  have e7 : 64 * dot xs ys - 4 * ys.sum * (32 - 2 * (16 : Nat)) = 64 * dot xs ys := by simp
  rw [e7] at hx7
  have hdb := dot_bound hx4 hy1 hxl
  clear N6 F6 st6 hfp6 hwn5 hw05 hL5
  k_steps
  refine Stop.go ?_
  have hcl : (xs.map fun _ => (256 : Int)).length = 16 := by rw [List.length_map, hxl]
  have hcb : ∀ b ∈ (xs.map fun _ => (256 : Int)), b.natAbs ≤ 256 := fun b hb => by
    obtain ⟨_, _, rfl⟩ := List.mem_map.mp hb
    decide
  refine wpAny_with_toks (Nat.le_refl _) ?_
  refine call_sp_list (xs := xs.map fun k => 64 * k - 4 * xs.sum) (zs := xs.map fun _ => (256 : Int)) rfl (by assumption) (by assumption) (News.isList (by assumption) (show (_, LCg.lst zs) ∈ _ by k_mem)) (fun i v hv => hzs.at i v hv) (by rw [hzs.len, List.length_map, List.length_map]) (by rw [hcl]; decide) (sq_at hxs hx4)
    (fun i _ => by have := sum_take_bound hcb i; rw [hcl] at this; omega) (fun b hb => by have := hcb b hb; omega) ?_
  intro h8 tk8 x8 t8 hx8 F8 N8 hleD
  dsimp only at hleD
  rw [const_sum, hxl] at hx8
  have hx7' := Is.add hx7 (Is.zero false) (by omega)
  rw [Int.add_zero] at hx7'
  have hz0 : Float64.zero false = 0 := by decide
  rw [hz0] at hx7'
  k_steps
  refine Stop.go ?_
  refine m_div_ffT (dot xs ys) hx7' hx8 (by decide) (by omega) (by omega) ?_
  intro x9 t9 et9 hx9
  dsimp only at et9
  k_steps
  refine Stop.go ?_
  refine m_mul_ff (2 * dot xs ys) hx9 (show Is _ (4 * xs.sum) by assumption) (by rw [hxs]; omega) (by omega) ?_
  intro x10 t10 hx10
  k_steps
  have hx11 := Is.sub (show Is _ (4 * ys.sum) by assumption) hx10 (by omega)
  refine nt_make (by assumption) X9 ?_
  refine codeAny_with_toks (Nat.le_refl _) ?_
  refine c_new w p loose mean mg mb _ _ _ _ _ _ _ _ _ _ _ _ _ _ _ _ _ _ _ _ _ (by assumption) (by assumption) X9 (by assumption) T9 rfl (by ktr_room) (by ktr_units) ?_
  intro x12 d12 h12 tk12 F12 N12 l12 hleE
  dsimp only at hleE
  refine ⟨x12, _, rfl, (N12 _ (List.mem_cons_self ..)).1, rfl, X9.keeps F12.keep, ?_⟩
  dsimp only
  k_steps
  refine hret _ h12 g7 tk12 _ (by assumption) (nback (by assumption)) G7 ⟨x12, d12, cg, _, _, _, _, ?tkb, rfl, hx9, hx11, lback l12, rfl⟩
  case tkb => omega
end Mine
end

section
open PySem PySem.W PySem.Calls PyProof.Rows
namespace Mine
local macro_rules | `(tactic| walk_at "none13") => `(tactic| fail)
local macro_rules | `(tactic| walk_at "none12") => `(tactic| fail)
local macro_rules | `(tactic| walk_at "execs cons") => `(tactic| (k_here; (fail_if_success (fail_if_success k_gentoks)); refine gen_toksE ?_; intro tk' etk'; (try dsimp only at etk')))
local macro_rules | `(tactic| walk_at "execs nil") => `(tactic| (k_here; (fail_if_success (fail_if_success k_gentoks)); refine gen_toksE ?_; intro tk' etk'; (try dsimp only at etk')))
local macro_rules | `(tactic| k_all) => `(tactic| first | assumption | exact all_ne (by assumption) (by (try dsimp only); omega))
local macro_rules | `(tactic| walk_at "call builtin:len") => `(tactic| (k_here; (with_reducible show wpAny _ _ (call (Value.builtin "len") [Value.ref _]) _ _ _); k_dflt (refine' m_len ?k1 ?k2 ?k3 ?k4 ?_; (case k1 => k_asm); (case k2 => k_mem); (case k3 => assumption); (case k4 => decide); k_whole)))
local macro_rules | `(tactic| walk_at "call builtin:math.fsum") => `(tactic| (k_here; (with_reducible show wpAny _ _ (call (Value.builtin "math.fsum") [Value.ref _]) _ _ _); k_dflt (refine' wpAny_with_toks (Nat.le_refl _) (m_fsum ?k0 ?k1 ?k2 ?k3 ?k4 ?k5 ?k6 ?_); (case k0 => exact rfl); (case k1 => k_asm); (case k2 => k_asm); (case k3 => k_mem); (case k4 => assumption); (case k5 => assumption); (case k6 => omega); k_whole); intro h' tk x' t' hx' F' N' hle'; (try dsimp only at hle')))
local macro_rules | `(tactic| walk_at "binaryOp Div float int") => `(tactic| (k_here; (with_reducible show wpAny _ _ (binaryOp Operator.Div (Value.float _ _) (Value.int 16 _)) _ _ _); k_dflt (refine' m_div16T ?k1 ?k2 ?_; (case k1 => assumption); (case k2 => omega); k_whole); intro x' t' et' hx'; (try dsimp only at et')))
local macro_rules | `(tactic| walk_at "binaryOp Sub int float") => `(tactic| (k_here; (with_reducible show wpAny _ _ (binaryOp Operator.Sub (Value.int _ _) (Value.float _ _)) _ _ _); k_dflt (refine' m_sub_if ?k1 ?k2 ?k3 ?_; (case k1 => assumption); (case k2 => first | assumption | omega); (case k3 => first | assumption | omega); k_whole); intro x' t' hx'))
local macro_rules | `(tactic| walk_at "exec For Name Call cons nil") => `(tactic| (k_here; refine Stop.mk ?_))
local macro_rules | `(tactic| walk_at "eval ListComp") => `(tactic| (k_here; refine Stop.mk ?_))
local macro_rules | `(tactic| walk_at "CompSrc") => `(tactic| (k_here; refine Stop.mk ?_))
local macro_rules | `(tactic| walk_at "call ref") => `(tactic| (k_here; refine Stop.mk ?_))
local macro_rules | `(tactic| walk_at "call builtin:list.extend") => `(tactic| (k_here; refine Stop.mk ?_))
def bitV (i : Nat) (k : Int) : Int := Builtin.bitAnd (k.fdiv (2 ^ (0 + (i : Int)).toNat)) 1
def xsV (i : Nat) : List Int := (rangeKs 0 16).map fun k => 4 * bitV i k
def toldL (ys : List Int) : Nat → List Int
  | 0 => [4 * ys.sum]
  | i + 1 => toldL ys i ++ [dot (xsV i) ys, 4 * ys.sum - 2 * dot (xsV i) ys]
theorem toldL_len (ys : List Int) : ∀ i, (toldL ys i).length = 2 * i + 1
  | 0 => rfl
  | i + 1 => by rw [toldL, List.length_append, toldL_len]; simp; omega
theorem perm7 {h₀ h : Heap} {L ad : Addr} {od : Obj} {a b c e f : Addr × Obj} {rest : List (Addr × Obj)} (N : News h₀ L h (a :: b :: c :: (ad, od) :: e :: f :: rest)) : ∃ o, o = od ∧ News h₀ L h (a :: e :: f :: b :: c :: (ad, o) :: rest) := ⟨od, rfl, fun p hp => N p (by
  simp only [List.mem_cons] at hp ⊢; (rcases hp with h | h | h | h | h | h | h <;> simp [h]))⟩
theorem permT {h₀ h : Heap} {L : Addr} {b x d e f i q o : Addr × Obj} {rest : List (Addr × Obj)} (N : News h₀ L h (b :: x :: d :: e :: f :: i :: q :: o :: rest)) : News h₀ L h (i :: q :: o :: e :: f :: rest) := fun p hp => N p (by
  simp only [List.mem_cons] at hp ⊢; (rcases hp with h | h | h | h | h | h <;> simp [h]))
theorem xsV_facts : ∀ i : Fin 4, (xsV i.1).length = 16 ∧ (∀ n ∈ xsV i.1, n = 0 ∨ n = 4) ∧ (xsV i.1).sum = 32 := by decide +kernel
theorem c_told (w : World) (p : Program) (loose : List Str) (mean : ExcName → Option Value) (mg mb : Str → Option Value) (rest : List (Addr × Obj)) (ly : Addr) (vy : List Value) (ys : List Int) (ny : Nat) (ps : Array Value) (hps : TabOk ⟨149, 12, 149, 35⟩ ps)
   (hy : IntsAre vy ys) (hyl : ys.length = 16) (hy1 : ∀ n ∈ ys, n = 0 ∨ n = 1) (hny : ly ≠ 187) (hne : ∀ q ∈ rest, q.1 ≠ 187) :
   ClaimGT 2 w p loose mean mg mb 221 ((ly, listOf vy.toArray ny) :: (187, tabObj ps) :: rest) [.ref ly] (fun lo hi v news' => ∃ d vs n ps', v = .ref d ∧ TabOk ⟨149, 12, 149, 35⟩ ps' ∧ news' = (d, listOf vs.toArray n) :: (ly, listOf vy.toArray ny) :: (187, tabObj ps') :: rest ∧ Fls vs (toldL ys 4) ∧ TkIn (lo + 1) hi vs ∧ AllLt d ((ly, listOf vy.toArray ny) :: (187, tabObj ps') :: rest)) := by
  unfold ClaimGT
  k_fill
  w_on
  intros
  rename_i s _ _ _ _ _ _ _ _ _ _ _ hret
  refine wpAny_call ?_
  k_dflt (refine' code_defT ?k1 ?k2 ?k3 ?k4 ?k5 ?kA ?kF ?kK ?k6 ?k7 ?k8 ?k9 ?kB ?kD ?_ ?c2 ?c3 ?c4; (case kA => exact rfl); (case kF => exact rfl); (case kK => assumption); (case k1 => k_asm); (case k2 => k_asm); (case k3 => k_asm); (case k4 => k_asm); (case k5 => k_asm); (case k6 => k_is); (case k7 => k_is); (case k8 => ktr_room); (case k9 => first | exact BindsTo.of_eq rfl | (refine' kp_binds ?kx ?ke; (case kx => k_in); (case ke => exact fun _ => rfl)) | exact binds_K (by k_in) rfl (by k_is) rfl rfl rfl); (case kB => exact rfl); (case kD => decide +kernel); (case c2 => exact rfl); (case c3 => exact rfl); (case c4 => exact rfl); k_whole; intro g' L' h' tk' cells' hle' FG' F' N' Y' B' X' T' l1; (try k_lt l1); k_cells Y'; (try simp only [List.cons_append, List.nil_append] at N'); (try dsimp only); (try k_lift B'); (try k_fold))
  rename_i ov dv
  obtain ⟨l1a, l1b, hrest⟩ := l1
  have N2 : News _ _ _ ((ly, listOf vy.toArray ny) :: (L' + 1, ov) :: (187, tabObj ps) :: rest) := cb_drop N' (fun p hp => by simp only [List.mem_cons] at hp ⊢; rcases hp with h | h | h | h <;> simp [h])
  clear N'
  k_steps
  refine Stop.go ?_
  refine c_fmean w p loose mean mg mb ly vy ys ny _ hy hyl hy1 _ _ _ _ _ _ _ _ _ _ _ _ _ _ _ _ _ (by assumption) (by assumption) (by assumption) (by assumption) (by assumption) rfl (by ktr_room) (by ktr_units) ?_
  rintro v3 h3 tk3 news3 F3 N3 ⟨x3, t3, rfl, hx3, htA, htB, rfl⟩
  dsimp only at htA htB
  clear N2 F'
  k_steps
  rename_i D0 _ l0 _ F0 N0 tkF etkF
  obtain ⟨l0a, l0b, l0c, l0d⟩ := l0
  refine Stop.go ?_
  refine for_GT g' ?_
  refine wpAny_with_toks (Nat.le_refl _) ?_
  k_steps
  (rename (@LE.le Nat _ _ (Shared.toks _)) => q0)
  dsimp only at q0
  have N0' : News _ _ _ ((D0, listOf [Value.float x3 t3].toArray 0) :: (L' + 1, ov) :: (ly, listOf vy.toArray ny) :: (187, tabObj ps) :: rest) := cb_drop (by assumption) (fun p hp => by simp only [List.mem_cons] at hp ⊢; rcases hp with h | h | h | h | h <;> simp [h])
  refine ⟨_, 0, 4, _, _, _, 4, _, _, ["slope", "start"], AllBare, (fun i nx k => ∃ vs n ov1 v0 ps1, nx = (D0, listOf vs.toArray n) :: (L' + 1, ov1) :: (ly, listOf vy.toArray ny) :: (187, tabObj ps1) :: rest ∧ ov1.data = .cell v0 ∧ TabOk ⟨149, 12, 149, 35⟩ ps1 ∧ Fls vs (toldL ys i) ∧ TkIn (s.toks + 1) k vs ∧ @LE.le Nat _ (s.toks + 1) k), tk3, rfl, rfl, by assumption, by decide, rfl, by assumption, N0', by assumption, ⟨[.float x3 t3], 0, ov, _, ps, rfl, dv, hps, .cons hx3 .nil, TkIn.one (by omega) (by omega), by omega⟩, by dsimp only; omega, ?_, ?_⟩
  · intro i t u nx I oI h1 g1 k1 tk1 Q1 hi hoI hJ hkk hG F1 N1 hnext hret1
    obtain ⟨vs, n, ov1, v0, ps1, rfl, hov, hps1, hvs, htk, hlk⟩ := hJ
    have hI1 : @Ne Nat D0 I := hoI _ (List.mem_cons_self ..)
    have hI2 : @Ne Nat (L' + 1) I := hoI _ (List.mem_cons_of_mem _ (List.mem_cons_self ..))
    have hrV : ∀ p ∈ rest, p.1 ≠ L' + 1 := all_ne hrest (by omega)
    have hrD : ∀ p ∈ rest, p.1 ≠ D0 := all_ne l0d (Nat.le_refl _)
    k_steps
    refine Stop.go ?_
    refine wpAny_with_toks (Nat.le_refl _) ?_
    refine LCg.ListComp_U (F₀ := by k_asm) (by with_unfolding_all rfl) (by decide) (by rfl) (by decide) (by rfl) ?_
    k_steps
    refine Stop.go ?_
    refine LCg.CompSrc.range (by rfl) (by k_asm) (by k_asm) (by assumption) (by decide) (n := 16) (by rfl) (by rw [sizeLine_eq]; omega) ?_
    intro gg
    refine rest_inK (ks := rangeKs 0 16) (fun k => 4 * bitV i k) (rangeKs_length _ _) (fun i v hi ⟨t, e⟩ => ⟨0 + (i : Int), t, by simp [rangeKs, hi], e⟩) trivial ?_ ?_
    · intro k t I oI C oC D m₂ ys h1 tk1 E1 Q1 hk hoC hxk F1 N1 off1 ne1 hturn
      have hk4 := mem_rangeKs hk
      k_steps
      exact hturn _ _ _ (by assumption) (by assumption)
    intro xs2 hxs2
    k_steps
    rename_i D2 _ _ F2 N2 o2 hleG
    try dsimp only at hleG
    obtain ⟨o2a, o2b, o2c, o2d, o2e, o2f⟩ := o2
    obtain ⟨hx1, hx2, hx3'⟩ := xsV_facts ⟨i, hi⟩
    dsimp only at hx1 hx2 hx3'
    have hI3 : @Ne Nat 187 I := hoI (187, _) (List.mem_cons_of_mem _ (List.mem_cons_of_mem _ (List.mem_cons_of_mem _ (List.mem_cons_self ..))))
    obtain ⟨o9, ho9, N3'⟩ := perm7 N2
    subst ho9
    have hne9 : ∀ q ∈ (I, oI) :: (D0, listOf vs.toArray n) :: (L' + 1, o9) :: rest, q.1 ≠ 187 := List.forall_mem_cons.mpr ⟨Ne.symm hI3, List.forall_mem_cons.mpr ⟨neN (by dsimp only; omega), List.forall_mem_cons.mpr ⟨neN (by dsimp only; omega), hne⟩⟩⟩
    clear N2
    refine Stop.go ?_
    refine c_lr w p loose mean mg mb D2 ly xs2 vy (xsV i) ys xs2.length ny ps1 _ hps1 (Ne.symm o2e) hny hne9 hxs2 (by assumption) hx1 hyl hx2 hy1 hx3' _ _ _ _ _ _ _ _ _ _ _ _ _ _ _ _ _ (by assumption) (by assumption) (by assumption) (by assumption) (by assumption) rfl (by assumption) (by ktr_room) (by ktr_units) ?_
    rintro v6 h6 g6 tk6 news6 F6 N6 G6 ⟨x6, d6, c6, a6, b6, t6, u6, ⟨hq1, hq2, hq3, hq4⟩, rfl, ha6, hb6, l6, rfl⟩
    clear F2 N3'
    dsimp only at hq1 hq2 hq3 hq4
    obtain ⟨l6a, l6b, l6c, l6d, l6e, l6f, l6g⟩ := l6
    dsimp only at l6a l6b l6c l6d l6e l6f
    k_steps
    refine nt_unpack (h₀ := g') (L := L') rfl F6 X' N6 (List.mem_cons_self ..) rfl rfl ?_
    intro h7 F7 N7
    clear F6 N6
    refine assignInOrder_cons (wpAny_assign_Name ?_)
    k_steps
    rename_i lb
    obtain ⟨lb1, lb2, lb3, lb4, lb5, lb6, lb7, lb8⟩ := lb
    refine Stop.go ?_
    (rename News _ _ _ (_ :: _) => N4)
    (rename Fr _ _ _ _ => F4)
    have hvl : vs.length ≤ 100 := by
      have h5 := hvs.len
      rw [toldL_len] at h5
      omega
    refine m_extend2 (vs := vs) F4 N4 (by k_mem) (by k_upd) hvl ?_
    intro h9 F9 N9
    k_steps
    have N10 := permT N9
    refine hnext _ ((D0, listOf (vs ++ [Value.float a6 t6, Value.float b6 u6]).toArray (n + 1)) :: (L' + 1, o9) :: (ly, listOf vy.toArray ny) :: (187, tabObj (tabOf ⟨149, 12, 149, 35⟩ c6)) :: rest) _ _ _ F9 N10 ?off G6 ?frm ⟨vs ++ [Value.float a6 t6, Value.float b6 u6], n + 1, o9, _, tabOf ⟨149, 12, 149, 35⟩ c6, rfl, by assumption, .inr ⟨c6, rfl⟩, ?fls, ?tkk, ?lkk⟩
    case off =>
      refine List.forall_mem_cons.mpr ⟨hI1, List.forall_mem_cons.mpr ⟨hI2, List.forall_mem_cons.mpr ⟨?_, List.forall_mem_cons.mpr ⟨hI3, fun p hp => ?_⟩⟩⟩⟩
      · exact hoI (ly, _) (List.mem_cons_of_mem _ (List.mem_cons_of_mem _ (List.mem_cons_self ..)))
      · exact hoI p (List.mem_cons_of_mem _ (List.mem_cons_of_mem _ (List.mem_cons_of_mem _ (List.mem_cons_of_mem _ hp))))
    case frm =>
      intro z hz
      simp at hz
      simp [hz]
    case fls =>
      rw [toldL]
      have := (hvs.snoc (t := t6) ha6).snoc (t := u6) hb6
      simpa using this
    case tkk => dsimp only; exact htk.two (by omega) (by omega) (by omega) (by omega) (by omega) (by omega)
    case lkk => dsimp only; omega
  · intro u nx h1 g1 k1 tk1 hJ hkk hG F1 N1
    obtain ⟨vs, n, ov1, v0, ps1, rfl, hov, hps1, hvs, htk, hlk⟩ := hJ
    k_steps
    exact hret _ _ _ _ _ (by assumption) (cb_drop (by assumption) (List.forall_mem_cons.mpr ⟨List.mem_cons_self .., fun p hp => List.mem_cons_of_mem _ (List.mem_cons_of_mem _ hp)⟩)) hG ⟨D0, vs, n, ps1, rfl, hps1, rfl, hvs, htk.wide (by omega) (by omega), l0a, l0c, l0d⟩
end Mine
end

section
namespace Mine
open PySem PySem.Float64 PySem.W PySem.Calls PyProof.Rows
def AllNq (I : Nat) : List (Addr × Obj) → Prop
  | [] => True
  | p :: r => @Ne Nat p.1 I ∧ AllNq I r
theorem allNq {I : Nat} : ∀ {l : List (Addr × Obj)}, (∀ p ∈ l, p.1 ≠ I) → AllNq I l
  | [], _ => trivial
  | _ :: _, h => ⟨h _ (List.mem_cons_self ..), allNq fun q hq => h q (List.mem_cons_of_mem _ hq)⟩
theorem ofNq {I : Nat} : ∀ {l : List (Addr × Obj)}, AllNq I l → ∀ p ∈ l, p.1 ≠ I
  | [], _ => fun _ hp => by cases hp
  | _ :: _, h => List.forall_mem_cons.mpr ⟨h.1, ofNq h.2⟩
theorem ia_snocK {f : Int → Int} {xs : List Value} {i : Nat} {t : Tok} (h : IntsAre xs ((rangeKs 0 i).map f)) : IntsAre (xs ++ [.int (f (0 + i)) t]) ((rangeKs 0 (i + 1)).map f) := by
  have e : rangeKs 0 (i + 1) = rangeKs 0 i ++ [(0 + i : Int)] := by simp [rangeKs, List.range_succ]
  rw [e, List.map_append]
  exact IntsAre.append h (.cons _ _ .nil)
theorem and1 (x : Int) : Builtin.bitAnd x 1 = 0 ∨ Builtin.bitAnd x 1 = 1 := by
  unfold Builtin.bitAnd
  have h1 : decide ((0 : Int) ≤ 1) = true := rfl
  rw [h1]
  cases decide (0 ≤ x) with
  | true =>
    have := Nat.and_one_is_mod x.toNat
    show ((x.toNat &&& (1 : Int).toNat : Nat) : Int) = 0 ∨ ((x.toNat &&& (1 : Int).toNat : Nat) : Int) = 1
    have e : (1 : Int).toNat = 1 := rfl
    rw [e, this]; omega
  | false =>
    have := Nat.one_and_eq_mod_two (Builtin.bitNot x).toNat
    show (1 : Int) - (((1 : Int).toNat &&& (Builtin.bitNot x).toNat : Nat) : Int) = 0 ∨ (1 : Int) - (((1 : Int).toNat &&& (Builtin.bitNot x).toNat : Nat) : Int) = 1
    have e : (1 : Int).toNat = 1 := rfl
    rw [e, this]; omega
theorem xor01 {x y : Int} (hx : x = 0 ∨ x = 1) (hy : y = 0 ∨ y = 1) : Builtin.bitXor x y = 0 ∨ Builtin.bitXor x y = 1 := by
  rcases hx with rfl | rfl <;> rcases hy with rfl | rfl <;> decide
section
variable {prog : Program} {w : World} {A : Around} {h₀ : Heap} {L : Addr} {m : Str → Option Value} {env : Env} {ct elt : PySem.Expr} {x : Str} {scope : Scope} {cl : List (Str × Addr)} {s : Shared} {S : List (Addr × Obj) → Prop} {Fin : List Value → List (Addr × Obj) → Prop} {news : List (Addr × Obj)} {P : Nat → Value → Prop}
/-- a comprehension over written ints with one test, the elements ints -/
theorem rest_inKT {n : Nat} {ks : List Int} (p : Int → Bool) (g : Int → Int) (hlen : ks.length = n) (hP : ∀ (i : Nat) v, i < n → P i v → ∃ k t, ks[i]? = some k ∧ v = .int k t) (hS : S news)
    (turn : ∀ k t I oI C oC D m₂ ys h tk (E' : Value → Shared → Prop) (Q' : Bool → Shared → Prop), k ∈ ks → LCg.NsObj oC m₂ → m₂ x = some (.int k t) → Fr h₀ L h m → News h₀ L h ((I, oI) :: (C, oC) :: (D, LCg.lst ys) :: news) → LCg.Off3 I C D news → ((@Ne Nat I C) ∧ (@Ne Nat I D) ∧ (@Ne Nat C D)) →
      (∀ h' tk', Fr h₀ L h' m → News h₀ L h' ((I, oI) :: (C, oC) :: (D, LCg.lst ys) :: news) → Q' (p k) { s with heap := h', toks := tk' }) →
      wpAny (model prog w) A (isTrue ct (compEnvC scope cl C env) (eval ct (compEnvC scope cl C env))) Q' E' { s with heap := h, toks := tk })
    (turn2 : ∀ k t I oI C oC D m₂ ys h tk (E' Q' : Value → Shared → Prop), k ∈ ks → LCg.NsObj oC m₂ → m₂ x = some (.int k t) → Fr h₀ L h m → News h₀ L h ((I, oI) :: (C, oC) :: (D, LCg.lst ys) :: news) → LCg.Off3 I C D news → ((@Ne Nat I C) ∧ (@Ne Nat I D) ∧ (@Ne Nat C D)) →
      (∀ u h' tk', Fr h₀ L h' m → News h₀ L h' ((I, oI) :: (C, oC) :: (D, LCg.lst ys) :: news) → Q' (.int (g k) u) { s with heap := h', toks := tk' }) →
      wpAny (model prog w) A (eval elt (compEnvC scope cl C env)) Q' E' { s with heap := h, toks := tk })
    (fin : ∀ ys, IntsAre ys ((ks.filter p).map g) → Fin ys news) : LCt.CompRestT prog w A h₀ L m env ct elt x scope cl s S P Fin n 0 [] news := by
  have key : ∀ (j i : Nat) (ys : List Value), i + j = n → IntsAre ys (((ks.take i).filter p).map g) → LCt.CompRestT prog w A h₀ L m env ct elt x scope cl s S P Fin j i ys news := by
    intro j
    induction j with
    | zero =>
      intro i ys hi' hy
      have e : i = ks.length := by omega
      subst e
      rw [List.take_length] at hy
      exact LCt.CompRestT.zero (fin ys hy)
    | succ j ih =>
      intro i ys hi' hy
      refine LCt.CompRestT.succ ?_
      intro v I oI C oC D m₂ h tk E' hv hC hx F N off ne
      obtain ⟨k, t, hk, hv'⟩ := hP i v (by omega) hv
      rw [hv'] at hx
      have step : ((ks.take (i + 1)).filter p).map g = ((ks.take i).filter p).map g ++ (if p k then [g k] else []) := by
        rw [List.take_add_one, hk, List.filter_append, List.map_append]
        congr 1
        cases hp : p k <;> simp [hp]
      refine turn k t I oI C oC D m₂ ys h tk E' _ (List.mem_of_getElem? hk) hC hx F N off ne fun h' tk' F' N' => ?_
      cases hp : p k with
      | true =>
        rw [hp] at step
        simp only [if_true] at step ⊢
        refine turn2 k t I oI C oC D m₂ ys h' tk' E' _ (List.mem_of_getElem? hk) hC hx F' N' off ne fun u h₂ tk₂ F₂ N₂ => ⟨h₂, tk₂, news, rfl, F₂, N₂, off, hS, ?_⟩
        refine ih (i + 1) _ (by omega) ?_
        rw [step]
        exact IntsAre.append hy (.cons (g k) u .nil)
      | false =>
        rw [hp] at step
        simp only [Bool.false_eq_true, if_false, List.append_nil] at step ⊢
        exact ⟨h', tk', news, rfl, F', N', off, hS, ih (i + 1) _ (by omega) (by rw [step]; exact hy)⟩
  exact key n 0 [] (by omega) (by simp only [List.take_zero, List.filter_nil, List.map_nil]; exact .nil)
end
theorem AllBear.at {vs : List Value} {bs : List Int} (h : AllBear vs bs) : ∀ (i : Nat) (v : Value), vs[i]? = some v → ∃ b, bs[i]? = some b ∧ Bears v b := by
  induction h with
  | nil => intro i v h; simp at h
  | cons hx _ ih =>
    intro i v h
    cases i with
    | zero => simp at h; subst h; exact ⟨_, rfl, hx⟩
    | succ i => exact ih i v (by simpa using h)
section
variable {prog : Program} {w : World} {A : Around} {E : Value → Shared → Prop} {s : Shared} {Q : Value → Shared → Prop} {h₀ : Heap} {L D : Addr} {m : Str → Option Value} {news : List (Addr × Obj)}
theorem m_subB {value slice : PySem.Expr} {vs : List Value} {ns : List Int} {n : Nat} {k : Int} {u : Tok} (N : News h₀ L s.heap news) (hm : (D, listOf vs.toArray n) ∈ news) (hf : AllBear vs ns) (h0 : 0 ≤ k) (h1 : k < ns.length) (hfit : k < 2 ^ 63)
    (h : ∀ v, Bears v (ns.getD k.toNat 0) → Q v s) (hs : subscripted slice false (.ref D) (.int k u) = operate [.ref D, .int k u] (getItem (.ref D) (.int k u)) := by with_unfolding_all rfl) :
    wpAny (model prog w) A (subscriptTail value slice (.ref D) (.int k u)) Q E s := by
  have hl := News.isList N hm
  have hk : k.toNat < vs.length := by rw [hf.length_eq]; omega
  obtain ⟨v, hv⟩ : ∃ v, vs[k.toNat]? = some v := ⟨_, List.getElem?_eq_getElem hk⟩
  obtain ⟨b, hb, hx⟩ := hf.at _ _ hv
  refine tail_any hl.typeIs slot_list_getitem.lookup (wpAny_getItem_list hl h0 hfit (by simpa using hv) ?_) hs
  refine h v ?_
  rw [List.getD_eq_getElem?_getD, hb]
  exact hx
theorem gt_dec (a b : Int) : (some (compare a b) == some Ordering.gt) = decide (b < a) := by
  by_cases h : b < a
  · rw [show compare a b = .gt from Int.compare_eq_gt.mpr h]; simp [h]
  · have : compare a b ≠ .gt := fun e => h (Int.compare_eq_gt.mp e)
    simp [h, this]
theorem lt_dec (a b : Int) : (some (compare a b) == some Ordering.lt) = decide (a < b) := by
  by_cases h : a < b
  · rw [show compare a b = .lt from Int.compare_eq_lt.mpr h]; simp [h]
  · have : compare a b ≠ .lt := fun e => h (Int.compare_eq_lt.mp e)
    simp [h, this]
theorem m_gtB {v₁ v₂ : Value} {a b : Int} (h1 : Bears v₁ a) (h2 : Bears v₂ b) (h : Q (.bool (decide (b < a))) s) : wpAny (model prog w) A (compareOp .Gt v₁ v₂) Q E s := by
  cases h1 with
  | @int i t hi =>
    cases h2 with
    | @int j u hj =>
      refine PyProof.Rows.gt_int ?_
      have e : decide (64 * j < 64 * i) = decide (j < i) := decide_eq_decide.mpr (by omega)
      rw [e] at h; exact h
    | float hx => exact gt_if (by rw [hx.cmpInt, lt_dec]; exact h)
  | float hx =>
    cases h2 with
    | int hj => exact gt_fi (by rw [hx.cmpInt, gt_dec]; exact h)
    | float hy => exact AutoFloatOps.gt_0 (by rw [hx.cmp hy, gt_dec]; exact h)
end
theorem booked_none {h : Heap} (w : World) (X : (fr.heap_1 w.params).In h) : NoneBooked h := by
  have e : nsOkIn (fr.heap_1 w.params) cStatics = true := by kernel_rfl
  have q : nsIn (fr.heap_1 w.params) cStatics sharingNotToldKey = some none := by kernel_rfl
  exact ⟨_, .of_isNs (isNs_of_in X e), nsMap_none_of_in X e q⟩
theorem booked_up {h₀ h : Heap} {L : Addr} {m : Str → Option Value} (F : Fr h₀ L h m) (X : NoneBooked h₀) : NoneBooked h := by
  obtain ⟨mc, ⟨o, es, ep, ho, hr⟩, hk⟩ := X
  exact ⟨mc, ⟨o, es, ep, F.keep _ _ ho, hr⟩, hk⟩
theorem isSame_float {M : Model} {A : Around} {E : Value → Shared → Prop} {s : Shared} {x y : UInt64} {a b : Int} {t u : Tok} {Q : Bool → Shared → Prop} (hx : Is x a) (hy : Is y b) (h0 : t ≠ 0) (h1 : u ≠ 0) (hd : t ≠ u ∨ a = b) (hb : NoneBooked s.heap)
    (ht : a = b → Q true s) (hf : Q false s) : wpAny M A (isSame (.float x t) (.float y u)) Q E s := by
  show wpAny M A (isSame.created (x == y && !Float64.isNaN x) t u) Q E s
  have h01 : (t == 0 || u == 0) = false := by
    rw [Bool.or_eq_false_iff]; exact ⟨beq_eq_false_iff_ne.mpr h0, beq_eq_false_iff_ne.mpr h1⟩
  unfold isSame.created
  refine wpAny_ite ?_
  split
  · rename_i h; rw [h01] at h; exact absurd h Bool.false_ne_true
  refine wpAny_ite ?_
  split
  · rename_i h
    exact wpAny_pure (ht (hd.resolve_left fun n => n (eq_of_beq h)))
  refine wpAny_ite ?_
  split
  · exact wpAny_pure hf
  rename_i hc
  have hab : a = b := by
    have h1 : (x == y && !Float64.isNaN x) = true := by simpa using hc
    have h2 : x = y := eq_of_beq (Bool.and_eq_true_iff.mp h1).1
    subst h2
    have e1 := hx.eq hx
    have e2 := hx.eq hy
    rw [e1] at e2
    simpa using e2
  refine wpAny_bind (wpAny_sharingNotTold_none hb ?_)
  first | rw [if_neg Bool.false_ne_true] | simp only [Bool.false_eq_true, if_false]
  refine wpAny_bind (wpAny_sharingNotTold_none hb ?_)
  first | rw [if_neg Bool.false_ne_true] | simp only [Bool.false_eq_true, if_false]
  refine wpAny_bind (wpAny_rule (wpAny_bind (wpAny_askSetting (wpAny_pure ?_))))
  have : ∀ c : Bool, Q c s := fun c => by
    cases c with
    | true => exact ht hab
    | false => exact hf
  exact this _
theorem eqAt_float {A : Around} {s : Shared} {x y : UInt64} {a b : Int} {t u : Tok} (hx : Is x a) (hy : Is y b) (h0 : t ≠ 0) (h1 : u ≠ 0) (hd : t ≠ u ∨ a = b) (hb : NoneBooked s.heap) : SeqAt.EqAt A s (.float x t) (.float y u) (decide (a = b)) := fun prog w E Q hq => by
  unfold eqBool
  refine wpAny_holding ?_
  refine wpAny_ite_split (fun hab => ?_) (fun _ => ?_)
  · have e := eq_of_beq hab
    injection e with e1 e2
    subst e1
    have h1 := hx.eq hx
    have h2 := hx.eq hy
    rw [h1] at h2
    rw [← h2] at hq
    simp only [decide_true] at hq
    exact wpAny_bind (wpAny_rule (wpAny_pure hq))
  · refine wpAny_bind (isSame_float hx hy h0 h1 hd hb (fun hab => ?_) ?_)
    · subst hab
      simp only [decide_true] at hq
      rw [if_pos rfl]
      exact wpAny_pure hq
    · rw [if_neg Bool.false_ne_true]
      have h : wpAny (model prog w) A (richCompare .Eq (.float x t) (.float y u)) (fun v s' => wpAny (model prog w) A (truthOfDropped v) Q E s') E s := AutoFloatOps.eq_0 (by rw [hx.eq hy]; exact wpAny_truthy_bool hq)
      exact wpAny_bind h
theorem all_getD : ∀ {ns ms : List Int}, ns.length = ms.length → (List.range ns.length).all (fun j => decide (ns.getD j 0 = ms.getD j 0)) = decide (ns = ms) := by
  intro ns ms h
  by_cases e : ns = ms
  · subst e; simp
  · rw [decide_eq_false e]
    rw [Bool.eq_false_iff]
    intro hall
    refine e (List.ext_getElem h fun i h1 h2 => ?_)
    have := List.all_eq_true.mp hall i (List.mem_range.mpr h1)
    simpa [List.getD_eq_getElem?_getD, h1, h2] using this
theorem rc_fls {A : Around} {s : Shared} {l b : Addr} {xs ys : List Value} {ns ms : List Int} (hl : s.heap.IsList l xs.toArray) (hb : s.heap.IsList b ys.toArray) (hx : Fls xs ns) (hy : Fls ys ms) (hn : ns.length = ms.length) (hu : A.units < cLine) {a₁ b₁ a₂ b₂ : Tok} (k1 : TkIn a₁ b₁ xs) (k2 : TkIn a₂ b₂ ys) (z1 : @LT.lt Nat _ 0 a₁) (z2 : @LT.lt Nat _ 0 a₂) (hd : @LE.le Nat _ b₁ a₂ ∨ ns = ms) (hB : NoneBooked s.heap) :
    SeqAt.RcAt A s (.ref l) (.ref b) (decide (ns = ms)) := by
  have h := SeqAt.RcAt.lists (e := fun j => decide (ns.getD j 0 = ms.getD j 0)) hl hb (by rw [List.size_toArray, List.size_toArray, hx.len, hy.len, hn]) hu (fun j h1 h2 => by
    obtain ⟨x, t, n, e1, e2, i1⟩ := hx.at j _ (List.getElem?_eq_getElem (by simpa using h1))
    obtain ⟨y, u, k, f1, f2, i2⟩ := hy.at j _ (List.getElem?_eq_getElem (by simpa using h2))
    have e1' := (List.getElem?_eq_getElem (l := xs) (i := j) (by simpa using h1)).trans (congrArg some e1)
    have f1' := (List.getElem?_eq_getElem (l := ys) (i := j) (by simpa using h2)).trans (congrArg some f1)
    have g1 : xs.toArray[j] = .float x t := by simpa using e1
    have g2 : ys.toArray[j] = .float y u := by simpa using f1
    rw [g1, g2]
    simp only [List.getD_eq_getElem?_getD, e2, f2, Option.getD_some]
    have m1 := k1 _ (List.mem_of_getElem? e1') x t rfl
    have m2 := k2 _ (List.mem_of_getElem? f1') y u rfl
    refine eqAt_float i1 i2 (Nat.ne_of_gt (Nat.lt_of_lt_of_le z1 m1.1)) (Nat.ne_of_gt (Nat.lt_of_lt_of_le z2 m2.1)) ?_ hB
    rcases hd with hd | hd
    · exact .inl (Nat.ne_of_lt (Nat.lt_of_lt_of_le m1.2 (Nat.le_trans hd m2.1)))
    · subst hd; rw [e2] at f2; exact .inr (Option.some.inj f2))
  have e : xs.toArray.size = ns.length := by rw [List.size_toArray, hx.len]
  rw [e, all_getD hn] at h
  exact h
theorem slopes_all {g h : Heap} {L D : Addr} {x1 x3 x5 x7 : UInt64} {t1 t3 t5 t7 u : Tok} {a1 a3 a5 a7 : Int} {k : Nat} {rest : List (Addr × Obj)} (h1 : Is x1 a1) (h3 : Is x3 a3) (h5 : Is x5 a5) (h7 : Is x7 a7)
    (N : News g L h ((D, listOf [.float x1 t1, .float x3 t3, .float x5 t5, .float x7 t7, .int 0 u].toArray k) :: rest)) : ∃ sv, AllBear sv [a1, a3, a5, a7, 64 * 0] ∧ News g L h ((D, listOf sv.toArray k) :: rest) :=
  ⟨_, .cons (.float h1) (.cons (.float h3) (.cons (.float h5) (.cons (.float h7) (.cons (.int (by decide)) .nil)))), N⟩
def leadV (cs : List Int) (k : Int) : Int := 2 * (((rangeKs 0 4).filter fun v => Builtin.bitAnd (k.fdiv (2 ^ v.toNat)) 1 == 1).map fun v => cs.getD v.toNat 0).sum - cs.getD 4 0
theorem rc_pair {A : Around} {s : Shared} {l b x1 x2 y1 y2 : Addr} (hl : s.heap.IsList l #[.ref x1, .ref x2]) (hb : s.heap.IsList b #[.ref y1, .ref y2]) (h1 : SeqAt.EqAt A.in1 s (.ref x1) (.ref y1) true) (h2 : SeqAt.EqAt A.in1 s (.ref x2) (.ref y2) true) (hu : A.units < cLine) :
    SeqAt.RcAt A s (.ref l) (.ref b) true := by
  have h := SeqAt.RcAt.lists (e := fun _ => true) hl hb rfl hu (fun j j1 j2 => by
    match j, j1, j2 with
    | 0, _, _ => exact h1
    | 1, _, _ => exact h2
    | j + 2, j1, _ => exact absurd j1 (by simp))
  exact h
theorem eq_lists {A : Around} {s : Shared} {l b : Addr} {xs ys : List Value} {ns : List Int} (hl : s.heap.IsList l xs.toArray) (hb : s.heap.IsList b ys.toArray) (hx : Fls xs ns) (hy : Fls ys ns) (hu : A.units < cLine) {a₁ b₁ a₂ b₂ : Tok} (k1 : TkIn a₁ b₁ xs) (k2 : TkIn a₂ b₂ ys) (z1 : @LT.lt Nat _ 0 a₁) (z2 : @LT.lt Nat _ 0 a₂) (hB : NoneBooked s.heap) :
    SeqAt.EqAt A s (.ref l) (.ref b) true := by
  have h := rc_fls hl hb hx hy rfl hu k1 k2 z1 z2 (.inr rfl) hB
  rw [decide_eq_true rfl] at h
  by_cases e : l = b
  · subst e; exact SeqAt.EqAt.same _
  · exact SeqAt.EqAt.of_refs e h
end Mine
end

section
namespace Mine
open PySem PySem.W PySem.Calls PyProof.Rows
theorem steps_is : outerS 16 = [(0, 0, 1), (1, 0, 2), (1, 1, 3), (0, 2, 3), (2, 0, 4), (2, 1, 5), (0, 4, 5), (2, 2, 6), (1, 4, 6), (2, 3, 7), (1, 5, 7), (0, 6, 7), (3, 0, 8), (3, 1, 9), (0, 8, 9), (3, 2, 10), (1, 8, 10), (3, 3, 11), (1, 9, 11), (0, 10, 11), (3, 4, 12), (2, 8, 12), (3, 5, 13), (2, 9, 13), (0, 12, 13), (3, 6, 14), (2, 10, 14), (1, 12, 14), (3, 7, 15), (2, 11, 15), (1, 13, 15), (0, 14, 15)] := by decide +kernel
theorem ex16 {ys : List Int} (h : ys.length = 16) : ∃ y0 y1 y2 y3 y4 y5 y6 y7 y8 y9 y10 y11 y12 y13 y14 y15, ys = [y0, y1, y2, y3, y4, y5, y6, y7, y8, y9, y10, y11, y12, y13, y14, y15] := by
  match ys, h with
  | [y0, y1, y2, y3, y4, y5, y6, y7, y8, y9, y10, y11, y12, y13, y14, y15], _ => exact ⟨_, _, _, _, _, _, _, _, _, _, _, _, _, _, _, _, rfl⟩
theorem xs_0 : xsV 0 = [0, 4, 0, 4, 0, 4, 0, 4, 0, 4, 0, 4, 0, 4, 0, 4] := by decide +kernel
theorem dot_0 (y0 y1 y2 y3 y4 y5 y6 y7 y8 y9 y10 y11 y12 y13 y14 y15 : Int) : dot (xsV 0) [y0, y1, y2, y3, y4, y5, y6, y7, y8, y9, y10, y11, y12, y13, y14, y15] = (-2) * y0 + (2) * y1 + (-2) * y2 + (2) * y3 + (-2) * y4 + (2) * y5 + (-2) * y6 + (2) * y7 + (-2) * y8 + (2) * y9 + (-2) * y10 + (2) * y11 + (-2) * y12 + (2) * y13 + (-2) * y14 + (2) * y15 := by
  rw [xs_0]
  simp only [dot, List.zipWith_cons_cons, List.zipWith_nil_left, List.sum_cons, List.sum_nil]
  lia
theorem xs_1 : xsV 1 = [0, 0, 4, 4, 0, 0, 4, 4, 0, 0, 4, 4, 0, 0, 4, 4] := by decide +kernel
theorem dot_1 (y0 y1 y2 y3 y4 y5 y6 y7 y8 y9 y10 y11 y12 y13 y14 y15 : Int) : dot (xsV 1) [y0, y1, y2, y3, y4, y5, y6, y7, y8, y9, y10, y11, y12, y13, y14, y15] = (-2) * y0 + (-2) * y1 + (2) * y2 + (2) * y3 + (-2) * y4 + (-2) * y5 + (2) * y6 + (2) * y7 + (-2) * y8 + (-2) * y9 + (2) * y10 + (2) * y11 + (-2) * y12 + (-2) * y13 + (2) * y14 + (2) * y15 := by
  rw [xs_1]
  simp only [dot, List.zipWith_cons_cons, List.zipWith_nil_left, List.sum_cons, List.sum_nil]
  lia
theorem xs_2 : xsV 2 = [0, 0, 0, 0, 4, 4, 4, 4, 0, 0, 0, 0, 4, 4, 4, 4] := by decide +kernel
theorem dot_2 (y0 y1 y2 y3 y4 y5 y6 y7 y8 y9 y10 y11 y12 y13 y14 y15 : Int) : dot (xsV 2) [y0, y1, y2, y3, y4, y5, y6, y7, y8, y9, y10, y11, y12, y13, y14, y15] = (-2) * y0 + (-2) * y1 + (-2) * y2 + (-2) * y3 + (2) * y4 + (2) * y5 + (2) * y6 + (2) * y7 + (-2) * y8 + (-2) * y9 + (-2) * y10 + (-2) * y11 + (2) * y12 + (2) * y13 + (2) * y14 + (2) * y15 := by
  rw [xs_2]
  simp only [dot, List.zipWith_cons_cons, List.zipWith_nil_left, List.sum_cons, List.sum_nil]
  lia
theorem xs_3 : xsV 3 = [0, 0, 0, 0, 0, 0, 0, 0, 4, 4, 4, 4, 4, 4, 4, 4] := by decide +kernel
theorem dot_3 (y0 y1 y2 y3 y4 y5 y6 y7 y8 y9 y10 y11 y12 y13 y14 y15 : Int) : dot (xsV 3) [y0, y1, y2, y3, y4, y5, y6, y7, y8, y9, y10, y11, y12, y13, y14, y15] = (-2) * y0 + (-2) * y1 + (-2) * y2 + (-2) * y3 + (-2) * y4 + (-2) * y5 + (-2) * y6 + (-2) * y7 + (2) * y8 + (2) * y9 + (2) * y10 + (2) * y11 + (2) * y12 + (2) * y13 + (2) * y14 + (2) * y15 := by
  rw [xs_3]
  simp only [dot, List.zipWith_cons_cons, List.zipWith_nil_left, List.sum_cons, List.sum_nil]
  lia
theorem sum_16 (y0 y1 y2 y3 y4 y5 y6 y7 y8 y9 y10 y11 y12 y13 y14 y15 : Int) : [y0, y1, y2, y3, y4, y5, y6, y7, y8, y9, y10, y11, y12, y13, y14, y15].sum = y0 + y1 + y2 + y3 + y4 + y5 + y6 + y7 + y8 + y9 + y10 + y11 + y12 + y13 + y14 + y15 := by
  simp only [List.sum_cons, List.sum_nil]
  lia
theorem told_16 (y0 y1 y2 y3 y4 y5 y6 y7 y8 y9 y10 y11 y12 y13 y14 y15 : Int) : toldL [y0, y1, y2, y3, y4, y5, y6, y7, y8, y9, y10, y11, y12, y13, y14, y15] 4 = [4 * (y0 + y1 + y2 + y3 + y4 + y5 + y6 + y7 + y8 + y9 + y10 + y11 + y12 + y13 + y14 + y15), (-2) * y0 + (2) * y1 + (-2) * y2 + (2) * y3 + (-2) * y4 + (2) * y5 + (-2) * y6 + (2) * y7 + (-2) * y8 + (2) * y9 + (-2) * y10 + (2) * y11 + (-2) * y12 + (2) * y13 + (-2) * y14 + (2) * y15, 4 * (y0 + y1 + y2 + y3 + y4 + y5 + y6 + y7 + y8 + y9 + y10 + y11 + y12 + y13 + y14 + y15) - 2 * ((-2) * y0 + (2) * y1 + (-2) * y2 + (2) * y3 + (-2) * y4 + (2) * y5 + (-2) * y6 + (2) * y7 + (-2) * y8 + (2) * y9 + (-2) * y10 + (2) * y11 + (-2) * y12 + (2) * y13 + (-2) * y14 + (2) * y15), (-2) * y0 + (-2) * y1 + (2) * y2 + (2) * y3 + (-2) * y4 + (-2) * y5 + (2) * y6 + (2) * y7 + (-2) * y8 + (-2) * y9 + (2) * y10 + (2) * y11 + (-2) * y12 + (-2) * y13 + (2) * y14 + (2) * y15, 4 * (y0 + y1 + y2 + y3 + y4 + y5 + y6 + y7 + y8 + y9 + y10 + y11 + y12 + y13 + y14 + y15) - 2 * ((-2) * y0 + (-2) * y1 + (2) * y2 + (2) * y3 + (-2) * y4 + (-2) * y5 + (2) * y6 + (2) * y7 + (-2) * y8 + (-2) * y9 + (2) * y10 + (2) * y11 + (-2) * y12 + (-2) * y13 + (2) * y14 + (2) * y15), (-2) * y0 + (-2) * y1 + (-2) * y2 + (-2) * y3 + (2) * y4 + (2) * y5 + (2) * y6 + (2) * y7 + (-2) * y8 + (-2) * y9 + (-2) * y10 + (-2) * y11 + (2) * y12 + (2) * y13 + (2) * y14 + (2) * y15, 4 * (y0 + y1 + y2 + y3 + y4 + y5 + y6 + y7 + y8 + y9 + y10 + y11 + y12 + y13 + y14 + y15) - 2 * ((-2) * y0 + (-2) * y1 + (-2) * y2 + (-2) * y3 + (2) * y4 + (2) * y5 + (2) * y6 + (2) * y7 + (-2) * y8 + (-2) * y9 + (-2) * y10 + (-2) * y11 + (2) * y12 + (2) * y13 + (2) * y14 + (2) * y15), (-2) * y0 + (-2) * y1 + (-2) * y2 + (-2) * y3 + (-2) * y4 + (-2) * y5 + (-2) * y6 + (-2) * y7 + (2) * y8 + (2) * y9 + (2) * y10 + (2) * y11 + (2) * y12 + (2) * y13 + (2) * y14 + (2) * y15, 4 * (y0 + y1 + y2 + y3 + y4 + y5 + y6 + y7 + y8 + y9 + y10 + y11 + y12 + y13 + y14 + y15) - 2 * ((-2) * y0 + (-2) * y1 + (-2) * y2 + (-2) * y3 + (-2) * y4 + (-2) * y5 + (-2) * y6 + (-2) * y7 + (2) * y8 + (2) * y9 + (2) * y10 + (2) * y11 + (2) * y12 + (2) * y13 + (2) * y14 + (2) * y15)] := by
  simp only [toldL, dot_0, dot_1, dot_2, dot_3, sum_16, List.cons_append, List.nil_append]
theorem rise_0 (y0 y1 y2 y3 y4 y5 y6 y7 y8 y9 y10 y11 y12 y13 y14 y15 : Int) : riseL [y0, y1, y2, y3, y4, y5, y6, y7, y8, y9, y10, y11, y12, y13, y14, y15] (outerS 16) 0 = (y1 - y0) + (y3 - y2) + (y5 - y4) + (y7 - y6) + (y9 - y8) + (y11 - y10) + (y13 - y12) + (y15 - y14) := by
  rw [steps_is]
  show List.sum [y1 - y0, y3 - y2, y5 - y4, y7 - y6, y9 - y8, y11 - y10, y13 - y12, y15 - y14] = _
  simp only [List.sum_cons, List.sum_nil]
  lia
theorem start_0 (y0 y1 y2 y3 y4 y5 y6 y7 y8 y9 y10 y11 y12 y13 y14 y15 : Int) : startL [y0, y1, y2, y3, y4, y5, y6, y7, y8, y9, y10, y11, y12, y13, y14, y15] (outerS 16) 0 = y0 + y2 + y4 + y6 + y8 + y10 + y12 + y14 := by
  rw [steps_is]
  show List.sum [y0, y2, y4, y6, y8, y10, y12, y14] = _
  simp only [List.sum_cons, List.sum_nil]
  lia
theorem rise_1 (y0 y1 y2 y3 y4 y5 y6 y7 y8 y9 y10 y11 y12 y13 y14 y15 : Int) : riseL [y0, y1, y2, y3, y4, y5, y6, y7, y8, y9, y10, y11, y12, y13, y14, y15] (outerS 16) 1 = (y2 - y0) + (y3 - y1) + (y6 - y4) + (y7 - y5) + (y10 - y8) + (y11 - y9) + (y14 - y12) + (y15 - y13) := by
  rw [steps_is]
  show List.sum [y2 - y0, y3 - y1, y6 - y4, y7 - y5, y10 - y8, y11 - y9, y14 - y12, y15 - y13] = _
  simp only [List.sum_cons, List.sum_nil]
  lia
theorem start_1 (y0 y1 y2 y3 y4 y5 y6 y7 y8 y9 y10 y11 y12 y13 y14 y15 : Int) : startL [y0, y1, y2, y3, y4, y5, y6, y7, y8, y9, y10, y11, y12, y13, y14, y15] (outerS 16) 1 = y0 + y1 + y4 + y5 + y8 + y9 + y12 + y13 := by
  rw [steps_is]
  show List.sum [y0, y1, y4, y5, y8, y9, y12, y13] = _
  simp only [List.sum_cons, List.sum_nil]
  lia
theorem rise_2 (y0 y1 y2 y3 y4 y5 y6 y7 y8 y9 y10 y11 y12 y13 y14 y15 : Int) : riseL [y0, y1, y2, y3, y4, y5, y6, y7, y8, y9, y10, y11, y12, y13, y14, y15] (outerS 16) 2 = (y4 - y0) + (y5 - y1) + (y6 - y2) + (y7 - y3) + (y12 - y8) + (y13 - y9) + (y14 - y10) + (y15 - y11) := by
  rw [steps_is]
  show List.sum [y4 - y0, y5 - y1, y6 - y2, y7 - y3, y12 - y8, y13 - y9, y14 - y10, y15 - y11] = _
  simp only [List.sum_cons, List.sum_nil]
  lia
theorem start_2 (y0 y1 y2 y3 y4 y5 y6 y7 y8 y9 y10 y11 y12 y13 y14 y15 : Int) : startL [y0, y1, y2, y3, y4, y5, y6, y7, y8, y9, y10, y11, y12, y13, y14, y15] (outerS 16) 2 = y0 + y1 + y2 + y3 + y8 + y9 + y10 + y11 := by
  rw [steps_is]
  show List.sum [y0, y1, y2, y3, y8, y9, y10, y11] = _
  simp only [List.sum_cons, List.sum_nil]
  lia
theorem rise_3 (y0 y1 y2 y3 y4 y5 y6 y7 y8 y9 y10 y11 y12 y13 y14 y15 : Int) : riseL [y0, y1, y2, y3, y4, y5, y6, y7, y8, y9, y10, y11, y12, y13, y14, y15] (outerS 16) 3 = (y8 - y0) + (y9 - y1) + (y10 - y2) + (y11 - y3) + (y12 - y4) + (y13 - y5) + (y14 - y6) + (y15 - y7) := by
  rw [steps_is]
  show List.sum [y8 - y0, y9 - y1, y10 - y2, y11 - y3, y12 - y4, y13 - y5, y14 - y6, y15 - y7] = _
  simp only [List.sum_cons, List.sum_nil]
  lia
theorem start_3 (y0 y1 y2 y3 y4 y5 y6 y7 y8 y9 y10 y11 y12 y13 y14 y15 : Int) : startL [y0, y1, y2, y3, y4, y5, y6, y7, y8, y9, y10, y11, y12, y13, y14, y15] (outerS 16) 3 = y0 + y1 + y2 + y3 + y4 + y5 + y6 + y7 := by
  rw [steps_is]
  show List.sum [y0, y1, y2, y3, y4, y5, y6, y7] = _
  simp only [List.sum_cons, List.sum_nil]
  lia
theorem due_told {ys : List Int} (h : ys.length = 16) : dueL ys (outerS 16) 4 = toldL ys 4 := by
  obtain ⟨y0, y1, y2, y3, y4, y5, y6, y7, y8, y9, y10, y11, y12, y13, y14, y15, rfl⟩ := ex16 h
  rw [told_16]
  simp only [dueL, rise_0, rise_1, rise_2, rise_3, start_0, start_1, start_2, start_3, sum_16, List.cons_append, List.nil_append]
  simp only [List.cons.injEq, and_true, true_and]
  refine ⟨?_, ?_, ?_, ?_, ?_, ?_, ?_, ?_⟩ <;> lia
theorem steps_ok : ∀ t ∈ outerS 16, 0 ≤ t.2.1 ∧ t.2.1 < 16 ∧ 0 ≤ t.2.2 ∧ t.2.2 < 16 := by rw [steps_is]; decide +kernel
theorem leads_is (c0 c1 c2 c3 q b : Int) : (rangeKs 0 16).map (leadV [c0, c1, c2, c3, q, b]) = [2 * 0 - q, 2 * (c0 + 0) - q, 2 * (c1 + 0) - q, 2 * (c0 + c1 + 0) - q, 2 * (c2 + 0) - q, 2 * (c0 + c2 + 0) - q, 2 * (c1 + c2 + 0) - q, 2 * (c0 + c1 + c2 + 0) - q, 2 * (c3 + 0) - q, 2 * (c0 + c3 + 0) - q, 2 * (c1 + c3 + 0) - q, 2 * (c0 + c1 + c3 + 0) - q, 2 * (c2 + c3 + 0) - q, 2 * (c0 + c2 + c3 + 0) - q, 2 * (c1 + c2 + c3 + 0) - q, 2 * (c0 + c1 + c2 + c3 + 0) - q] := by
  have e : (rangeKs 0 16).map (leadV [c0, c1, c2, c3, q, b]) = [2 * List.sum [] - q, 2 * List.sum [c0] - q, 2 * List.sum [c1] - q, 2 * List.sum [c0, c1] - q, 2 * List.sum [c2] - q, 2 * List.sum [c0, c2] - q, 2 * List.sum [c1, c2] - q, 2 * List.sum [c0, c1, c2] - q, 2 * List.sum [c3] - q, 2 * List.sum [c0, c3] - q, 2 * List.sum [c1, c3] - q, 2 * List.sum [c0, c1, c3] - q, 2 * List.sum [c2, c3] - q, 2 * List.sum [c0, c2, c3] - q, 2 * List.sum [c1, c2, c3] - q, 2 * List.sum [c0, c1, c2, c3] - q] := rfl
  rw [e]
  simp only [List.sum_cons, List.sum_nil, List.cons.injEq, and_true, Int.add_assoc, true_and]
theorem one_le {a b : Int} (h : a ≤ b) : (if 0 < a then (1 : Int) else 0) ≤ (if 0 < b then (1 : Int) else 0) := by split <;> split <;> omega
theorem one_eq (a : Int) : (if 0 < a then (1 : Int) else 0) = 0 ∨ (if 0 < a then (1 : Int) else 0) = 1 := by split <;> simp
theorem fs_is {c0 c1 c2 c3 q b : Int} {ld fs : List Int} (hle : (rangeKs 0 16).map (leadV [c0, c1, c2, c3, q, b]) = ld) (hfe : ld.map (fun k => if 0 < k then (1 : Int) else 0) = fs) : fs = [if 0 < 2 * 0 - q then (1 : Int) else 0, if 0 < 2 * (c0 + 0) - q then (1 : Int) else 0, if 0 < 2 * (c1 + 0) - q then (1 : Int) else 0, if 0 < 2 * (c0 + c1 + 0) - q then (1 : Int) else 0, if 0 < 2 * (c2 + 0) - q then (1 : Int) else 0, if 0 < 2 * (c0 + c2 + 0) - q then (1 : Int) else 0, if 0 < 2 * (c1 + c2 + 0) - q then (1 : Int) else 0, if 0 < 2 * (c0 + c1 + c2 + 0) - q then (1 : Int) else 0, if 0 < 2 * (c3 + 0) - q then (1 : Int) else 0, if 0 < 2 * (c0 + c3 + 0) - q then (1 : Int) else 0, if 0 < 2 * (c1 + c3 + 0) - q then (1 : Int) else 0, if 0 < 2 * (c0 + c1 + c3 + 0) - q then (1 : Int) else 0, if 0 < 2 * (c2 + c3 + 0) - q then (1 : Int) else 0, if 0 < 2 * (c0 + c2 + c3 + 0) - q then (1 : Int) else 0, if 0 < 2 * (c1 + c2 + c3 + 0) - q then (1 : Int) else 0, if 0 < 2 * (c0 + c1 + c2 + c3 + 0) - q then (1 : Int) else 0] := by
  rw [leads_is] at hle
  rw [← hfe, ← hle]
  rfl
theorem mono_01 {c0 c1 c2 c3 q : Int} (h : c0 ≤ c1) {y0 y1 y2 y3 y4 y5 y6 y7 y8 y9 y10 y11 y12 y13 y14 y15 : Int} (h1 : y1 = if 0 < 2 * (c0 + 0) - q then (1 : Int) else 0) (h2 : y2 = if 0 < 2 * (c1 + 0) - q then (1 : Int) else 0) (h5 : y5 = if 0 < 2 * (c0 + c2 + 0) - q then (1 : Int) else 0) (h6 : y6 = if 0 < 2 * (c1 + c2 + 0) - q then (1 : Int) else 0) (h9 : y9 = if 0 < 2 * (c0 + c3 + 0) - q then (1 : Int) else 0) (h10 : y10 = if 0 < 2 * (c1 + c3 + 0) - q then (1 : Int) else 0) (h13 : y13 = if 0 < 2 * (c0 + c2 + c3 + 0) - q then (1 : Int) else 0) (h14 : y14 = if 0 < 2 * (c1 + c2 + c3 + 0) - q then (1 : Int) else 0) : (-2) * y0 + (2) * y1 + (-2) * y2 + (2) * y3 + (-2) * y4 + (2) * y5 + (-2) * y6 + (2) * y7 + (-2) * y8 + (2) * y9 + (-2) * y10 + (2) * y11 + (-2) * y12 + (2) * y13 + (-2) * y14 + (2) * y15 ≤ (-2) * y0 + (-2) * y1 + (2) * y2 + (2) * y3 + (-2) * y4 + (-2) * y5 + (2) * y6 + (2) * y7 + (-2) * y8 + (-2) * y9 + (2) * y10 + (2) * y11 + (-2) * y12 + (-2) * y13 + (2) * y14 + (2) * y15 := by
  have e0 : y1 ≤ y2 := by rw [h1, h2]; exact one_le (by omega)
  have e1 : y5 ≤ y6 := by rw [h5, h6]; exact one_le (by omega)
  have e2 : y9 ≤ y10 := by rw [h9, h10]; exact one_le (by omega)
  have e3 : y13 ≤ y14 := by rw [h13, h14]; exact one_le (by omega)
  clear h1 h2 h5 h6 h9 h10 h13 h14
  lia
theorem mono_02 {c0 c1 c2 c3 q : Int} (h : c0 ≤ c2) {y0 y1 y2 y3 y4 y5 y6 y7 y8 y9 y10 y11 y12 y13 y14 y15 : Int} (h1 : y1 = if 0 < 2 * (c0 + 0) - q then (1 : Int) else 0) (h3 : y3 = if 0 < 2 * (c0 + c1 + 0) - q then (1 : Int) else 0) (h4 : y4 = if 0 < 2 * (c2 + 0) - q then (1 : Int) else 0) (h6 : y6 = if 0 < 2 * (c1 + c2 + 0) - q then (1 : Int) else 0) (h9 : y9 = if 0 < 2 * (c0 + c3 + 0) - q then (1 : Int) else 0) (h11 : y11 = if 0 < 2 * (c0 + c1 + c3 + 0) - q then (1 : Int) else 0) (h12 : y12 = if 0 < 2 * (c2 + c3 + 0) - q then (1 : Int) else 0) (h14 : y14 = if 0 < 2 * (c1 + c2 + c3 + 0) - q then (1 : Int) else 0) : (-2) * y0 + (2) * y1 + (-2) * y2 + (2) * y3 + (-2) * y4 + (2) * y5 + (-2) * y6 + (2) * y7 + (-2) * y8 + (2) * y9 + (-2) * y10 + (2) * y11 + (-2) * y12 + (2) * y13 + (-2) * y14 + (2) * y15 ≤ (-2) * y0 + (-2) * y1 + (-2) * y2 + (-2) * y3 + (2) * y4 + (2) * y5 + (2) * y6 + (2) * y7 + (-2) * y8 + (-2) * y9 + (-2) * y10 + (-2) * y11 + (2) * y12 + (2) * y13 + (2) * y14 + (2) * y15 := by
  have e0 : y1 ≤ y4 := by rw [h1, h4]; exact one_le (by omega)
  have e1 : y3 ≤ y6 := by rw [h3, h6]; exact one_le (by omega)
  have e2 : y9 ≤ y12 := by rw [h9, h12]; exact one_le (by omega)
  have e3 : y11 ≤ y14 := by rw [h11, h14]; exact one_le (by omega)
  clear h1 h3 h4 h6 h9 h11 h12 h14
  lia
theorem mono_03 {c0 c1 c2 c3 q : Int} (h : c0 ≤ c3) {y0 y1 y2 y3 y4 y5 y6 y7 y8 y9 y10 y11 y12 y13 y14 y15 : Int} (h1 : y1 = if 0 < 2 * (c0 + 0) - q then (1 : Int) else 0) (h3 : y3 = if 0 < 2 * (c0 + c1 + 0) - q then (1 : Int) else 0) (h5 : y5 = if 0 < 2 * (c0 + c2 + 0) - q then (1 : Int) else 0) (h7 : y7 = if 0 < 2 * (c0 + c1 + c2 + 0) - q then (1 : Int) else 0) (h8 : y8 = if 0 < 2 * (c3 + 0) - q then (1 : Int) else 0) (h10 : y10 = if 0 < 2 * (c1 + c3 + 0) - q then (1 : Int) else 0) (h12 : y12 = if 0 < 2 * (c2 + c3 + 0) - q then (1 : Int) else 0) (h14 : y14 = if 0 < 2 * (c1 + c2 + c3 + 0) - q then (1 : Int) else 0) : (-2) * y0 + (2) * y1 + (-2) * y2 + (2) * y3 + (-2) * y4 + (2) * y5 + (-2) * y6 + (2) * y7 + (-2) * y8 + (2) * y9 + (-2) * y10 + (2) * y11 + (-2) * y12 + (2) * y13 + (-2) * y14 + (2) * y15 ≤ (-2) * y0 + (-2) * y1 + (-2) * y2 + (-2) * y3 + (-2) * y4 + (-2) * y5 + (-2) * y6 + (-2) * y7 + (2) * y8 + (2) * y9 + (2) * y10 + (2) * y11 + (2) * y12 + (2) * y13 + (2) * y14 + (2) * y15 := by
  have e0 : y1 ≤ y8 := by rw [h1, h8]; exact one_le (by omega)
  have e1 : y3 ≤ y10 := by rw [h3, h10]; exact one_le (by omega)
  have e2 : y5 ≤ y12 := by rw [h5, h12]; exact one_le (by omega)
  have e3 : y7 ≤ y14 := by rw [h7, h14]; exact one_le (by omega)
  clear h1 h3 h5 h7 h8 h10 h12 h14
  lia
theorem mono_04 {c0 c1 c2 c3 q : Int} (h : c0 ≤ 0) {y0 y1 y2 y3 y4 y5 y6 y7 y8 y9 y10 y11 y12 y13 y14 y15 : Int} (h0 : y0 = if 0 < 2 * 0 - q then (1 : Int) else 0) (h1 : y1 = if 0 < 2 * (c0 + 0) - q then (1 : Int) else 0) (h2 : y2 = if 0 < 2 * (c1 + 0) - q then (1 : Int) else 0) (h3 : y3 = if 0 < 2 * (c0 + c1 + 0) - q then (1 : Int) else 0) (h4 : y4 = if 0 < 2 * (c2 + 0) - q then (1 : Int) else 0) (h5 : y5 = if 0 < 2 * (c0 + c2 + 0) - q then (1 : Int) else 0) (h6 : y6 = if 0 < 2 * (c1 + c2 + 0) - q then (1 : Int) else 0) (h7 : y7 = if 0 < 2 * (c0 + c1 + c2 + 0) - q then (1 : Int) else 0) (h8 : y8 = if 0 < 2 * (c3 + 0) - q then (1 : Int) else 0) (h9 : y9 = if 0 < 2 * (c0 + c3 + 0) - q then (1 : Int) else 0) (h10 : y10 = if 0 < 2 * (c1 + c3 + 0) - q then (1 : Int) else 0) (h11 : y11 = if 0 < 2 * (c0 + c1 + c3 + 0) - q then (1 : Int) else 0) (h12 : y12 = if 0 < 2 * (c2 + c3 + 0) - q then (1 : Int) else 0) (h13 : y13 = if 0 < 2 * (c0 + c2 + c3 + 0) - q then (1 : Int) else 0) (h14 : y14 = if 0 < 2 * (c1 + c2 + c3 + 0) - q then (1 : Int) else 0) (h15 : y15 = if 0 < 2 * (c0 + c1 + c2 + c3 + 0) - q then (1 : Int) else 0) : (-2) * y0 + (2) * y1 + (-2) * y2 + (2) * y3 + (-2) * y4 + (2) * y5 + (-2) * y6 + (2) * y7 + (-2) * y8 + (2) * y9 + (-2) * y10 + (2) * y11 + (-2) * y12 + (2) * y13 + (-2) * y14 + (2) * y15 ≤ 64 * 0 := by
  have e0 : y1 ≤ y0 := by rw [h1, h0]; exact one_le (by omega)
  have e1 : y3 ≤ y2 := by rw [h3, h2]; exact one_le (by omega)
  have e2 : y5 ≤ y4 := by rw [h5, h4]; exact one_le (by omega)
  have e3 : y7 ≤ y6 := by rw [h7, h6]; exact one_le (by omega)
  have e4 : y9 ≤ y8 := by rw [h9, h8]; exact one_le (by omega)
  have e5 : y11 ≤ y10 := by rw [h11, h10]; exact one_le (by omega)
  have e6 : y13 ≤ y12 := by rw [h13, h12]; exact one_le (by omega)
  have e7 : y15 ≤ y14 := by rw [h15, h14]; exact one_le (by omega)
  clear h0 h1 h2 h3 h4 h5 h6 h7 h8 h9 h10 h11 h12 h13 h14 h15
  lia
theorem mono_10 {c0 c1 c2 c3 q : Int} (h : c1 ≤ c0) {y0 y1 y2 y3 y4 y5 y6 y7 y8 y9 y10 y11 y12 y13 y14 y15 : Int} (h1 : y1 = if 0 < 2 * (c0 + 0) - q then (1 : Int) else 0) (h2 : y2 = if 0 < 2 * (c1 + 0) - q then (1 : Int) else 0) (h5 : y5 = if 0 < 2 * (c0 + c2 + 0) - q then (1 : Int) else 0) (h6 : y6 = if 0 < 2 * (c1 + c2 + 0) - q then (1 : Int) else 0) (h9 : y9 = if 0 < 2 * (c0 + c3 + 0) - q then (1 : Int) else 0) (h10 : y10 = if 0 < 2 * (c1 + c3 + 0) - q then (1 : Int) else 0) (h13 : y13 = if 0 < 2 * (c0 + c2 + c3 + 0) - q then (1 : Int) else 0) (h14 : y14 = if 0 < 2 * (c1 + c2 + c3 + 0) - q then (1 : Int) else 0) : (-2) * y0 + (-2) * y1 + (2) * y2 + (2) * y3 + (-2) * y4 + (-2) * y5 + (2) * y6 + (2) * y7 + (-2) * y8 + (-2) * y9 + (2) * y10 + (2) * y11 + (-2) * y12 + (-2) * y13 + (2) * y14 + (2) * y15 ≤ (-2) * y0 + (2) * y1 + (-2) * y2 + (2) * y3 + (-2) * y4 + (2) * y5 + (-2) * y6 + (2) * y7 + (-2) * y8 + (2) * y9 + (-2) * y10 + (2) * y11 + (-2) * y12 + (2) * y13 + (-2) * y14 + (2) * y15 := by
  have e0 : y2 ≤ y1 := by rw [h2, h1]; exact one_le (by omega)
  have e1 : y6 ≤ y5 := by rw [h6, h5]; exact one_le (by omega)
  have e2 : y10 ≤ y9 := by rw [h10, h9]; exact one_le (by omega)
  have e3 : y14 ≤ y13 := by rw [h14, h13]; exact one_le (by omega)
  clear h1 h2 h5 h6 h9 h10 h13 h14
  lia
theorem mono_12 {c0 c1 c2 c3 q : Int} (h : c1 ≤ c2) {y0 y1 y2 y3 y4 y5 y6 y7 y8 y9 y10 y11 y12 y13 y14 y15 : Int} (h2 : y2 = if 0 < 2 * (c1 + 0) - q then (1 : Int) else 0) (h3 : y3 = if 0 < 2 * (c0 + c1 + 0) - q then (1 : Int) else 0) (h4 : y4 = if 0 < 2 * (c2 + 0) - q then (1 : Int) else 0) (h5 : y5 = if 0 < 2 * (c0 + c2 + 0) - q then (1 : Int) else 0) (h10 : y10 = if 0 < 2 * (c1 + c3 + 0) - q then (1 : Int) else 0) (h11 : y11 = if 0 < 2 * (c0 + c1 + c3 + 0) - q then (1 : Int) else 0) (h12 : y12 = if 0 < 2 * (c2 + c3 + 0) - q then (1 : Int) else 0) (h13 : y13 = if 0 < 2 * (c0 + c2 + c3 + 0) - q then (1 : Int) else 0) : (-2) * y0 + (-2) * y1 + (2) * y2 + (2) * y3 + (-2) * y4 + (-2) * y5 + (2) * y6 + (2) * y7 + (-2) * y8 + (-2) * y9 + (2) * y10 + (2) * y11 + (-2) * y12 + (-2) * y13 + (2) * y14 + (2) * y15 ≤ (-2) * y0 + (-2) * y1 + (-2) * y2 + (-2) * y3 + (2) * y4 + (2) * y5 + (2) * y6 + (2) * y7 + (-2) * y8 + (-2) * y9 + (-2) * y10 + (-2) * y11 + (2) * y12 + (2) * y13 + (2) * y14 + (2) * y15 := by
  have e0 : y2 ≤ y4 := by rw [h2, h4]; exact one_le (by omega)
  have e1 : y3 ≤ y5 := by rw [h3, h5]; exact one_le (by omega)
  have e2 : y10 ≤ y12 := by rw [h10, h12]; exact one_le (by omega)
  have e3 : y11 ≤ y13 := by rw [h11, h13]; exact one_le (by omega)
  clear h2 h3 h4 h5 h10 h11 h12 h13
  lia
theorem mono_13 {c0 c1 c2 c3 q : Int} (h : c1 ≤ c3) {y0 y1 y2 y3 y4 y5 y6 y7 y8 y9 y10 y11 y12 y13 y14 y15 : Int} (h2 : y2 = if 0 < 2 * (c1 + 0) - q then (1 : Int) else 0) (h3 : y3 = if 0 < 2 * (c0 + c1 + 0) - q then (1 : Int) else 0) (h6 : y6 = if 0 < 2 * (c1 + c2 + 0) - q then (1 : Int) else 0) (h7 : y7 = if 0 < 2 * (c0 + c1 + c2 + 0) - q then (1 : Int) else 0) (h8 : y8 = if 0 < 2 * (c3 + 0) - q then (1 : Int) else 0) (h9 : y9 = if 0 < 2 * (c0 + c3 + 0) - q then (1 : Int) else 0) (h12 : y12 = if 0 < 2 * (c2 + c3 + 0) - q then (1 : Int) else 0) (h13 : y13 = if 0 < 2 * (c0 + c2 + c3 + 0) - q then (1 : Int) else 0) : (-2) * y0 + (-2) * y1 + (2) * y2 + (2) * y3 + (-2) * y4 + (-2) * y5 + (2) * y6 + (2) * y7 + (-2) * y8 + (-2) * y9 + (2) * y10 + (2) * y11 + (-2) * y12 + (-2) * y13 + (2) * y14 + (2) * y15 ≤ (-2) * y0 + (-2) * y1 + (-2) * y2 + (-2) * y3 + (-2) * y4 + (-2) * y5 + (-2) * y6 + (-2) * y7 + (2) * y8 + (2) * y9 + (2) * y10 + (2) * y11 + (2) * y12 + (2) * y13 + (2) * y14 + (2) * y15 := by
  have e0 : y2 ≤ y8 := by rw [h2, h8]; exact one_le (by omega)
  have e1 : y3 ≤ y9 := by rw [h3, h9]; exact one_le (by omega)
  have e2 : y6 ≤ y12 := by rw [h6, h12]; exact one_le (by omega)
  have e3 : y7 ≤ y13 := by rw [h7, h13]; exact one_le (by omega)
  clear h2 h3 h6 h7 h8 h9 h12 h13
  lia
theorem mono_14 {c0 c1 c2 c3 q : Int} (h : c1 ≤ 0) {y0 y1 y2 y3 y4 y5 y6 y7 y8 y9 y10 y11 y12 y13 y14 y15 : Int} (h0 : y0 = if 0 < 2 * 0 - q then (1 : Int) else 0) (h1 : y1 = if 0 < 2 * (c0 + 0) - q then (1 : Int) else 0) (h2 : y2 = if 0 < 2 * (c1 + 0) - q then (1 : Int) else 0) (h3 : y3 = if 0 < 2 * (c0 + c1 + 0) - q then (1 : Int) else 0) (h4 : y4 = if 0 < 2 * (c2 + 0) - q then (1 : Int) else 0) (h5 : y5 = if 0 < 2 * (c0 + c2 + 0) - q then (1 : Int) else 0) (h6 : y6 = if 0 < 2 * (c1 + c2 + 0) - q then (1 : Int) else 0) (h7 : y7 = if 0 < 2 * (c0 + c1 + c2 + 0) - q then (1 : Int) else 0) (h8 : y8 = if 0 < 2 * (c3 + 0) - q then (1 : Int) else 0) (h9 : y9 = if 0 < 2 * (c0 + c3 + 0) - q then (1 : Int) else 0) (h10 : y10 = if 0 < 2 * (c1 + c3 + 0) - q then (1 : Int) else 0) (h11 : y11 = if 0 < 2 * (c0 + c1 + c3 + 0) - q then (1 : Int) else 0) (h12 : y12 = if 0 < 2 * (c2 + c3 + 0) - q then (1 : Int) else 0) (h13 : y13 = if 0 < 2 * (c0 + c2 + c3 + 0) - q then (1 : Int) else 0) (h14 : y14 = if 0 < 2 * (c1 + c2 + c3 + 0) - q then (1 : Int) else 0) (h15 : y15 = if 0 < 2 * (c0 + c1 + c2 + c3 + 0) - q then (1 : Int) else 0) : (-2) * y0 + (-2) * y1 + (2) * y2 + (2) * y3 + (-2) * y4 + (-2) * y5 + (2) * y6 + (2) * y7 + (-2) * y8 + (-2) * y9 + (2) * y10 + (2) * y11 + (-2) * y12 + (-2) * y13 + (2) * y14 + (2) * y15 ≤ 64 * 0 := by
  have e0 : y2 ≤ y0 := by rw [h2, h0]; exact one_le (by omega)
  have e1 : y3 ≤ y1 := by rw [h3, h1]; exact one_le (by omega)
  have e2 : y6 ≤ y4 := by rw [h6, h4]; exact one_le (by omega)
  have e3 : y7 ≤ y5 := by rw [h7, h5]; exact one_le (by omega)
  have e4 : y10 ≤ y8 := by rw [h10, h8]; exact one_le (by omega)
  have e5 : y11 ≤ y9 := by rw [h11, h9]; exact one_le (by omega)
  have e6 : y14 ≤ y12 := by rw [h14, h12]; exact one_le (by omega)
  have e7 : y15 ≤ y13 := by rw [h15, h13]; exact one_le (by omega)
  clear h0 h1 h2 h3 h4 h5 h6 h7 h8 h9 h10 h11 h12 h13 h14 h15
  lia
theorem mono_20 {c0 c1 c2 c3 q : Int} (h : c2 ≤ c0) {y0 y1 y2 y3 y4 y5 y6 y7 y8 y9 y10 y11 y12 y13 y14 y15 : Int} (h1 : y1 = if 0 < 2 * (c0 + 0) - q then (1 : Int) else 0) (h3 : y3 = if 0 < 2 * (c0 + c1 + 0) - q then (1 : Int) else 0) (h4 : y4 = if 0 < 2 * (c2 + 0) - q then (1 : Int) else 0) (h6 : y6 = if 0 < 2 * (c1 + c2 + 0) - q then (1 : Int) else 0) (h9 : y9 = if 0 < 2 * (c0 + c3 + 0) - q then (1 : Int) else 0) (h11 : y11 = if 0 < 2 * (c0 + c1 + c3 + 0) - q then (1 : Int) else 0) (h12 : y12 = if 0 < 2 * (c2 + c3 + 0) - q then (1 : Int) else 0) (h14 : y14 = if 0 < 2 * (c1 + c2 + c3 + 0) - q then (1 : Int) else 0) : (-2) * y0 + (-2) * y1 + (-2) * y2 + (-2) * y3 + (2) * y4 + (2) * y5 + (2) * y6 + (2) * y7 + (-2) * y8 + (-2) * y9 + (-2) * y10 + (-2) * y11 + (2) * y12 + (2) * y13 + (2) * y14 + (2) * y15 ≤ (-2) * y0 + (2) * y1 + (-2) * y2 + (2) * y3 + (-2) * y4 + (2) * y5 + (-2) * y6 + (2) * y7 + (-2) * y8 + (2) * y9 + (-2) * y10 + (2) * y11 + (-2) * y12 + (2) * y13 + (-2) * y14 + (2) * y15 := by
  have e0 : y4 ≤ y1 := by rw [h4, h1]; exact one_le (by omega)
  have e1 : y6 ≤ y3 := by rw [h6, h3]; exact one_le (by omega)
  have e2 : y12 ≤ y9 := by rw [h12, h9]; exact one_le (by omega)
  have e3 : y14 ≤ y11 := by rw [h14, h11]; exact one_le (by omega)
  clear h1 h3 h4 h6 h9 h11 h12 h14
  lia
theorem mono_21 {c0 c1 c2 c3 q : Int} (h : c2 ≤ c1) {y0 y1 y2 y3 y4 y5 y6 y7 y8 y9 y10 y11 y12 y13 y14 y15 : Int} (h2 : y2 = if 0 < 2 * (c1 + 0) - q then (1 : Int) else 0) (h3 : y3 = if 0 < 2 * (c0 + c1 + 0) - q then (1 : Int) else 0) (h4 : y4 = if 0 < 2 * (c2 + 0) - q then (1 : Int) else 0) (h5 : y5 = if 0 < 2 * (c0 + c2 + 0) - q then (1 : Int) else 0) (h10 : y10 = if 0 < 2 * (c1 + c3 + 0) - q then (1 : Int) else 0) (h11 : y11 = if 0 < 2 * (c0 + c1 + c3 + 0) - q then (1 : Int) else 0) (h12 : y12 = if 0 < 2 * (c2 + c3 + 0) - q then (1 : Int) else 0) (h13 : y13 = if 0 < 2 * (c0 + c2 + c3 + 0) - q then (1 : Int) else 0) : (-2) * y0 + (-2) * y1 + (-2) * y2 + (-2) * y3 + (2) * y4 + (2) * y5 + (2) * y6 + (2) * y7 + (-2) * y8 + (-2) * y9 + (-2) * y10 + (-2) * y11 + (2) * y12 + (2) * y13 + (2) * y14 + (2) * y15 ≤ (-2) * y0 + (-2) * y1 + (2) * y2 + (2) * y3 + (-2) * y4 + (-2) * y5 + (2) * y6 + (2) * y7 + (-2) * y8 + (-2) * y9 + (2) * y10 + (2) * y11 + (-2) * y12 + (-2) * y13 + (2) * y14 + (2) * y15 := by
  have e0 : y4 ≤ y2 := by rw [h4, h2]; exact one_le (by omega)
  have e1 : y5 ≤ y3 := by rw [h5, h3]; exact one_le (by omega)
  have e2 : y12 ≤ y10 := by rw [h12, h10]; exact one_le (by omega)
  have e3 : y13 ≤ y11 := by rw [h13, h11]; exact one_le (by omega)
  clear h2 h3 h4 h5 h10 h11 h12 h13
  lia
theorem mono_23 {c0 c1 c2 c3 q : Int} (h : c2 ≤ c3) {y0 y1 y2 y3 y4 y5 y6 y7 y8 y9 y10 y11 y12 y13 y14 y15 : Int} (h4 : y4 = if 0 < 2 * (c2 + 0) - q then (1 : Int) else 0) (h5 : y5 = if 0 < 2 * (c0 + c2 + 0) - q then (1 : Int) else 0) (h6 : y6 = if 0 < 2 * (c1 + c2 + 0) - q then (1 : Int) else 0) (h7 : y7 = if 0 < 2 * (c0 + c1 + c2 + 0) - q then (1 : Int) else 0) (h8 : y8 = if 0 < 2 * (c3 + 0) - q then (1 : Int) else 0) (h9 : y9 = if 0 < 2 * (c0 + c3 + 0) - q then (1 : Int) else 0) (h10 : y10 = if 0 < 2 * (c1 + c3 + 0) - q then (1 : Int) else 0) (h11 : y11 = if 0 < 2 * (c0 + c1 + c3 + 0) - q then (1 : Int) else 0) : (-2) * y0 + (-2) * y1 + (-2) * y2 + (-2) * y3 + (2) * y4 + (2) * y5 + (2) * y6 + (2) * y7 + (-2) * y8 + (-2) * y9 + (-2) * y10 + (-2) * y11 + (2) * y12 + (2) * y13 + (2) * y14 + (2) * y15 ≤ (-2) * y0 + (-2) * y1 + (-2) * y2 + (-2) * y3 + (-2) * y4 + (-2) * y5 + (-2) * y6 + (-2) * y7 + (2) * y8 + (2) * y9 + (2) * y10 + (2) * y11 + (2) * y12 + (2) * y13 + (2) * y14 + (2) * y15 := by
  have e0 : y4 ≤ y8 := by rw [h4, h8]; exact one_le (by omega)
  have e1 : y5 ≤ y9 := by rw [h5, h9]; exact one_le (by omega)
  have e2 : y6 ≤ y10 := by rw [h6, h10]; exact one_le (by omega)
  have e3 : y7 ≤ y11 := by rw [h7, h11]; exact one_le (by omega)
  clear h4 h5 h6 h7 h8 h9 h10 h11
  lia
theorem mono_24 {c0 c1 c2 c3 q : Int} (h : c2 ≤ 0) {y0 y1 y2 y3 y4 y5 y6 y7 y8 y9 y10 y11 y12 y13 y14 y15 : Int} (h0 : y0 = if 0 < 2 * 0 - q then (1 : Int) else 0) (h1 : y1 = if 0 < 2 * (c0 + 0) - q then (1 : Int) else 0) (h2 : y2 = if 0 < 2 * (c1 + 0) - q then (1 : Int) else 0) (h3 : y3 = if 0 < 2 * (c0 + c1 + 0) - q then (1 : Int) else 0) (h4 : y4 = if 0 < 2 * (c2 + 0) - q then (1 : Int) else 0) (h5 : y5 = if 0 < 2 * (c0 + c2 + 0) - q then (1 : Int) else 0) (h6 : y6 = if 0 < 2 * (c1 + c2 + 0) - q then (1 : Int) else 0) (h7 : y7 = if 0 < 2 * (c0 + c1 + c2 + 0) - q then (1 : Int) else 0) (h8 : y8 = if 0 < 2 * (c3 + 0) - q then (1 : Int) else 0) (h9 : y9 = if 0 < 2 * (c0 + c3 + 0) - q then (1 : Int) else 0) (h10 : y10 = if 0 < 2 * (c1 + c3 + 0) - q then (1 : Int) else 0) (h11 : y11 = if 0 < 2 * (c0 + c1 + c3 + 0) - q then (1 : Int) else 0) (h12 : y12 = if 0 < 2 * (c2 + c3 + 0) - q then (1 : Int) else 0) (h13 : y13 = if 0 < 2 * (c0 + c2 + c3 + 0) - q then (1 : Int) else 0) (h14 : y14 = if 0 < 2 * (c1 + c2 + c3 + 0) - q then (1 : Int) else 0) (h15 : y15 = if 0 < 2 * (c0 + c1 + c2 + c3 + 0) - q then (1 : Int) else 0) : (-2) * y0 + (-2) * y1 + (-2) * y2 + (-2) * y3 + (2) * y4 + (2) * y5 + (2) * y6 + (2) * y7 + (-2) * y8 + (-2) * y9 + (-2) * y10 + (-2) * y11 + (2) * y12 + (2) * y13 + (2) * y14 + (2) * y15 ≤ 64 * 0 := by
  have e0 : y4 ≤ y0 := by rw [h4, h0]; exact one_le (by omega)
  have e1 : y5 ≤ y1 := by rw [h5, h1]; exact one_le (by omega)
  have e2 : y6 ≤ y2 := by rw [h6, h2]; exact one_le (by omega)
  have e3 : y7 ≤ y3 := by rw [h7, h3]; exact one_le (by omega)
  have e4 : y12 ≤ y8 := by rw [h12, h8]; exact one_le (by omega)
  have e5 : y13 ≤ y9 := by rw [h13, h9]; exact one_le (by omega)
  have e6 : y14 ≤ y10 := by rw [h14, h10]; exact one_le (by omega)
  have e7 : y15 ≤ y11 := by rw [h15, h11]; exact one_le (by omega)
  clear h0 h1 h2 h3 h4 h5 h6 h7 h8 h9 h10 h11 h12 h13 h14 h15
  lia
theorem mono_30 {c0 c1 c2 c3 q : Int} (h : c3 ≤ c0) {y0 y1 y2 y3 y4 y5 y6 y7 y8 y9 y10 y11 y12 y13 y14 y15 : Int} (h1 : y1 = if 0 < 2 * (c0 + 0) - q then (1 : Int) else 0) (h3 : y3 = if 0 < 2 * (c0 + c1 + 0) - q then (1 : Int) else 0) (h5 : y5 = if 0 < 2 * (c0 + c2 + 0) - q then (1 : Int) else 0) (h7 : y7 = if 0 < 2 * (c0 + c1 + c2 + 0) - q then (1 : Int) else 0) (h8 : y8 = if 0 < 2 * (c3 + 0) - q then (1 : Int) else 0) (h10 : y10 = if 0 < 2 * (c1 + c3 + 0) - q then (1 : Int) else 0) (h12 : y12 = if 0 < 2 * (c2 + c3 + 0) - q then (1 : Int) else 0) (h14 : y14 = if 0 < 2 * (c1 + c2 + c3 + 0) - q then (1 : Int) else 0) : (-2) * y0 + (-2) * y1 + (-2) * y2 + (-2) * y3 + (-2) * y4 + (-2) * y5 + (-2) * y6 + (-2) * y7 + (2) * y8 + (2) * y9 + (2) * y10 + (2) * y11 + (2) * y12 + (2) * y13 + (2) * y14 + (2) * y15 ≤ (-2) * y0 + (2) * y1 + (-2) * y2 + (2) * y3 + (-2) * y4 + (2) * y5 + (-2) * y6 + (2) * y7 + (-2) * y8 + (2) * y9 + (-2) * y10 + (2) * y11 + (-2) * y12 + (2) * y13 + (-2) * y14 + (2) * y15 := by
  have e0 : y8 ≤ y1 := by rw [h8, h1]; exact one_le (by omega)
  have e1 : y10 ≤ y3 := by rw [h10, h3]; exact one_le (by omega)
  have e2 : y12 ≤ y5 := by rw [h12, h5]; exact one_le (by omega)
  have e3 : y14 ≤ y7 := by rw [h14, h7]; exact one_le (by omega)
  clear h1 h3 h5 h7 h8 h10 h12 h14
  lia
theorem mono_31 {c0 c1 c2 c3 q : Int} (h : c3 ≤ c1) {y0 y1 y2 y3 y4 y5 y6 y7 y8 y9 y10 y11 y12 y13 y14 y15 : Int} (h2 : y2 = if 0 < 2 * (c1 + 0) - q then (1 : Int) else 0) (h3 : y3 = if 0 < 2 * (c0 + c1 + 0) - q then (1 : Int) else 0) (h6 : y6 = if 0 < 2 * (c1 + c2 + 0) - q then (1 : Int) else 0) (h7 : y7 = if 0 < 2 * (c0 + c1 + c2 + 0) - q then (1 : Int) else 0) (h8 : y8 = if 0 < 2 * (c3 + 0) - q then (1 : Int) else 0) (h9 : y9 = if 0 < 2 * (c0 + c3 + 0) - q then (1 : Int) else 0) (h12 : y12 = if 0 < 2 * (c2 + c3 + 0) - q then (1 : Int) else 0) (h13 : y13 = if 0 < 2 * (c0 + c2 + c3 + 0) - q then (1 : Int) else 0) : (-2) * y0 + (-2) * y1 + (-2) * y2 + (-2) * y3 + (-2) * y4 + (-2) * y5 + (-2) * y6 + (-2) * y7 + (2) * y8 + (2) * y9 + (2) * y10 + (2) * y11 + (2) * y12 + (2) * y13 + (2) * y14 + (2) * y15 ≤ (-2) * y0 + (-2) * y1 + (2) * y2 + (2) * y3 + (-2) * y4 + (-2) * y5 + (2) * y6 + (2) * y7 + (-2) * y8 + (-2) * y9 + (2) * y10 + (2) * y11 + (-2) * y12 + (-2) * y13 + (2) * y14 + (2) * y15 := by
  have e0 : y8 ≤ y2 := by rw [h8, h2]; exact one_le (by omega)
  have e1 : y9 ≤ y3 := by rw [h9, h3]; exact one_le (by omega)
  have e2 : y12 ≤ y6 := by rw [h12, h6]; exact one_le (by omega)
  have e3 : y13 ≤ y7 := by rw [h13, h7]; exact one_le (by omega)
  clear h2 h3 h6 h7 h8 h9 h12 h13
  lia
theorem mono_32 {c0 c1 c2 c3 q : Int} (h : c3 ≤ c2) {y0 y1 y2 y3 y4 y5 y6 y7 y8 y9 y10 y11 y12 y13 y14 y15 : Int} (h4 : y4 = if 0 < 2 * (c2 + 0) - q then (1 : Int) else 0) (h5 : y5 = if 0 < 2 * (c0 + c2 + 0) - q then (1 : Int) else 0) (h6 : y6 = if 0 < 2 * (c1 + c2 + 0) - q then (1 : Int) else 0) (h7 : y7 = if 0 < 2 * (c0 + c1 + c2 + 0) - q then (1 : Int) else 0) (h8 : y8 = if 0 < 2 * (c3 + 0) - q then (1 : Int) else 0) (h9 : y9 = if 0 < 2 * (c0 + c3 + 0) - q then (1 : Int) else 0) (h10 : y10 = if 0 < 2 * (c1 + c3 + 0) - q then (1 : Int) else 0) (h11 : y11 = if 0 < 2 * (c0 + c1 + c3 + 0) - q then (1 : Int) else 0) : (-2) * y0 + (-2) * y1 + (-2) * y2 + (-2) * y3 + (-2) * y4 + (-2) * y5 + (-2) * y6 + (-2) * y7 + (2) * y8 + (2) * y9 + (2) * y10 + (2) * y11 + (2) * y12 + (2) * y13 + (2) * y14 + (2) * y15 ≤ (-2) * y0 + (-2) * y1 + (-2) * y2 + (-2) * y3 + (2) * y4 + (2) * y5 + (2) * y6 + (2) * y7 + (-2) * y8 + (-2) * y9 + (-2) * y10 + (-2) * y11 + (2) * y12 + (2) * y13 + (2) * y14 + (2) * y15 := by
  have e0 : y8 ≤ y4 := by rw [h8, h4]; exact one_le (by omega)
  have e1 : y9 ≤ y5 := by rw [h9, h5]; exact one_le (by omega)
  have e2 : y10 ≤ y6 := by rw [h10, h6]; exact one_le (by omega)
  have e3 : y11 ≤ y7 := by rw [h11, h7]; exact one_le (by omega)
  clear h4 h5 h6 h7 h8 h9 h10 h11
  lia
theorem mono_34 {c0 c1 c2 c3 q : Int} (h : c3 ≤ 0) {y0 y1 y2 y3 y4 y5 y6 y7 y8 y9 y10 y11 y12 y13 y14 y15 : Int} (h0 : y0 = if 0 < 2 * 0 - q then (1 : Int) else 0) (h1 : y1 = if 0 < 2 * (c0 + 0) - q then (1 : Int) else 0) (h2 : y2 = if 0 < 2 * (c1 + 0) - q then (1 : Int) else 0) (h3 : y3 = if 0 < 2 * (c0 + c1 + 0) - q then (1 : Int) else 0) (h4 : y4 = if 0 < 2 * (c2 + 0) - q then (1 : Int) else 0) (h5 : y5 = if 0 < 2 * (c0 + c2 + 0) - q then (1 : Int) else 0) (h6 : y6 = if 0 < 2 * (c1 + c2 + 0) - q then (1 : Int) else 0) (h7 : y7 = if 0 < 2 * (c0 + c1 + c2 + 0) - q then (1 : Int) else 0) (h8 : y8 = if 0 < 2 * (c3 + 0) - q then (1 : Int) else 0) (h9 : y9 = if 0 < 2 * (c0 + c3 + 0) - q then (1 : Int) else 0) (h10 : y10 = if 0 < 2 * (c1 + c3 + 0) - q then (1 : Int) else 0) (h11 : y11 = if 0 < 2 * (c0 + c1 + c3 + 0) - q then (1 : Int) else 0) (h12 : y12 = if 0 < 2 * (c2 + c3 + 0) - q then (1 : Int) else 0) (h13 : y13 = if 0 < 2 * (c0 + c2 + c3 + 0) - q then (1 : Int) else 0) (h14 : y14 = if 0 < 2 * (c1 + c2 + c3 + 0) - q then (1 : Int) else 0) (h15 : y15 = if 0 < 2 * (c0 + c1 + c2 + c3 + 0) - q then (1 : Int) else 0) : (-2) * y0 + (-2) * y1 + (-2) * y2 + (-2) * y3 + (-2) * y4 + (-2) * y5 + (-2) * y6 + (-2) * y7 + (2) * y8 + (2) * y9 + (2) * y10 + (2) * y11 + (2) * y12 + (2) * y13 + (2) * y14 + (2) * y15 ≤ 64 * 0 := by
  have e0 : y8 ≤ y0 := by rw [h8, h0]; exact one_le (by omega)
  have e1 : y9 ≤ y1 := by rw [h9, h1]; exact one_le (by omega)
  have e2 : y10 ≤ y2 := by rw [h10, h2]; exact one_le (by omega)
  have e3 : y11 ≤ y3 := by rw [h11, h3]; exact one_le (by omega)
  have e4 : y12 ≤ y4 := by rw [h12, h4]; exact one_le (by omega)
  have e5 : y13 ≤ y5 := by rw [h13, h5]; exact one_le (by omega)
  have e6 : y14 ≤ y6 := by rw [h14, h6]; exact one_le (by omega)
  have e7 : y15 ≤ y7 := by rw [h15, h7]; exact one_le (by omega)
  clear h0 h1 h2 h3 h4 h5 h6 h7 h8 h9 h10 h11 h12 h13 h14 h15
  lia
theorem mono_40 {c0 c1 c2 c3 q : Int} (h : 0 ≤ c0) {y0 y1 y2 y3 y4 y5 y6 y7 y8 y9 y10 y11 y12 y13 y14 y15 : Int} (h0 : y0 = if 0 < 2 * 0 - q then (1 : Int) else 0) (h1 : y1 = if 0 < 2 * (c0 + 0) - q then (1 : Int) else 0) (h2 : y2 = if 0 < 2 * (c1 + 0) - q then (1 : Int) else 0) (h3 : y3 = if 0 < 2 * (c0 + c1 + 0) - q then (1 : Int) else 0) (h4 : y4 = if 0 < 2 * (c2 + 0) - q then (1 : Int) else 0) (h5 : y5 = if 0 < 2 * (c0 + c2 + 0) - q then (1 : Int) else 0) (h6 : y6 = if 0 < 2 * (c1 + c2 + 0) - q then (1 : Int) else 0) (h7 : y7 = if 0 < 2 * (c0 + c1 + c2 + 0) - q then (1 : Int) else 0) (h8 : y8 = if 0 < 2 * (c3 + 0) - q then (1 : Int) else 0) (h9 : y9 = if 0 < 2 * (c0 + c3 + 0) - q then (1 : Int) else 0) (h10 : y10 = if 0 < 2 * (c1 + c3 + 0) - q then (1 : Int) else 0) (h11 : y11 = if 0 < 2 * (c0 + c1 + c3 + 0) - q then (1 : Int) else 0) (h12 : y12 = if 0 < 2 * (c2 + c3 + 0) - q then (1 : Int) else 0) (h13 : y13 = if 0 < 2 * (c0 + c2 + c3 + 0) - q then (1 : Int) else 0) (h14 : y14 = if 0 < 2 * (c1 + c2 + c3 + 0) - q then (1 : Int) else 0) (h15 : y15 = if 0 < 2 * (c0 + c1 + c2 + c3 + 0) - q then (1 : Int) else 0) : 64 * 0 ≤ (-2) * y0 + (2) * y1 + (-2) * y2 + (2) * y3 + (-2) * y4 + (2) * y5 + (-2) * y6 + (2) * y7 + (-2) * y8 + (2) * y9 + (-2) * y10 + (2) * y11 + (-2) * y12 + (2) * y13 + (-2) * y14 + (2) * y15 := by
  have e0 : y0 ≤ y1 := by rw [h0, h1]; exact one_le (by omega)
  have e1 : y2 ≤ y3 := by rw [h2, h3]; exact one_le (by omega)
  have e2 : y4 ≤ y5 := by rw [h4, h5]; exact one_le (by omega)
  have e3 : y6 ≤ y7 := by rw [h6, h7]; exact one_le (by omega)
  have e4 : y8 ≤ y9 := by rw [h8, h9]; exact one_le (by omega)
  have e5 : y10 ≤ y11 := by rw [h10, h11]; exact one_le (by omega)
  have e6 : y12 ≤ y13 := by rw [h12, h13]; exact one_le (by omega)
  have e7 : y14 ≤ y15 := by rw [h14, h15]; exact one_le (by omega)
  clear h0 h1 h2 h3 h4 h5 h6 h7 h8 h9 h10 h11 h12 h13 h14 h15
  lia
theorem mono_41 {c0 c1 c2 c3 q : Int} (h : 0 ≤ c1) {y0 y1 y2 y3 y4 y5 y6 y7 y8 y9 y10 y11 y12 y13 y14 y15 : Int} (h0 : y0 = if 0 < 2 * 0 - q then (1 : Int) else 0) (h1 : y1 = if 0 < 2 * (c0 + 0) - q then (1 : Int) else 0) (h2 : y2 = if 0 < 2 * (c1 + 0) - q then (1 : Int) else 0) (h3 : y3 = if 0 < 2 * (c0 + c1 + 0) - q then (1 : Int) else 0) (h4 : y4 = if 0 < 2 * (c2 + 0) - q then (1 : Int) else 0) (h5 : y5 = if 0 < 2 * (c0 + c2 + 0) - q then (1 : Int) else 0) (h6 : y6 = if 0 < 2 * (c1 + c2 + 0) - q then (1 : Int) else 0) (h7 : y7 = if 0 < 2 * (c0 + c1 + c2 + 0) - q then (1 : Int) else 0) (h8 : y8 = if 0 < 2 * (c3 + 0) - q then (1 : Int) else 0) (h9 : y9 = if 0 < 2 * (c0 + c3 + 0) - q then (1 : Int) else 0) (h10 : y10 = if 0 < 2 * (c1 + c3 + 0) - q then (1 : Int) else 0) (h11 : y11 = if 0 < 2 * (c0 + c1 + c3 + 0) - q then (1 : Int) else 0) (h12 : y12 = if 0 < 2 * (c2 + c3 + 0) - q then (1 : Int) else 0) (h13 : y13 = if 0 < 2 * (c0 + c2 + c3 + 0) - q then (1 : Int) else 0) (h14 : y14 = if 0 < 2 * (c1 + c2 + c3 + 0) - q then (1 : Int) else 0) (h15 : y15 = if 0 < 2 * (c0 + c1 + c2 + c3 + 0) - q then (1 : Int) else 0) : 64 * 0 ≤ (-2) * y0 + (-2) * y1 + (2) * y2 + (2) * y3 + (-2) * y4 + (-2) * y5 + (2) * y6 + (2) * y7 + (-2) * y8 + (-2) * y9 + (2) * y10 + (2) * y11 + (-2) * y12 + (-2) * y13 + (2) * y14 + (2) * y15 := by
  have e0 : y0 ≤ y2 := by rw [h0, h2]; exact one_le (by omega)
  have e1 : y1 ≤ y3 := by rw [h1, h3]; exact one_le (by omega)
  have e2 : y4 ≤ y6 := by rw [h4, h6]; exact one_le (by omega)
  have e3 : y5 ≤ y7 := by rw [h5, h7]; exact one_le (by omega)
  have e4 : y8 ≤ y10 := by rw [h8, h10]; exact one_le (by omega)
  have e5 : y9 ≤ y11 := by rw [h9, h11]; exact one_le (by omega)
  have e6 : y12 ≤ y14 := by rw [h12, h14]; exact one_le (by omega)
  have e7 : y13 ≤ y15 := by rw [h13, h15]; exact one_le (by omega)
  clear h0 h1 h2 h3 h4 h5 h6 h7 h8 h9 h10 h11 h12 h13 h14 h15
  lia
theorem mono_42 {c0 c1 c2 c3 q : Int} (h : 0 ≤ c2) {y0 y1 y2 y3 y4 y5 y6 y7 y8 y9 y10 y11 y12 y13 y14 y15 : Int} (h0 : y0 = if 0 < 2 * 0 - q then (1 : Int) else 0) (h1 : y1 = if 0 < 2 * (c0 + 0) - q then (1 : Int) else 0) (h2 : y2 = if 0 < 2 * (c1 + 0) - q then (1 : Int) else 0) (h3 : y3 = if 0 < 2 * (c0 + c1 + 0) - q then (1 : Int) else 0) (h4 : y4 = if 0 < 2 * (c2 + 0) - q then (1 : Int) else 0) (h5 : y5 = if 0 < 2 * (c0 + c2 + 0) - q then (1 : Int) else 0) (h6 : y6 = if 0 < 2 * (c1 + c2 + 0) - q then (1 : Int) else 0) (h7 : y7 = if 0 < 2 * (c0 + c1 + c2 + 0) - q then (1 : Int) else 0) (h8 : y8 = if 0 < 2 * (c3 + 0) - q then (1 : Int) else 0) (h9 : y9 = if 0 < 2 * (c0 + c3 + 0) - q then (1 : Int) else 0) (h10 : y10 = if 0 < 2 * (c1 + c3 + 0) - q then (1 : Int) else 0) (h11 : y11 = if 0 < 2 * (c0 + c1 + c3 + 0) - q then (1 : Int) else 0) (h12 : y12 = if 0 < 2 * (c2 + c3 + 0) - q then (1 : Int) else 0) (h13 : y13 = if 0 < 2 * (c0 + c2 + c3 + 0) - q then (1 : Int) else 0) (h14 : y14 = if 0 < 2 * (c1 + c2 + c3 + 0) - q then (1 : Int) else 0) (h15 : y15 = if 0 < 2 * (c0 + c1 + c2 + c3 + 0) - q then (1 : Int) else 0) : 64 * 0 ≤ (-2) * y0 + (-2) * y1 + (-2) * y2 + (-2) * y3 + (2) * y4 + (2) * y5 + (2) * y6 + (2) * y7 + (-2) * y8 + (-2) * y9 + (-2) * y10 + (-2) * y11 + (2) * y12 + (2) * y13 + (2) * y14 + (2) * y15 := by
  have e0 : y0 ≤ y4 := by rw [h0, h4]; exact one_le (by omega)
  have e1 : y1 ≤ y5 := by rw [h1, h5]; exact one_le (by omega)
  have e2 : y2 ≤ y6 := by rw [h2, h6]; exact one_le (by omega)
  have e3 : y3 ≤ y7 := by rw [h3, h7]; exact one_le (by omega)
  have e4 : y8 ≤ y12 := by rw [h8, h12]; exact one_le (by omega)
  have e5 : y9 ≤ y13 := by rw [h9, h13]; exact one_le (by omega)
  have e6 : y10 ≤ y14 := by rw [h10, h14]; exact one_le (by omega)
  have e7 : y11 ≤ y15 := by rw [h11, h15]; exact one_le (by omega)
  clear h0 h1 h2 h3 h4 h5 h6 h7 h8 h9 h10 h11 h12 h13 h14 h15
  lia
theorem mono_43 {c0 c1 c2 c3 q : Int} (h : 0 ≤ c3) {y0 y1 y2 y3 y4 y5 y6 y7 y8 y9 y10 y11 y12 y13 y14 y15 : Int} (h0 : y0 = if 0 < 2 * 0 - q then (1 : Int) else 0) (h1 : y1 = if 0 < 2 * (c0 + 0) - q then (1 : Int) else 0) (h2 : y2 = if 0 < 2 * (c1 + 0) - q then (1 : Int) else 0) (h3 : y3 = if 0 < 2 * (c0 + c1 + 0) - q then (1 : Int) else 0) (h4 : y4 = if 0 < 2 * (c2 + 0) - q then (1 : Int) else 0) (h5 : y5 = if 0 < 2 * (c0 + c2 + 0) - q then (1 : Int) else 0) (h6 : y6 = if 0 < 2 * (c1 + c2 + 0) - q then (1 : Int) else 0) (h7 : y7 = if 0 < 2 * (c0 + c1 + c2 + 0) - q then (1 : Int) else 0) (h8 : y8 = if 0 < 2 * (c3 + 0) - q then (1 : Int) else 0) (h9 : y9 = if 0 < 2 * (c0 + c3 + 0) - q then (1 : Int) else 0) (h10 : y10 = if 0 < 2 * (c1 + c3 + 0) - q then (1 : Int) else 0) (h11 : y11 = if 0 < 2 * (c0 + c1 + c3 + 0) - q then (1 : Int) else 0) (h12 : y12 = if 0 < 2 * (c2 + c3 + 0) - q then (1 : Int) else 0) (h13 : y13 = if 0 < 2 * (c0 + c2 + c3 + 0) - q then (1 : Int) else 0) (h14 : y14 = if 0 < 2 * (c1 + c2 + c3 + 0) - q then (1 : Int) else 0) (h15 : y15 = if 0 < 2 * (c0 + c1 + c2 + c3 + 0) - q then (1 : Int) else 0) : 64 * 0 ≤ (-2) * y0 + (-2) * y1 + (-2) * y2 + (-2) * y3 + (-2) * y4 + (-2) * y5 + (-2) * y6 + (-2) * y7 + (2) * y8 + (2) * y9 + (2) * y10 + (2) * y11 + (2) * y12 + (2) * y13 + (2) * y14 + (2) * y15 := by
  have e0 : y0 ≤ y8 := by rw [h0, h8]; exact one_le (by omega)
  have e1 : y1 ≤ y9 := by rw [h1, h9]; exact one_le (by omega)
  have e2 : y2 ≤ y10 := by rw [h2, h10]; exact one_le (by omega)
  have e3 : y3 ≤ y11 := by rw [h3, h11]; exact one_le (by omega)
  have e4 : y4 ≤ y12 := by rw [h4, h12]; exact one_le (by omega)
  have e5 : y5 ≤ y13 := by rw [h5, h13]; exact one_le (by omega)
  have e6 : y6 ≤ y14 := by rw [h6, h14]; exact one_le (by omega)
  have e7 : y7 ≤ y15 := by rw [h7, h15]; exact one_le (by omega)
  clear h0 h1 h2 h3 h4 h5 h6 h7 h8 h9 h10 h11 h12 h13 h14 h15
  lia
theorem law_mono {c0 c1 c2 c3 q b : Int} {ld fs tF wl : List Int} (hle : (rangeKs 0 16).map (leadV [c0, c1, c2, c3, q, b]) = ld) (hfe : ld.map (fun k => if 0 < k then (1 : Int) else 0) = fs) (hte : toldL fs 4 = tF) (hwe : List.take 4 [c0, c1, c2, c3, q, b] ++ [0] = wl) :
    ∀ i j : Nat, i < 5 → j < 5 → wl.getD i 0 ≤ wl.getD j 0 → [tF.getD 1 0, tF.getD 3 0, tF.getD 5 0, tF.getD 7 0, 64 * 0].getD i 0 ≤ [tF.getD 1 0, tF.getD 3 0, tF.getD 5 0, tF.getD 7 0, 64 * 0].getD j 0 := by
  have hf := fs_is hle hfe
  obtain ⟨y0, h0⟩ : ∃ y : Int, y = if 0 < 2 * 0 - q then (1 : Int) else 0 := ⟨_, rfl⟩
  obtain ⟨y1, h1⟩ : ∃ y : Int, y = if 0 < 2 * (c0 + 0) - q then (1 : Int) else 0 := ⟨_, rfl⟩
  obtain ⟨y2, h2⟩ : ∃ y : Int, y = if 0 < 2 * (c1 + 0) - q then (1 : Int) else 0 := ⟨_, rfl⟩
  obtain ⟨y3, h3⟩ : ∃ y : Int, y = if 0 < 2 * (c0 + c1 + 0) - q then (1 : Int) else 0 := ⟨_, rfl⟩
  obtain ⟨y4, h4⟩ : ∃ y : Int, y = if 0 < 2 * (c2 + 0) - q then (1 : Int) else 0 := ⟨_, rfl⟩
  obtain ⟨y5, h5⟩ : ∃ y : Int, y = if 0 < 2 * (c0 + c2 + 0) - q then (1 : Int) else 0 := ⟨_, rfl⟩
  obtain ⟨y6, h6⟩ : ∃ y : Int, y = if 0 < 2 * (c1 + c2 + 0) - q then (1 : Int) else 0 := ⟨_, rfl⟩
  obtain ⟨y7, h7⟩ : ∃ y : Int, y = if 0 < 2 * (c0 + c1 + c2 + 0) - q then (1 : Int) else 0 := ⟨_, rfl⟩
  obtain ⟨y8, h8⟩ : ∃ y : Int, y = if 0 < 2 * (c3 + 0) - q then (1 : Int) else 0 := ⟨_, rfl⟩
  obtain ⟨y9, h9⟩ : ∃ y : Int, y = if 0 < 2 * (c0 + c3 + 0) - q then (1 : Int) else 0 := ⟨_, rfl⟩
  obtain ⟨y10, h10⟩ : ∃ y : Int, y = if 0 < 2 * (c1 + c3 + 0) - q then (1 : Int) else 0 := ⟨_, rfl⟩
  obtain ⟨y11, h11⟩ : ∃ y : Int, y = if 0 < 2 * (c0 + c1 + c3 + 0) - q then (1 : Int) else 0 := ⟨_, rfl⟩
  obtain ⟨y12, h12⟩ : ∃ y : Int, y = if 0 < 2 * (c2 + c3 + 0) - q then (1 : Int) else 0 := ⟨_, rfl⟩
  obtain ⟨y13, h13⟩ : ∃ y : Int, y = if 0 < 2 * (c0 + c2 + c3 + 0) - q then (1 : Int) else 0 := ⟨_, rfl⟩
  obtain ⟨y14, h14⟩ : ∃ y : Int, y = if 0 < 2 * (c1 + c2 + c3 + 0) - q then (1 : Int) else 0 := ⟨_, rfl⟩
  obtain ⟨y15, h15⟩ : ∃ y : Int, y = if 0 < 2 * (c0 + c1 + c2 + c3 + 0) - q then (1 : Int) else 0 := ⟨_, rfl⟩
  rw [← h0, ← h1, ← h2, ← h3, ← h4, ← h5, ← h6, ← h7, ← h8, ← h9, ← h10, ← h11, ← h12, ← h13, ← h14, ← h15] at hf
  rw [hf, told_16] at hte
  subst hte
  subst hwe
  intro i j hi hj hw
  match i, j, hi, hj with
  | 0, 0, _, _ => exact Int.le_refl _
  | 0, 1, _, _ => exact mono_01 (show c0 ≤ c1 from hw) h1 h2 h5 h6 h9 h10 h13 h14
  | 0, 2, _, _ => exact mono_02 (show c0 ≤ c2 from hw) h1 h3 h4 h6 h9 h11 h12 h14
  | 0, 3, _, _ => exact mono_03 (show c0 ≤ c3 from hw) h1 h3 h5 h7 h8 h10 h12 h14
  | 0, 4, _, _ => exact mono_04 (show c0 ≤ 0 from hw) h0 h1 h2 h3 h4 h5 h6 h7 h8 h9 h10 h11 h12 h13 h14 h15
  | 1, 0, _, _ => exact mono_10 (show c1 ≤ c0 from hw) h1 h2 h5 h6 h9 h10 h13 h14
  | 1, 1, _, _ => exact Int.le_refl _
  | 1, 2, _, _ => exact mono_12 (show c1 ≤ c2 from hw) h2 h3 h4 h5 h10 h11 h12 h13
  | 1, 3, _, _ => exact mono_13 (show c1 ≤ c3 from hw) h2 h3 h6 h7 h8 h9 h12 h13
  | 1, 4, _, _ => exact mono_14 (show c1 ≤ 0 from hw) h0 h1 h2 h3 h4 h5 h6 h7 h8 h9 h10 h11 h12 h13 h14 h15
  | 2, 0, _, _ => exact mono_20 (show c2 ≤ c0 from hw) h1 h3 h4 h6 h9 h11 h12 h14
  | 2, 1, _, _ => exact mono_21 (show c2 ≤ c1 from hw) h2 h3 h4 h5 h10 h11 h12 h13
  | 2, 2, _, _ => exact Int.le_refl _
  | 2, 3, _, _ => exact mono_23 (show c2 ≤ c3 from hw) h4 h5 h6 h7 h8 h9 h10 h11
  | 2, 4, _, _ => exact mono_24 (show c2 ≤ 0 from hw) h0 h1 h2 h3 h4 h5 h6 h7 h8 h9 h10 h11 h12 h13 h14 h15
  | 3, 0, _, _ => exact mono_30 (show c3 ≤ c0 from hw) h1 h3 h5 h7 h8 h10 h12 h14
  | 3, 1, _, _ => exact mono_31 (show c3 ≤ c1 from hw) h2 h3 h6 h7 h8 h9 h12 h13
  | 3, 2, _, _ => exact mono_32 (show c3 ≤ c2 from hw) h4 h5 h6 h7 h8 h9 h10 h11
  | 3, 3, _, _ => exact Int.le_refl _
  | 3, 4, _, _ => exact mono_34 (show c3 ≤ 0 from hw) h0 h1 h2 h3 h4 h5 h6 h7 h8 h9 h10 h11 h12 h13 h14 h15
  | 4, 0, _, _ => exact mono_40 (show 0 ≤ c0 from hw) h0 h1 h2 h3 h4 h5 h6 h7 h8 h9 h10 h11 h12 h13 h14 h15
  | 4, 1, _, _ => exact mono_41 (show 0 ≤ c1 from hw) h0 h1 h2 h3 h4 h5 h6 h7 h8 h9 h10 h11 h12 h13 h14 h15
  | 4, 2, _, _ => exact mono_42 (show 0 ≤ c2 from hw) h0 h1 h2 h3 h4 h5 h6 h7 h8 h9 h10 h11 h12 h13 h14 h15
  | 4, 3, _, _ => exact mono_43 (show 0 ≤ c3 from hw) h0 h1 h2 h3 h4 h5 h6 h7 h8 h9 h10 h11 h12 h13 h14 h15
  | 4, 4, _, _ => exact Int.le_refl _
  | i + 5, _, h, _ => exact absurd h (by omega)
  | _, j + 5, _, h => exact absurd h (by omega)
end Mine
end

section
namespace Mine
open PySem PySem.W PySem.Calls PyProof.Rows
def scoreV (c0 c1 c2 c3 q : Int) (ts : List Int) : Int := 8 * (4 * c0 * ts.getD 1 0 + 4 * c1 * ts.getD 3 0 + 4 * c2 * ts.getD 5 0 + 4 * c3 * ts.getD 7 0 + 2 * (c0 + c1 + c2 + c3 - q) * ts.getD 0 0)
def dotp (ys ld : List Int) : Int := (List.zipWith (fun y a => y * a) ys ld).sum
theorem score_lin {c0 c1 c2 c3 q b : Int} {ld ys : List Int} (hle : (rangeKs 0 16).map (leadV [c0, c1, c2, c3, q, b]) = ld) (h : ys.length = 16) : scoreV c0 c1 c2 c3 q (toldL ys 4) = 64 * dotp ys ld := by
  rw [leads_is] at hle
  subst hle
  obtain ⟨y0, y1, y2, y3, y4, y5, y6, y7, y8, y9, y10, y11, y12, y13, y14, y15, rfl⟩ := ex16 h
  rw [told_16]
  simp only [scoreV, List.getD_cons_zero, List.getD_cons_succ, dotp, List.zipWith_cons_cons, List.zipWith_nil_left, List.sum_cons, List.sum_nil]
  grind
def absV (a : Int) : Int := if a < 0 then -a else a
def posV (a : Int) : Int := if 0 < a then 1 else 0
def misV (a g : Int) : Int := if (posV a != g) then absV a else 0
theorem sum_filter {p : Int → Bool} {g : Int → Int} : ∀ {ks : List Int}, ((ks.filter p).map g).sum = (ks.map fun k => if p k then g k else 0).sum
  | [] => rfl
  | k :: ks => by
    have ih := sum_filter (p := p) (g := g) (ks := ks)
    rw [List.map_cons, List.sum_cons, ← ih]
    cases h : p k with
    | true => simp [h]
    | false => simp [h]
theorem mis_is {a g : Int} (hg : g = 0 ∨ g = 1) : posV a * a - g * a = misV a g := by
  unfold misV absV posV
  split <;> rcases hg with rfl | rfl <;> simp <;> (try split) <;> omega
theorem mis_nonneg (a g : Int) : 0 ≤ misV a g := by
  unfold misV absV
  repeat (first | omega | split)
theorem mis_zero {a g : Int} (ha : a ≠ 0) (h : misV a g = 0) : posV a = g := by
  unfold misV absV at h
  by_cases e : posV a = g
  · exact e
  · rw [if_pos (by simpa using e)] at h
    split at h <;> omega
theorem dotp_mis : ∀ {ld gs : List Int}, ld.length = gs.length → (∀ g ∈ gs, g = 0 ∨ g = 1) → dotp (ld.map posV) ld - dotp gs ld = (List.zipWith misV ld gs).sum
  | [], [], _, _ => rfl
  | [], _ :: _, h, _ => by cases h
  | _ :: _, [], h, _ => by cases h
  | a :: ld, g :: gs, h, h1 => by
    have ih := dotp_mis (ld := ld) (gs := gs) (Nat.succ.inj h) fun g hg => h1 g (List.mem_cons_of_mem _ hg)
    have e := mis_is (a := a) (h1 g (List.mem_cons_self ..))
    unfold dotp at ih ⊢
    simp only [List.map_cons, List.zipWith_cons_cons, List.sum_cons]
    rw [← e, ← ih]
    omega
theorem mis_sum : ∀ (ld gs : List Int), 0 ≤ (List.zipWith misV ld gs).sum
  | [], _ => by simp
  | _ :: _, [] => by simp
  | a :: ld, g :: gs => by
    rw [List.zipWith_cons_cons, List.sum_cons]
    exact Int.add_nonneg (mis_nonneg a g) (mis_sum ld gs)
theorem mis_all : ∀ {ld gs : List Int}, ld.length = gs.length → (∀ a ∈ ld, a ≠ 0) → (List.zipWith misV ld gs).sum = 0 → ld.map posV = gs
  | [], [], _, _, _ => rfl
  | [], _ :: _, h, _, _ => by cases h
  | _ :: _, [], h, _, _ => by cases h
  | a :: ld, g :: gs, h, h1, e => by
    rw [List.zipWith_cons_cons, List.sum_cons] at e
    have n1 := mis_nonneg a g
    have n2 := mis_sum ld gs
    have z1 : misV a g = 0 := by omega
    have z2 : (List.zipWith misV ld gs).sum = 0 := by omega
    rw [List.map_cons, mis_zero (h1 a (List.mem_cons_self ..)) z1, mis_all (Nat.succ.inj h) (fun x hx => h1 x (List.mem_cons_of_mem _ hx)) z2]
theorem missed_16 {ld gs : List Int} (hl : ld.length = 16) (hg : gs.length = 16) : (((rangeKs 0 16).filter fun k => (ld.map posV).getD k.toNat 0 != gs.getD k.toNat 0).map fun k => absV (ld.getD k.toNat 0)).sum = (List.zipWith misV ld gs).sum := by
  obtain ⟨y0, y1, y2, y3, y4, y5, y6, y7, y8, y9, y10, y11, y12, y13, y14, y15, rfl⟩ := ex16 hl
  obtain ⟨g0, g1, g2, g3, g4, g5, g6, g7, g8, g9, g10, g11, g12, g13, g14, g15, rfl⟩ := ex16 hg
  rw [sum_filter]
  rfl
theorem lead_odd {c0 c1 c2 c3 q b : Int} {ld : List Int} (hle : (rangeKs 0 16).map (leadV [c0, c1, c2, c3, q, b]) = ld) (hq : ∃ r, q = 2 * r - 31 ∧ 0 ≤ r ∧ r < 33) : ∀ a ∈ ld, a ≠ 0 := by
  obtain ⟨r, hr, -⟩ := hq
  intro a ha
  rw [← hle] at ha
  obtain ⟨k, _, rfl⟩ := List.mem_map.mp ha
  have e : leadV [c0, c1, c2, c3, q, b] k = 2 * (((rangeKs 0 4).filter fun v => Builtin.bitAnd (k.fdiv (2 ^ v.toNat)) 1 == 1).map fun v => [c0, c1, c2, c3, q, b].getD v.toNat 0).sum - q := rfl
  rw [e]
  omega
theorem lead_len {cs ld : List Int} (hle : (rangeKs 0 16).map (leadV cs) = ld) : ld.length = 16 := by rw [← hle, List.length_map, rangeKs_length]
theorem law_missed {c0 c1 c2 c3 q b : Int} {ld fs gs : List Int} (hle : (rangeKs 0 16).map (leadV [c0, c1, c2, c3, q, b]) = ld) (hfe : ld.map (fun k => if 0 < k then (1 : Int) else 0) = fs) (hgl : gs.length = 16) (hg1 : ∀ n ∈ gs, n = 0 ∨ n = 1) :
    scoreV c0 c1 c2 c3 q (toldL fs 4) - scoreV c0 c1 c2 c3 q (toldL gs 4) = 64 * (((rangeKs 0 16).filter fun k => fs.getD k.toNat 0 != gs.getD k.toNat 0).map fun k => absV (ld.getD k.toNat 0)).sum := by
  have hll := lead_len hle
  have hfe : ld.map posV = fs := hfe
  subst hfe
  rw [score_lin hle (by rw [List.length_map, hll]), score_lin hle hgl, missed_16 hll hgl, ← dotp_mis (hll.trans hgl.symm) hg1]
  omega
theorem law_same {c0 c1 c2 c3 q b : Int} {ld fs gs : List Int} (hle : (rangeKs 0 16).map (leadV [c0, c1, c2, c3, q, b]) = ld) (hfe : ld.map (fun k => if 0 < k then (1 : Int) else 0) = fs) (hgl : gs.length = 16) (hg1 : ∀ n ∈ gs, n = 0 ∨ n = 1)
    (hq : ∃ r, q = 2 * r - 31 ∧ 0 ≤ r ∧ r < 33) : decide (toldL fs 4 = toldL gs 4) = decide (fs = gs) := by
  refine decide_eq_decide.mpr ⟨fun h => ?_, fun h => by rw [h]⟩
  have hll := lead_len hle
  have hfe : ld.map posV = fs := hfe
  subst hfe
  have hs := congrArg (scoreV c0 c1 c2 c3 q) h
  rw [score_lin hle (by rw [List.length_map, hll]), score_lin hle hgl] at hs
  have hd := dotp_mis (hll.trans hgl.symm) hg1
  exact mis_all (hll.trans hgl.symm) (lead_odd hle hq) (by omega)
theorem told_bound {ys : List Int} (hl : ys.length = 16) (h1 : ∀ n ∈ ys, n = 0 ∨ n = 1) (i : Nat) : ((toldL ys 4).getD i 0).natAbs ≤ 200 := by
  have hs := ints_sum h1
  have key : ∀ k, k ≤ 4 → ∀ n ∈ toldL ys k, n.natAbs ≤ 200 := by
    intro k
    induction k with
    | zero =>
      intro _ n hn
      rw [toldL] at hn
      rw [List.mem_singleton.mp hn]
      omega
    | succ k ih =>
      intro hk n hn
      rw [toldL] at hn
      have hf := xsV_facts ⟨k, by omega⟩
      have hd := dot_bound hf.2.1 h1 hf.1
      dsimp only at hd
      rcases List.mem_append.mp hn with hn | hn
      · exact ih (by omega) n hn
      · simp only [List.mem_cons, List.not_mem_nil, or_false] at hn
        rcases hn with rfl | rfl <;> omega
  rw [List.getD_eq_getElem?_getD]
  cases h : (toldL ys 4)[i]? with
  | none => decide
  | some v => exact key 4 (Nat.le_refl _) v (List.mem_of_getElem? h)
theorem score_bound {c0 c1 c2 c3 q : Int} {ts : List Int} (h0 : -8 ≤ c0 ∧ c0 ≤ 8) (h1 : -8 ≤ c1 ∧ c1 ≤ 8) (h2 : -8 ≤ c2 ∧ c2 ≤ 8) (h3 : -8 ≤ c3 ∧ c3 ≤ 8) (hq : -31 ≤ q ∧ q ≤ 33) (htb : ∀ i, (ts.getD i 0).natAbs ≤ 200) : (scoreV c0 c1 c2 c3 q ts).natAbs ≤ 2000000 := by
  unfold scoreV
  have p0 : (4 * c0 * ts.getD 1 0).natAbs ≤ 32 * 200 := by rw [Int.natAbs_mul]; exact Nat.mul_le_mul (by omega) (htb _)
  have p1 : (4 * c1 * ts.getD 3 0).natAbs ≤ 32 * 200 := by rw [Int.natAbs_mul]; exact Nat.mul_le_mul (by omega) (htb _)
  have p2 : (4 * c2 * ts.getD 5 0).natAbs ≤ 32 * 200 := by rw [Int.natAbs_mul]; exact Nat.mul_le_mul (by omega) (htb _)
  have p3 : (4 * c3 * ts.getD 7 0).natAbs ≤ 32 * 200 := by rw [Int.natAbs_mul]; exact Nat.mul_le_mul (by omega) (htb _)
  have p4 : (2 * (c0 + c1 + c2 + c3 - q) * ts.getD 0 0).natAbs ≤ 200 * 200 := by rw [Int.natAbs_mul]; exact Nat.mul_le_mul (by omega) (htb _)
  generalize 4 * c0 * ts.getD 1 0 = a0 at *
  generalize 4 * c1 * ts.getD 3 0 = a1 at *
  generalize 4 * c2 * ts.getD 5 0 = a2 at *
  generalize 4 * c3 * ts.getD 7 0 = a3 at *
  generalize 2 * (c0 + c1 + c2 + c3 - q) * ts.getD 0 0 = a4 at *
  omega
end Mine
end

section
open PySem PySem.W PySem.Calls PyProof.Rows
namespace Mine
theorem news_swap {g h : Heap} {L : Addr} {a : Addr × Obj} {tl r : List (Addr × Obj)} (N : News g L h (a :: tl ++ r)) : News g L h (a :: r ++ tl) := fun p hp => N p (by
  rcases List.mem_append.mp hp with hp | hp
  · rcases List.mem_cons.mp hp with e | hp
    · rw [e]; exact List.mem_append_left _ (List.mem_cons_self ..)
    · exact List.mem_append_right _ hp
  · exact List.mem_append_left _ (List.mem_cons_of_mem _ hp))
theorem fls_lt {vs : List Value} {ns : List Int} {a b : Tok} (h : Fls vs ns) (hn : ns.length = 9) (k : TkIn a b vs) : @LT.lt Nat _ a b := by
  cases h with
  | nil => cases hn
  | cons _ _ =>
    have := k _ (List.mem_cons_self ..) _ _ rfl
    exact Nat.lt_of_le_of_lt this.1 this.2
theorem cmp_self (a : Int) : (some (compare a a) != some Ordering.eq) = false := by
  rw [show compare a a = .eq from Int.compare_eq_eq.mpr rfl]; rfl
theorem execs_consT {M : Model} {A : Around} {E : Value → Shared → Prop} {s : Shared} {env : Env} {st : Stmt} {rest : List Stmt} {Q : Flow → Shared → Prop}
    (h : wpAny M A (exec st env) (fun f s' => match f with | .next => (@LE.le Nat _ s.toks s'.toks → wpAny M A (execs rest env) Q E s') | f => Q f s') E s) :
    wpAny M A (execs (st :: rest) env) Q E s := by
  refine wpAny_execs_cons (wpAny_mono (wpAny_toks h) (fun f s' x => ?_) (fun e s' x => x.2))
  obtain ⟨x1, x2⟩ := x
  cases f with
  | next => exact x2 x1
  | _ => exact x2
local macro_rules | `(tactic| walk_at "execs cons") => `(tactic| (k_here; (fail_if_success (fail_if_success k_gentoks)); refine gen_toksE ?_; intro tk' etk'; (try dsimp only at etk')))
local macro_rules | `(tactic| walk_at "execs nil") => `(tactic| (k_here; (fail_if_success (fail_if_success k_gentoks)); refine gen_toksE ?_; intro tk' etk'; (try dsimp only at etk')))
local macro_rules | `(tactic| k_all) => `(tactic| first | assumption | exact all_ne (by assumption) (by (try dsimp only); omega))
local macro_rules | `(tactic| walk_at "call builtin:len") => `(tactic| (k_here; (with_reducible show wpAny _ _ (call (Value.builtin "len") [Value.ref _]) _ _ _); k_dflt (refine' m_len ?k1 ?k2 ?k3 ?k4 ?_; (case k1 => k_asm); (case k2 => k_mem); (case k3 => assumption); (case k4 => decide); k_whole)))
local macro_rules | `(tactic| walk_at "call builtin:math.fsum") => `(tactic| (k_here; (with_reducible show wpAny _ _ (call (Value.builtin "math.fsum") [Value.ref _]) _ _ _); k_dflt (refine' wpAny_with_toks (Nat.le_refl _) (m_fsum ?k0 ?k1 ?k2 ?k3 ?k4 ?k5 ?k6 ?_); (case k0 => exact rfl); (case k1 => k_asm); (case k2 => k_asm); (case k3 => k_mem); (case k4 => assumption); (case k5 => assumption); (case k6 => omega); k_whole); intro h' tk x' t' hx' F' N' hle'; (try dsimp only at hle')))
local macro_rules | `(tactic| walk_at "binaryOp Div float int") => `(tactic| (k_here; (with_reducible show wpAny _ _ (binaryOp Operator.Div (Value.float _ _) (Value.int 16 _)) _ _ _); k_dflt (refine' m_div16T ?k1 ?k2 ?_; (case k1 => assumption); (case k2 => omega); k_whole); intro x' t' et' hx'; (try dsimp only at et')))
local macro_rules | `(tactic| walk_at "binaryOp Sub int float") => `(tactic| (k_here; (with_reducible show wpAny _ _ (binaryOp Operator.Sub (Value.int _ _) (Value.float _ _)) _ _ _); k_dflt (refine' m_sub_if ?k1 ?k2 ?k3 ?_; (case k1 => assumption); (case k2 => first | assumption | omega); (case k3 => first | assumption | omega); k_whole); intro x' t' hx'))
local macro_rules | `(tactic| walk_at "exec For Name Call cons nil") => `(tactic| (k_here; refine Stop.mk ?_))
local macro_rules | `(tactic| walk_at "eval ListComp") => `(tactic| (k_here; refine Stop.mk ?_))
local macro_rules | `(tactic| walk_at "CompSrc") => `(tactic| (k_here; refine Stop.mk ?_))
local macro_rules | `(tactic| walk_at "CompSrcT") => `(tactic| (k_here; refine Stop.mk ?_))
local macro_rules | `(tactic| walk_at "call ref") => `(tactic| (k_here; refine Stop.mk ?_))
local macro_rules | `(tactic| walk_at "call builtin:list.extend") => `(tactic| (k_here; refine Stop.mk ?_))
local macro_rules | `(tactic| walk_at "call builtin:list.append") => `(tactic| (k_here; refine Stop.mk ?_))
local macro_rules | `(tactic| walk_at "compareOp Eq ref ref") => `(tactic| (k_here; refine Stop.mk ?_))
local macro_rules | `(tactic| walk_at "binaryOp Sub float float") => `(tactic| (k_here; refine Stop.mk ?_))
local macro_rules | `(tactic| walk_at "compareOp NotEq float int") => `(tactic| (k_here; refine Stop.mk ?_))
local macro_rules | `(tactic| walk_at "execs cons") => `(tactic| (k_here; (fail_if_success k_gentoks); (with_reducible refine execs_consT ?_); try dsimp only))
local macro_rules | `(tactic| walk_at "forall") => `(tactic| (k_here; (with_reducible show (@LE.le Nat _ _ (Shared.toks _) → _)); intro hleQ; (try dsimp only at hleQ); (try dsimp only)))
local macro_rules | `(tactic| walk_at "subscriptTail") => `(tactic| (k_here; (with_reducible show wpAny _ _ (subscriptTail _ _ (Value.ref _) (Value.int _ _)) _ _ _); k_dflt (refine' m_subF ?k1 ?k2 ?k3 ?k4 ?k5 ?k6 ?_ ?k7; (case k1 => k_asm); (case k2 => k_mem); (case k3 => with_reducible assumption); (case k4 => ksa_idx); (case k5 => ksa_idx); (case k6 => ksa_idx); (case k7 => with_unfolding_all rfl); k_whole); intro x' t' hx'))
local macro_rules | `(tactic| walk_at "subscriptTail") => `(tactic| (k_here; (with_reducible show wpAny _ _ (subscriptTail _ _ (Value.ref _) (Value.int _ _)) _ _ _); k_dflt (refine' m_subB ?k1 ?k2 ?k3 ?k4 ?k5 ?k6 ?_ ?k7; (case k1 => k_asm); (case k2 => k_mem); (case k3 => with_reducible assumption); (case k4 => ksa_idx); (case k5 => ksa_idx); (case k6 => ksa_idx); (case k7 => with_unfolding_all rfl); k_whole); intro v' hv'))
local macro_rules | `(tactic| walk_at "eval Name") => `(tactic| (k_here; (with_reducible show wpAny _ _ (eval (PySem.Expr.Name (PySem.Str.ofString "abs") _) (compEnvC _ _ _ _)) _ _ _); k_dflt (refine LCgL.ld_built (by k_asm) (by k_asm) (by k_asm) (by k_is) (by boot_by_name) (by decide) ?_)))
theorem cw0 : Challenge.rw_re0039_01.Holds := by
  w_on
  refine holds_law said_ok fun said => ?_
  refine holds_open (q := viewP) (loose := looV) (Xt := fun s => xlAt viewP [] s && recOk (RowW.records rwR) s) (XP := XL viewP []) (Yf := Hook.obs (kmHook fr.heap_1 asK asK_is [187])) (Ya := Hook.val (kmHook fr.heap_1 asK asK_is [187])) (YP := Hook.says (kmHook fr.heap_1 asK asK_is [187])) (N := 3634) left_is (Hook.of (kmHook fr.heap_1 asK asK_is [187])) (Hook.keeps (kmHook fr.heap_1 asK asK_is [187])) (fun s e => xl_of s (Bool.and_eq_true_iff.mp e).1) XL.keeps (by rfl) (by rfl) (by rfl) (fun s e => recFacts_of (Bool.and_eq_true_iff.mp e).2) (by rfl) (by first | assumption | decide +kernel) (by decide +kernel) ⟨rfl, rfl, rfl, rfl, rfl, by decide +kernel⟩ ?hw ?hc
  case hw => w_witness2
  case hc =>
  k_fill
  intro w s₀ s₁ mg mb G Y fa o pm cd doc dV kV ho hd hcd hD hmg hg args vals as hpre hlay hrd hwl hlo
  have KX := km_in_of Y
  have hT8 := km_tabs_of Y
  have hT9 : TabsAt [(189, 187)] s₁.heap := List.forall_mem_cons.mpr ⟨⟨codeHd_of_K (c := 189) (P := 187) KX (by kernel_rfl), hT8 187 (List.mem_cons_self ..)⟩, fun _ h => nomatch h⟩
  have X := (Ground.X G).1
  have V := (Ground.X G).2
  refine Ground.open G ?_
  intro T B D TE TW
  try (refine guard_noD D (by decide +kernel) ?_; clear D)
  clear hmg
  wrow_args hpre hlay hrd hwl hlo
  refine enter_call ?_
  w_top on
  refine codeAny_mono ?_ (fun r s' (h : LawEnd (ghostOf s₁.heap [(189, 187)]) s₁.os r s') => law_end hT9 ?post h)
  w_call any ho hd hcd hD T F
  clear hd
  kn_ghosts F T
  k_drop
  case post =>
    (show Challenge.rw_re0039_01.row.claim.post _ _ _ = true)
    exact postW_of (by wrow_shape) (by wtm_val) (by first | rfl | (str_meet; done) | w_fin)
  (rename IntsAre _ _ => hvs)
  have hb0 : AllBare s₁.gens := .of_eq hg
  rename_i zs zhs zlay zL zhr zl2 as1 as2 ls vs as3 zL2 zra zw1 zr0 zhr2 zc1 zc2 h' tk' o1 o2 o3 o4 o5 dc1 dc2 dc3 dc4 dc5 X0 X' T' K' F' N' l0
  obtain ⟨p, loose, mean, T2⟩ : ∃ p loose mean, Top p loose mean mg mb (ghostOf s₁.heap [(189, 187)]) := ⟨_, _, _, T'⟩
  clear T' X0 codeHd hT8 hcd ho G Y T V B TE TW hD
  have T' := T2
  clear T2
  obtain ⟨ps, hps, N2⟩ : ∃ ps, TabOk ⟨149, 12, 149, 35⟩ ps ∧ News (ghostOf s₁.heap [(189, 187)]) s₁.heap.objs.size h' [(s₁.heap.objs.size + 1 + 1 + 1 + 1 + 1, o1), (s₁.heap.objs.size + 1 + 1 + 1 + 1, o2), (s₁.heap.objs.size + 1 + 1 + 1, o3), (s₁.heap.objs.size + 1 + 1, o4), (s₁.heap.objs.size + 1, o5), (187, tabObj ps)] := ⟨#[], .inl rfl, N'⟩
  clear N'
  have N' := N2
  clear N2 X
  have hns : zs.length ≤ 64 := Nat.le_trans (Int.ofNat_le.mp (Int.not_lt.mp zc1)) (by decide)
  clear zra zw1 zr0 zhr2 zc1 zc2 hT9 hg
  generalize ghostOf s₁.heap [(189, 187)] = g' at *
  generalize s₁.heap.objs.size = L' at *
  dsimp only at *
  (try k_fold)
  k_steps
  refine Stop.go ?_
  refine c_cells w p loose mean mg mb _ ls vs zs hvs hns _ _ _ _ _ _ _ _ _ _ _ _ _ _ _ _ _ K' F' X' N' T' rfl lifted (by exact Nat.le_of_ble_eq_true rfl) (by exact Nat.le_of_ble_eq_true rfl) ?_
  intro D0 h3 tk3 cvs c0 c1 c2 c3 q b nD F3 N3 hcv hb0 hb1 hb2 hb3 hq hb lD
  clear N' F'
  obtain ⟨lDa, lDb, lDc, lDd, lDe, lDf, -⟩ := lD
  dsimp only at lDa lDb lDc lDd lDe lDf
  k_steps
  rename_i h5 o5' dv5 q1 D1 h6 lD1 h7 o4' F7 N7 dv4 q2
  obtain ⟨lEa, lEb, lEc, lEd, lEe, lEf, lEg⟩ := lD1
  refine Stop.go ?_
  refine for_G g' ?_
  k_steps
  refine ⟨_, 0, 16, _, _, _, 16, _, _, [], (fun g => g = _), (fun i nx => ∃ xs n ov v0, nx = (D1, listOf xs.toArray n) :: (D0, listOf cvs.toArray nD) :: (L' + 1 + 1 + 1 + 1 + 1, o1) :: (L' + 1 + 1 + 1 + 1, o2) :: (L' + 1 + 1 + 1, ov) :: (L' + 1 + 1, o4') :: (L' + 1, o5') :: (187, tabObj ps) :: [] ∧ ov.data = .cell v0 ∧ IntsAre xs ((rangeKs 0 i).map (leadV [c0, c1, c2, c3, q, b]))), rfl, rfl, by assumption, by decide, rfl, by assumption, by assumption, rfl, ⟨[], 0, o3, _, rfl, dc3, .nil⟩, ?_, ?_⟩
  · intro i t u nx I oI h1 g1 tk1 Q1 hi hoI hJ hG F1 N1 hnext hret1
    obtain ⟨xs, n, ov, v0, rfl, hov, hxs⟩ := hJ
    subst hG
    obtain ⟨i1, i2, i3, i4, i5, i6, i7, i8, -⟩ := allNq hoI
    dsimp only at i1 i2 i3 i4 i5 i6 i7 i8
    have hxl : xs.toArray.size ≤ 16 := by rw [List.size_toArray, hxs.length, List.length_map, rangeKs_length]; omega
    k_steps
    refine Stop.go ?_
    refine LCt.ListComp_T (F₀ := by k_asm) (by with_unfolding_all rfl) (by decide) (by rfl) (by decide) (by rfl) ?_
    k_steps
    refine Stop.go ?_
    refine LCt.CompSrcT.range (by rfl) (by k_asm) (by k_asm) (by assumption) (by decide) (n := 4) (by rfl) (by rw [sizeLine_eq]; omega) ?_
    intro gg
    refine rest_inKT (ks := rangeKs 0 4) (fun v => Builtin.bitAnd ((0 + (i : Int)).fdiv (2 ^ v.toNat)) 1 == 1) (fun v => [c0, c1, c2, c3, q, b].getD v.toNat 0) (rangeKs_length _ _) (fun i v hi ⟨t, e⟩ => ⟨0 + (i : Int), t, by simp [rangeKs, hi], e⟩) trivial ?_ ?_ ?_
    · intro k t I2 oI2 C2 oC2 D2 m2 ys h2 tk2 E2 Q2 hk hoC hxk F2 N2 off1 ne1 hturn
      have hk4 := mem_rangeKs hk
      k_steps
      exact hturn _ _ (by assumption) (by assumption)
    · intro k t I2 oI2 C2 oC2 D2 m2 ys h2 tk2 E2 Q2 hk hoC hxk F2 N2 off1 ne1 hturn
      have hk4 := mem_rangeKs hk
      k_steps
      exact hturn _ _ _ (by assumption) (by assumption)
    intro xs2 hxs2
    k_steps
    refine Stop.go ?_
    (rename News _ _ _ (_ :: _) => N4)
    (rename Fr _ _ _ _ => F4)
    refine append_K F4 N4 (by k_upd) ?_ (by rw [sizeLine_eq]; omega)
    intro h9 F9 N9
    rw [List.push_toArray] at N9
    k_steps
    refine hnext _ ((D1, listOf (xs ++ [_]).toArray (n + 1)) :: _) _ _ _ F9 (fun p hp => N9 p (List.mem_cons_of_mem _ hp)) ?off rfl (fun z _ => rfl) ⟨_, n + 1, _, _, rfl, by assumption, ?ia⟩
    case off => exact ofNq ⟨i1, i2, i3, i4, i5, i6, i7, i8, trivial⟩
    case ia => exact ia_snocK (by assumption)
  · intro u nx h1 g1 tk1 hJ hG F1 N1
    obtain ⟨xs, n, ov, v0, rfl, hov, hxs⟩ := hJ
    subst hG
    generalize hle : (rangeKs 0 16).map (leadV [c0, c1, c2, c3, q, b]) = ld at hxs
    have hll : ld.length = 16 := by rw [← hle, List.length_map, rangeKs_length]
    k_steps
    refine Stop.go ?_
    refine LCg.ListComp_U (F₀ := by k_asm) (by with_unfolding_all rfl) (by decide) (by rfl) (by decide) (by rfl) ?_
    k_steps
    refine Stop.go ?_
    have hxl : xs.toArray.size ≤ 16 := by rw [List.size_toArray, IntsAre.length (by assumption), hll]; omega
    refine LCg.CompSrc.ledger (by rfl) (by k_asm) (N := by k_asm) (hm := List.mem_cons_self ..) (by rw [sizeLine_eq]; omega) ?_
    intro gg
    refine rest_inK (ks := ld) (fun k => if 0 < k then 1 else 0) (by rw [List.size_toArray, IntsAre.length (by assumption)]) (fun i v hi e => by
      obtain ⟨k, t, e, hk⟩ := IntsAre.at (by assumption) i v (by simpa using e)
      exact ⟨k, t, hk, e⟩) (.inr ⟨_, List.mem_cons_self .., rfl, _, rfl⟩) ?_ ?_
    · intro k t I2 oI2 C2 oC2 D2 m2 ys h2 tk2 E2 Q2 hk hoC hxk F2 N2 off1 ne1 hturn
      k_steps
      · skip
        simp only [if_pos (show (0 : Int) < k by first | assumption | omega)] at hturn
        exact hturn _ _ _ (by assumption) (by assumption)
      · skip
        simp only [if_neg (show ¬ (0 : Int) < k by first | assumption | omega)] at hturn
        exact hturn _ _ _ (by assumption) (by assumption)
    intro xs2 hxs2
    generalize hfe : ld.map (fun k => if 0 < k then (1 : Int) else 0) = fs at hxs2
    have hfl : fs.length = 16 := by rw [← hfe, List.length_map, hll]
    have hf1 : ∀ n ∈ fs, n = 0 ∨ n = 1 := fun n hn => by
      rw [← hfe] at hn
      obtain ⟨k, _, rfl⟩ := List.mem_map.mp hn
      split
      · exact .inr rfl
      · exact .inl rfl
    k_steps
    rename_i D2 h8 tk8 Fa Na lD2 h9 o2' F9 N9 dv2 q3
    obtain ⟨lFa, lFb, lFc, lFd, lFe, lFf, lFg, lFh⟩ := lD2
    refine Stop.go ?_
    refine LCg.ListComp_U (F₀ := by k_asm) (by with_unfolding_all rfl) (by decide) (by rfl) (by decide) (by rfl) ?_
    k_steps
    refine Stop.go ?_
    refine LCg.CompSrc.range (by rfl) (by k_asm) (by k_asm) (by assumption) (by decide) (n := 16) (by rfl) (by rw [sizeLine_eq]; omega) ?_
    intro gg2
    refine rest_inK (ks := rangeKs 0 16) (fun k => Builtin.bitXor (fs.getD k.toNat 0) (Builtin.bitAnd (b.fdiv (2 ^ k.toNat)) 1)) (rangeKs_length _ _) (fun i v hi ⟨t, e⟩ => ⟨0 + (i : Int), t, by simp [rangeKs, hi], e⟩) trivial ?_ ?_
    · intro k t I2 oI2 C2 oC2 D3 m2 ys h2 tk2 E2 Q2 hk hoC hxk F2 N2 off1 ne1 hturn
      have hk4 := mem_rangeKs hk
      k_steps
      exact hturn _ _ _ (by assumption) (by assumption)
    intro xs3 hxs3
    generalize hge : (rangeKs 0 16).map (fun k => Builtin.bitXor (fs.getD k.toNat 0) (Builtin.bitAnd (b.fdiv (2 ^ k.toNat)) 1)) = gs at hxs3
    have hgl : gs.length = 16 := by rw [← hge, List.length_map, rangeKs_length]
    have hg1 : ∀ n ∈ gs, n = 0 ∨ n = 1 := fun n hn => by
      rw [← hge] at hn
      obtain ⟨k, _, rfl⟩ := List.mem_map.mp hn
      exact xor01 (getD_01 hf1 _) (and1 _)
    k_steps
    rename_i D3 h10 tk10 lD3 h11 o1' F11 N11 dv1 q4
    obtain ⟨lGa, lGb, lGc, lGd, lGe, lGf, lGg, lGh, lGi⟩ := lD3
    obtain ⟨D0x, hD0x⟩ : ∃ o : Obj, o = listOf cvs.toArray nD := ⟨_, rfl⟩
    have N12 : News _ _ _ ((D2, listOf xs2.toArray xs2.length) :: (187, tabObj ps) :: (D3, listOf xs3.toArray xs3.length) :: (D1, listOf xs.toArray n) :: (D0, listOf cvs.toArray nD) :: (L' + 1 + 1 + 1 + 1 + 1, o1') :: (L' + 1 + 1 + 1 + 1, o2') :: (L' + 1 + 1 + 1, ov) :: (L' + 1 + 1, o4') :: (L' + 1, o5') :: []) := cb_drop N11 (List.forall_mem_cons.mpr ⟨.tail _ (.head _), List.forall_mem_cons.mpr ⟨.tail _ (.tail _ (.tail _ (.tail _ (.tail _ (.tail _ (.tail _ (.tail _ (.tail _ (.head _))))))))), List.forall_mem_cons.mpr ⟨.head _, List.forall_mem_cons.mpr ⟨.tail _ (.tail _ (.head _)), List.forall_mem_cons.mpr ⟨.tail _ (.tail _ (.tail _ (.head _))), List.forall_mem_cons.mpr ⟨.tail _ (.tail _ (.tail _ (.tail _ (.head _)))), List.forall_mem_cons.mpr ⟨.tail _ (.tail _ (.tail _ (.tail _ (.tail _ (.head _))))), List.forall_mem_cons.mpr ⟨.tail _ (.tail _ (.tail _ (.tail _ (.tail _ (.tail _ (.head _)))))), List.forall_mem_cons.mpr ⟨.tail _ (.tail _ (.tail _ (.tail _ (.tail _ (.tail _ (.tail _ (.head _))))))), List.forall_mem_cons.mpr ⟨.tail _ (.tail _ (.tail _ (.tail _ (.tail _ (.tail _ (.tail _ (.tail _ (.head _)))))))), fun _ h => nomatch h⟩⟩⟩⟩⟩⟩⟩⟩⟩⟩)
    clear N11 Fa Na
    refine Stop.go ?_
    refine c_told w p loose mean mg mb _ D2 xs2 fs xs2.length ps hps (by assumption) hfl hf1 ?ny1 ?ne1 _ _ _ _ _ _ _ _ _ _ _ _ _ _ _ _ _ (by assumption) (by assumption) (by assumption) (by assumption) (by assumption) rfl (by assumption) (by exact Nat.le_of_ble_eq_true rfl) (by exact Nat.le_of_ble_eq_true rfl) ?_
    case ny1 => exact neN (by omega)
    case ne1 => exact ofNq ⟨neN (by dsimp only; omega), neN (by dsimp only; omega), neN (by dsimp only; omega), neN (by dsimp only; omega), neN (by dsimp only; omega), neN (by dsimp only; omega), neN (by dsimp only; omega), neN (by dsimp only; omega), trivial⟩
    rintro v6 h12 g2 tk12 news6 F12 N13 G2 ⟨T1, tv, nT, ps1, rfl, hps1, rfl, htv, hk1, lT1⟩
    try dsimp only at hk1
    obtain ⟨lHa, lHb, lHc, lHd, lHe, lHf, lHg, lHh, lHi, lHj, -⟩ := lT1
    dsimp only at lHa lHb lHc lHd lHe lHf lHg lHh lHi lHj
    clear N12 F11
    k_steps
    have N14 : News _ _ _ ((D3, listOf xs3.toArray xs3.length) :: (187, tabObj ps1) :: (D2, listOf xs2.toArray xs2.length) :: (T1, listOf tv.toArray nT) :: (D1, listOf xs.toArray n) :: (D0, listOf cvs.toArray nD) :: (L' + 1 + 1 + 1 + 1 + 1, o1') :: (L' + 1 + 1 + 1 + 1, o2') :: (L' + 1 + 1 + 1, ov) :: (L' + 1 + 1, o4') :: (L' + 1, o5') :: []) := cb_drop (by assumption) (List.forall_mem_cons.mpr ⟨.tail _ (.tail _ (.tail _ (.head _))), List.forall_mem_cons.mpr ⟨.tail _ (.tail _ (.head _)), List.forall_mem_cons.mpr ⟨.tail _ (.head _), List.forall_mem_cons.mpr ⟨.head _, List.forall_mem_cons.mpr ⟨.tail _ (.tail _ (.tail _ (.tail _ (.head _)))), List.forall_mem_cons.mpr ⟨.tail _ (.tail _ (.tail _ (.tail _ (.tail _ (.head _))))), List.forall_mem_cons.mpr ⟨.tail _ (.tail _ (.tail _ (.tail _ (.tail _ (.tail _ (.head _)))))), List.forall_mem_cons.mpr ⟨.tail _ (.tail _ (.tail _ (.tail _ (.tail _ (.tail _ (.tail _ (.head _))))))), List.forall_mem_cons.mpr ⟨.tail _ (.tail _ (.tail _ (.tail _ (.tail _ (.tail _ (.tail _ (.tail _ (.head _)))))))), List.forall_mem_cons.mpr ⟨.tail _ (.tail _ (.tail _ (.tail _ (.tail _ (.tail _ (.tail _ (.tail _ (.tail _ (.head _))))))))), List.forall_mem_cons.mpr ⟨.tail _ (.tail _ (.tail _ (.tail _ (.tail _ (.tail _ (.tail _ (.tail _ (.tail _ (.tail _ (.head _)))))))))), fun _ h => nomatch h⟩⟩⟩⟩⟩⟩⟩⟩⟩⟩⟩)
    refine Stop.go ?_
    refine c_told w p loose mean mg mb _ D3 xs3 gs xs3.length ps1 hps1 hxs3 hgl hg1 ?ny2 ?ne2 _ _ _ _ _ _ _ _ _ _ _ _ _ _ _ _ _ (by assumption) (by assumption) (by assumption) (by assumption) (by assumption) rfl (by assumption) (by exact Nat.le_of_ble_eq_true rfl) (by exact Nat.le_of_ble_eq_true rfl) ?_
    case ny2 => exact neN (by omega)
    case ne2 => exact ofNq ⟨neN (by dsimp only; omega), neN (by dsimp only; omega), neN (by dsimp only; omega), neN (by dsimp only; omega), neN (by dsimp only; omega), neN (by dsimp only; omega), neN (by dsimp only; omega), neN (by dsimp only; omega), neN (by dsimp only; omega), trivial⟩
    rintro v7 h13 g3 tk13 news7 F13 N15 G3 ⟨T2, tw, nU, ps2, rfl, hps2, rfl, htw, hk2, lT2⟩
    try dsimp only at hk2
    obtain ⟨lIa, lIb, lIc, lId, lIe, lIf, lIg, lIh, lIi, lIj, lIk, -⟩ := lT2
    dsimp only at lIa lIb lIc lId lIe lIf lIg lIh lIi lIj lIk
    clear N14
    generalize hte : toldL fs 4 = tF at htv
    have htFl : tF.length = 9 := by rw [← hte, toldL_len]
    generalize htg : toldL gs 4 = tG at htw
    have htGl : tG.length = 9 := by rw [← htg, toldL_len]
    k_steps
    rename_i Dw wv hwh hwI lW hh2 q5 tkA etkA x1 t1 hx1 x3 t3 hx3 x5 t5 hx5 x7 t7 hx7 Ds hs1 lS hs2 Fs Ns q6 tkB etkB
    generalize hwe : List.take 4 [c0, c1, c2, c3, q, b] ++ [0] = wl at hwI
    have hwl : wl.length = 5 := by rw [← hwe]; rfl
    have hmono := law_mono hle hfe hte hwe
    obtain ⟨sl, hse⟩ : ∃ sl, sl = [tF.getD 1 0, tF.getD 3 0, tF.getD 5 0, tF.getD 7 0, 64 * 0] := ⟨_, rfl⟩
    rw [← hse] at hmono
    have hsl : sl.length = 5 := by rw [hse]; rfl
    obtain ⟨sv, hsv, N16⟩ : ∃ sv, AllBear sv sl ∧ News g' L' hs2 ((Ds, listOf sv.toArray 0) :: (Dw, listOf wv.toArray 0) :: (T2, listOf tw.toArray nU) :: (D3, listOf xs3.toArray xs3.length) :: (187, tabObj ps2) :: (D2, listOf xs2.toArray xs2.length) :: (T1, listOf tv.toArray nT) :: (D1, listOf xs.toArray n) :: (D0, listOf cvs.toArray nD) :: (L' + 1 + 1 + 1 + 1 + 1, o1') :: (L' + 1 + 1 + 1 + 1, o2') :: (L' + 1 + 1 + 1, ov) :: (L' + 1 + 1, o4') :: (L' + 1, o5') :: []) := by
      obtain ⟨sv, hsv, N⟩ := slopes_all hx1 hx3 hx5 hx7 Ns
      exact ⟨sv, hse ▸ hsv, cb_drop N (List.forall_mem_cons.mpr ⟨.head _, List.forall_mem_cons.mpr ⟨.tail _ (.head _), List.forall_mem_cons.mpr ⟨.tail _ (.tail _ (.tail _ (.tail _ (.head _)))), List.forall_mem_cons.mpr ⟨.tail _ (.tail _ (.tail _ (.tail _ (.tail _ (.head _))))), List.forall_mem_cons.mpr ⟨.tail _ (.tail _ (.tail _ (.tail _ (.tail _ (.tail _ (.head _)))))), List.forall_mem_cons.mpr ⟨.tail _ (.tail _ (.tail _ (.tail _ (.tail _ (.tail _ (.tail _ (.head _))))))), List.forall_mem_cons.mpr ⟨.tail _ (.tail _ (.tail _ (.tail _ (.tail _ (.tail _ (.tail _ (.tail _ (.head _)))))))), List.forall_mem_cons.mpr ⟨.tail _ (.tail _ (.tail _ (.tail _ (.tail _ (.tail _ (.tail _ (.tail _ (.tail _ (.head _))))))))), List.forall_mem_cons.mpr ⟨.tail _ (.tail _ (.tail _ (.tail _ (.tail _ (.tail _ (.tail _ (.tail _ (.tail _ (.tail _ (.head _)))))))))), List.forall_mem_cons.mpr ⟨.tail _ (.tail _ (.tail _ (.tail _ (.tail _ (.tail _ (.tail _ (.tail _ (.tail _ (.tail _ (.tail _ (.head _))))))))))), List.forall_mem_cons.mpr ⟨.tail _ (.tail _ (.tail _ (.tail _ (.tail _ (.tail _ (.tail _ (.tail _ (.tail _ (.tail _ (.tail _ (.tail _ (.head _)))))))))))), List.forall_mem_cons.mpr ⟨.tail _ (.tail _ (.tail _ (.tail _ (.tail _ (.tail _ (.tail _ (.tail _ (.tail _ (.tail _ (.tail _ (.tail _ (.tail _ (.head _))))))))))))), List.forall_mem_cons.mpr ⟨.tail _ (.tail _ (.tail _ (.tail _ (.tail _ (.tail _ (.tail _ (.tail _ (.tail _ (.tail _ (.tail _ (.tail _ (.tail _ (.tail _ (.head _)))))))))))))), List.forall_mem_cons.mpr ⟨.tail _ (.tail _ (.tail _ (.tail _ (.tail _ (.tail _ (.tail _ (.tail _ (.tail _ (.tail _ (.tail _ (.tail _ (.tail _ (.tail _ (.tail _ (.head _))))))))))))))), fun _ h => nomatch h⟩⟩⟩⟩⟩⟩⟩⟩⟩⟩⟩⟩⟩⟩)⟩
    clear Ns
    refine Stop.go ?_
    refine for_G g' ?_
    k_steps
    refine ⟨_, 0, 5, _, _, _, 5, _, _, ["one", "two"], (fun g => g = g3), (fun i nx => nx = (Ds, listOf sv.toArray 0) :: (Dw, listOf wv.toArray 0) :: (T2, listOf tw.toArray nU) :: (D3, listOf xs3.toArray xs3.length) :: (187, tabObj ps2) :: (D2, listOf xs2.toArray xs2.length) :: (T1, listOf tv.toArray nT) :: (D1, listOf xs.toArray n) :: (D0, listOf cvs.toArray nD) :: (L' + 1 + 1 + 1 + 1 + 1, o1') :: (L' + 1 + 1 + 1 + 1, o2') :: (L' + 1 + 1 + 1, ov) :: (L' + 1 + 1, o4') :: (L' + 1, o5') :: []), rfl, rfl, by assumption, by decide, rfl, by assumption, by assumption, rfl, rfl, ?_, ?_⟩
    · intro i t u nx I oI h1 g1 tk1 Q1 hi hoI hJ hG F1 N1 hnext hret1
      subst hJ
      subst hG
      k_steps
      refine Stop.go ?_
      refine for_G g' ?_
      k_steps
      obtain ⟨j1, j2, j3, j4, j5, j6, j7, j8, j9, j10, j11, j12, j13, j14, -⟩ := allNq hoI
      refine ⟨_, 0, 5, _, _, _, 5, _, _, ["two"], (fun g => g = g1), (fun j nx => nx = (I, oI) :: (Ds, listOf sv.toArray 0) :: (Dw, listOf wv.toArray 0) :: (T2, listOf tw.toArray nU) :: (D3, listOf xs3.toArray xs3.length) :: (187, tabObj ps2) :: (D2, listOf xs2.toArray xs2.length) :: (T1, listOf tv.toArray nT) :: (D1, listOf xs.toArray n) :: (D0, listOf cvs.toArray nD) :: (L' + 1 + 1 + 1 + 1 + 1, o1') :: (L' + 1 + 1 + 1 + 1, o2') :: (L' + 1 + 1 + 1, ov) :: (L' + 1 + 1, o4') :: (L' + 1, o5') :: []), rfl, rfl, by assumption, by decide, rfl, by assumption, by assumption, rfl, rfl, ?_, ?_⟩
      · intro j t2 u2 nx2 I2 oI2 h2 g2 tk2 Q2 hj hoI2 hJ2 hG2 F2 N2 hnext2 hret2
        subst hJ2
        subst hG2
        k_steps
        (rename Bears _ (sl.getD (0 + (j : Int)).toNat 0) => hvj)
        (rename Bears _ (sl.getD (0 + (i : Int)).toNat 0) => hvi)
        refine m_gtB hvi hvj ?_
        k_steps
        · exfalso
          (rename sl.getD (0 + (j : Int)).toNat 0 < _ => hgt)
          (rename wl.getD (0 + (i : Int)).toNat 0 ≤ _ => hwle)
          have ei : (0 + (i : Int)).toNat = i := by omega
          have ej : (0 + (j : Int)).toNat = j := by omega
          rw [ei, ej] at hgt hwle
          exact absurd (hmono i j hi hj hwle) (Int.not_le.mpr hgt)
        all_goals
          (rename News _ _ _ (_ :: _) => N4)
          (rename Fr _ _ _ _ => F4)
          exact hnext2 _ _ _ _ _ F4 N4 hoI2 rfl (fun z hz => by simp at hz; simp [hz]) rfl
      · intro u2 nx2 h2 g2 tk2 hJ2 hG2 F2 N2
        subst hJ2
        subst hG2
        k_steps
        exact hnext _ _ _ _ _ F2 N2 hoI rfl (fun z hz => by simp at hz; simp [hz]) rfl
    · intro u nx h1 g1 tk1 hJ hG F1 N1
      subst hJ
      subst hG
      k_steps
      refine Stop.go ?_
      have hbk : NoneBooked _ := booked_up F1 (booked_none w X')
      refine cmp_ofEq (rc_fls (ns := tF) (ms := tG) (News.isList N1 (by k_mem)) (News.isList N1 (by k_mem)) htv htw (by rw [htFl, htGl]) (by exact Nat.le_of_ble_eq_true rfl) hk1 hk2 (by omega) (by omega) (.inl (by omega)) hbk _ _ _ _ ?_)
      have hsame := law_same hle hfe hgl hg1 hq
      rw [hte, htg] at hsame
      rw [hsame]
      k_steps
      refine Stop.go ?_
      refine eq_intsK (News.isList N1 (by k_mem)) (by assumption) (News.isList N1 (by k_mem)) hxs3 (by exact Nat.le_of_ble_eq_true rfl) ?_
      k_steps
      · (rename (_ != _) = true => hbad)
        simp at hbad
      refine Stop.go ?_
      refine LCt.CompSrcT.range (by rfl) (by k_asm) (by k_asm) (by assumption) (by decide) (n := 16) (by rfl) (by rw [sizeLine_eq]; omega) ?_
      intro gg3
      refine rest_inKT (ks := rangeKs 0 16) (fun k => fs.getD k.toNat 0 != gs.getD k.toNat 0) (fun k => absV (ld.getD k.toNat 0)) (rangeKs_length _ _) (fun i v hi ⟨t, e⟩ => ⟨0 + (i : Int), t, by simp [rangeKs, hi], e⟩) trivial ?_ ?_ ?_
      · intro k t I2 oI2 C2 oC2 D4 m2 ys h2 tk2 E2 Q2 hk hoC hxk F2 N2 off1 ne1 hturn
        have hk4 := mem_rangeKs hk
        k_steps
        exact hturn _ _ (by assumption) (by assumption)
      · intro k t I2 oI2 C2 oC2 D4 m2 ys h2 tk2 E2 Q2 hk hoC hxk F2 N2 off1 ne1 hturn
        have hk4 := mem_rangeKs hk
        k_steps
        exact hturn _ _ _ (by assumption) (by assumption)
      intro xs4 hxs4
      k_steps
      rename_i D4 h20 tk20 F20 N20 lD4 q7
      obtain ⟨lJa, lJb, lJc, lJd, lJe, lJf, lJg, lJh, lJi, lJj, lJk, lJl, lJm, lJn⟩ := lD4
      refine Stop.go ?_
      have hM := law_missed hle hfe hgl hg1
      rw [hte, htg] at hM
      generalize ((rangeKs 0 16).filter fun k => fs.getD k.toNat 0 != gs.getD k.toNat 0).map (fun k => absV (ld.getD k.toNat 0)) = ms at hxs4 hM
      have hbF : ∀ i, (tF.getD i 0).natAbs ≤ 200 := hte ▸ told_bound hfl hf1
      have hbG : ∀ i, (tG.getD i 0).natAbs ≤ 200 := htg ▸ told_bound hgl hg1
      have hq3 : -31 ≤ q ∧ q ≤ 33 := by obtain ⟨r, hr, h1, h2⟩ := hq; omega
      have hsF := score_bound hb0 hb1 hb2 hb3 hq3 hbF
      have hsG := score_bound hb0 hb1 hb2 hb3 hq3 hbG
      have N21 : News g' L' h20 ((D0, listOf cvs.toArray nD) :: (T1, listOf tv.toArray nT) :: (T2, listOf tw.toArray nU) :: (D4, LCg.lst xs4) :: (D2, listOf xs2.toArray xs2.length) :: (D3, listOf xs3.toArray xs3.length) :: (187, tabObj ps2) :: (L' + 1 + 1 + 1 + 1 + 1, o1') :: (L' + 1 + 1 + 1 + 1, o2') :: (L' + 1, o5') :: []) := cb_drop N20 (List.forall_mem_cons.mpr ⟨.tail _ (.tail _ (.tail _ (.tail _ (.tail _ (.tail _ (.tail _ (.tail _ (.tail _ (.head _))))))))), List.forall_mem_cons.mpr ⟨.tail _ (.tail _ (.tail _ (.tail _ (.tail _ (.tail _ (.tail _ (.head _))))))), List.forall_mem_cons.mpr ⟨.tail _ (.tail _ (.tail _ (.head _))), List.forall_mem_cons.mpr ⟨.head _, List.forall_mem_cons.mpr ⟨.tail _ (.tail _ (.tail _ (.tail _ (.tail _ (.tail _ (.head _)))))), List.forall_mem_cons.mpr ⟨.tail _ (.tail _ (.tail _ (.tail _ (.head _)))), List.forall_mem_cons.mpr ⟨.tail _ (.tail _ (.tail _ (.tail _ (.tail _ (.head _))))), List.forall_mem_cons.mpr ⟨.tail _ (.tail _ (.tail _ (.tail _ (.tail _ (.tail _ (.tail _ (.tail _ (.tail _ (.tail _ (.head _)))))))))), List.forall_mem_cons.mpr ⟨.tail _ (.tail _ (.tail _ (.tail _ (.tail _ (.tail _ (.tail _ (.tail _ (.tail _ (.tail _ (.tail _ (.head _))))))))))), List.forall_mem_cons.mpr ⟨.tail _ (.tail _ (.tail _ (.tail _ (.tail _ (.tail _ (.tail _ (.tail _ (.tail _ (.tail _ (.tail _ (.tail _ (.tail _ (.tail _ (.head _)))))))))))))), fun _ h => nomatch h⟩⟩⟩⟩⟩⟩⟩⟩⟩⟩)
      clear N20
      refine c_score w p loose mean mg mb _ D0 T1 cvs tv c0 c1 c2 c3 q b tF nD nT (by assumption) hb0 hb1 hb2 hb3 hq3 htv htFl (fun i => Nat.le_trans (hbF i) (by decide)) _ _ _ _ _ _ _ _ _ _ _ _ _ _ _ _ _ (by assumption) (by assumption) (by assumption) (by assumption) (by assumption) rfl (by exact Nat.le_of_ble_eq_true rfl) (by exact Nat.le_of_ble_eq_true rfl) ?_
      rintro v8 h22 tk22 news8 F22 N22 ⟨x8, u8, rfl, rfl, hx8⟩
      clear N21 F20
      have hx8 : Is x8 (scoreV c0 c1 c2 c3 q tF) := hx8
      k_steps
      refine Stop.go ?_
      have N23 : News g' L' h22 ((D0, listOf cvs.toArray nD) :: (T2, listOf tw.toArray nU) :: (T1, listOf tv.toArray nT) :: (D4, LCg.lst xs4) :: (D2, listOf xs2.toArray xs2.length) :: (D3, listOf xs3.toArray xs3.length) :: (187, tabObj ps2) :: (L' + 1 + 1 + 1 + 1 + 1, o1') :: (L' + 1 + 1 + 1 + 1, o2') :: (L' + 1, o5') :: []) := cb_drop N22 (List.forall_mem_cons.mpr ⟨.head _, List.forall_mem_cons.mpr ⟨.tail _ (.tail _ (.head _)), List.forall_mem_cons.mpr ⟨.tail _ (.head _), List.forall_mem_cons.mpr ⟨.tail _ (.tail _ (.tail _ (.head _))), List.forall_mem_cons.mpr ⟨.tail _ (.tail _ (.tail _ (.tail _ (.head _)))), List.forall_mem_cons.mpr ⟨.tail _ (.tail _ (.tail _ (.tail _ (.tail _ (.head _))))), List.forall_mem_cons.mpr ⟨.tail _ (.tail _ (.tail _ (.tail _ (.tail _ (.tail _ (.head _)))))), List.forall_mem_cons.mpr ⟨.tail _ (.tail _ (.tail _ (.tail _ (.tail _ (.tail _ (.tail _ (.head _))))))), List.forall_mem_cons.mpr ⟨.tail _ (.tail _ (.tail _ (.tail _ (.tail _ (.tail _ (.tail _ (.tail _ (.head _)))))))), List.forall_mem_cons.mpr ⟨.tail _ (.tail _ (.tail _ (.tail _ (.tail _ (.tail _ (.tail _ (.tail _ (.tail _ (.head _))))))))), fun _ h => nomatch h⟩⟩⟩⟩⟩⟩⟩⟩⟩⟩)
      clear N22
      refine c_score w p loose mean mg mb _ D0 T2 cvs tw c0 c1 c2 c3 q b tG nD nU (by assumption) hb0 hb1 hb2 hb3 hq3 htw htGl (fun i => Nat.le_trans (hbG i) (by decide)) _ _ _ _ _ _ _ _ _ _ _ _ _ _ _ _ _ (by assumption) (by assumption) (by assumption) (by assumption) (by assumption) rfl (by exact Nat.le_of_ble_eq_true rfl) (by exact Nat.le_of_ble_eq_true rfl) ?_
      rintro v9 h23 tk23 news9 F23 N24 ⟨x9, u9, rfl, rfl, hx9⟩
      clear N23 F22
      have hx9 : Is x9 (scoreV c0 c1 c2 c3 q tG) := hx9
      k_steps
      refine Stop.go ?_
      refine m_sub_ff hx8 hx9 (by omega) (by omega) ?_
      intro x10 t10 hx10
      rw [hM] at hx10
      k_steps
      refine Stop.go ?_
      refine ne_fi ?_
      rw [hx10.cmpInt, cmp_self]
      k_steps
      refine Stop.go ?_
      refine c_steps w p loose mean mg mb _ _ _ _ _ _ _ _ _ _ _ _ _ _ _ _ _ _ (by assumption) (by assumption) (by assumption) (by assumption) (by assumption) rfl (by exact Nat.le_of_ble_eq_true rfl) (by exact Nat.le_of_ble_eq_true rfl) ?_
      rintro v11 h25 tk25 news11 F25 N25 ⟨S0, sv0, tl, rfl, rfl, htr⟩
      have N25b : News g' L' h25 ((S0, listOf sv0.toArray sv0.length) :: (D0, listOf cvs.toArray nD) :: (T2, listOf tw.toArray nU) :: (T1, listOf tv.toArray nT) :: (D4, LCg.lst xs4) :: (D2, listOf xs2.toArray xs2.length) :: (D3, listOf xs3.toArray xs3.length) :: (187, tabObj ps2) :: (L' + 1 + 1 + 1 + 1 + 1, o1') :: (L' + 1 + 1 + 1 + 1, o2') :: (L' + 1, o5') :: tl) := news_swap N25
      have N26 : News g' L' h25 ((D2, listOf xs2.toArray xs2.length) :: (S0, listOf sv0.toArray sv0.length) :: (D3, listOf xs3.toArray xs3.length) :: (T1, listOf tv.toArray nT) :: (T2, listOf tw.toArray nU) :: (187, tabObj ps2) :: (L' + 1 + 1 + 1 + 1 + 1, o1') :: (L' + 1 + 1 + 1 + 1, o2') :: (L' + 1, o5') :: tl) := cb_drop N25b (List.forall_mem_cons.mpr ⟨.tail _ (.tail _ (.tail _ (.tail _ (.tail _ (.head _))))), List.forall_mem_cons.mpr ⟨.head _, List.forall_mem_cons.mpr ⟨.tail _ (.tail _ (.tail _ (.tail _ (.tail _ (.tail _ (.head _)))))), List.forall_mem_cons.mpr ⟨.tail _ (.tail _ (.tail _ (.head _))), List.forall_mem_cons.mpr ⟨.tail _ (.tail _ (.head _)), List.forall_mem_cons.mpr ⟨.tail _ (.tail _ (.tail _ (.tail _ (.tail _ (.tail _ (.tail _ (.head _))))))), List.forall_mem_cons.mpr ⟨.tail _ (.tail _ (.tail _ (.tail _ (.tail _ (.tail _ (.tail _ (.tail _ (.head _)))))))), List.forall_mem_cons.mpr ⟨.tail _ (.tail _ (.tail _ (.tail _ (.tail _ (.tail _ (.tail _ (.tail _ (.tail _ (.head _))))))))), List.forall_mem_cons.mpr ⟨.tail _ (.tail _ (.tail _ (.tail _ (.tail _ (.tail _ (.tail _ (.tail _ (.tail _ (.tail _ (.head _)))))))))), fun _ h => .tail _ (.tail _ (.tail _ (.tail _ (.tail _ (.tail _ (.tail _ (.tail _ (.tail _ (.tail _ (.tail _ (h)))))))))))⟩⟩⟩⟩⟩⟩⟩⟩⟩)
      clear N25b
      clear N25
      k_steps
      rename_i hS0 q8 tkC etkC P1 hS1 F27 N27 lP1
      refine Stop.go ?_
      have hdF : dueL fs (outerS 16) 4 = tF := (due_told hfl).trans hte
      have hdG : dueL gs (outerS 16) 4 = tG := (due_told hgl).trans htg
      have hol : (outerS 16).length ≤ 1000 := Nat.le_trans (outerS_len 16 (Nat.le_refl _)) (by decide)
      have N28 : News g' L' hS1 ((D2, listOf xs2.toArray xs2.length) :: (S0, listOf sv0.toArray sv0.length) :: (P1, listOf [Value.ref T1, Value.ref T2].toArray 0) :: (D3, listOf xs3.toArray xs3.length) :: (T1, listOf tv.toArray nT) :: (T2, listOf tw.toArray nU) :: (187, tabObj ps2) :: (L' + 1 + 1 + 1 + 1 + 1, o1') :: (L' + 1 + 1 + 1 + 1, o2') :: (L' + 1, o5') :: tl) := cb_drop N27 (List.forall_mem_cons.mpr ⟨.tail _ (.head _), List.forall_mem_cons.mpr ⟨.tail _ (.tail _ (.head _)), List.forall_mem_cons.mpr ⟨.head _, List.forall_mem_cons.mpr ⟨.tail _ (.tail _ (.tail _ (.head _))), List.forall_mem_cons.mpr ⟨.tail _ (.tail _ (.tail _ (.tail _ (.head _)))), List.forall_mem_cons.mpr ⟨.tail _ (.tail _ (.tail _ (.tail _ (.tail _ (.head _))))), List.forall_mem_cons.mpr ⟨.tail _ (.tail _ (.tail _ (.tail _ (.tail _ (.tail _ (.head _)))))), List.forall_mem_cons.mpr ⟨.tail _ (.tail _ (.tail _ (.tail _ (.tail _ (.tail _ (.tail _ (.head _))))))), List.forall_mem_cons.mpr ⟨.tail _ (.tail _ (.tail _ (.tail _ (.tail _ (.tail _ (.tail _ (.tail _ (.head _)))))))), List.forall_mem_cons.mpr ⟨.tail _ (.tail _ (.tail _ (.tail _ (.tail _ (.tail _ (.tail _ (.tail _ (.tail _ (.head _))))))))), fun _ h => .tail _ (.tail _ (.tail _ (.tail _ (.tail _ (.tail _ (.tail _ (.tail _ (.tail _ (.tail _ (h))))))))))⟩⟩⟩⟩⟩⟩⟩⟩⟩⟩)
      clear N27
      refine c_due w p loose mean mg mb _ D2 S0 xs2 sv0 fs (outerS 16) xs2.length sv0.length (by assumption) hfl hf1 (htr.mono (fun p hp => (List.mem_cons_of_mem _ (List.mem_cons_of_mem _ (List.mem_cons_of_mem _ (List.mem_cons_of_mem _ (List.mem_cons_of_mem _ (List.mem_cons_of_mem _ (List.mem_cons_of_mem _ (List.mem_cons_of_mem _ hp)))))))))) hol steps_ok _ _ _ _ _ _ _ _ _ _ _ _ _ _ _ _ _ (by assumption) (by assumption) (by assumption) (by assumption) (by assumption) rfl (by exact Nat.le_of_ble_eq_true rfl) (by exact Nat.le_of_ble_eq_true rfl) ?_
      rintro v12 h29 tk29 news12 F29 N29 ⟨E1, ev, nE, rfl, rfl, hev, hkE⟩
      try dsimp only at hkE
      rw [hdF] at hev
      clear N28 F27
      k_steps
      refine Stop.go ?_
      have N30 : News g' L' h29 ((D3, listOf xs3.toArray xs3.length) :: (S0, listOf sv0.toArray sv0.length) :: (E1, listOf ev.toArray nE) :: (P1, listOf [Value.ref T1, Value.ref T2].toArray 0) :: (D2, listOf xs2.toArray xs2.length) :: (T1, listOf tv.toArray nT) :: (T2, listOf tw.toArray nU) :: (187, tabObj ps2) :: (L' + 1 + 1 + 1 + 1 + 1, o1') :: (L' + 1 + 1 + 1 + 1, o2') :: (L' + 1, o5') :: tl) := cb_drop N29 (List.forall_mem_cons.mpr ⟨.tail _ (.tail _ (.tail _ (.tail _ (.head _)))), List.forall_mem_cons.mpr ⟨.tail _ (.tail _ (.head _)), List.forall_mem_cons.mpr ⟨.head _, List.forall_mem_cons.mpr ⟨.tail _ (.tail _ (.tail _ (.head _))), List.forall_mem_cons.mpr ⟨.tail _ (.head _), List.forall_mem_cons.mpr ⟨.tail _ (.tail _ (.tail _ (.tail _ (.tail _ (.head _))))), List.forall_mem_cons.mpr ⟨.tail _ (.tail _ (.tail _ (.tail _ (.tail _ (.tail _ (.head _)))))), List.forall_mem_cons.mpr ⟨.tail _ (.tail _ (.tail _ (.tail _ (.tail _ (.tail _ (.tail _ (.head _))))))), List.forall_mem_cons.mpr ⟨.tail _ (.tail _ (.tail _ (.tail _ (.tail _ (.tail _ (.tail _ (.tail _ (.head _)))))))), List.forall_mem_cons.mpr ⟨.tail _ (.tail _ (.tail _ (.tail _ (.tail _ (.tail _ (.tail _ (.tail _ (.tail _ (.head _))))))))), List.forall_mem_cons.mpr ⟨.tail _ (.tail _ (.tail _ (.tail _ (.tail _ (.tail _ (.tail _ (.tail _ (.tail _ (.tail _ (.head _)))))))))), fun _ h => .tail _ (.tail _ (.tail _ (.tail _ (.tail _ (.tail _ (.tail _ (.tail _ (.tail _ (.tail _ (.tail _ (h)))))))))))⟩⟩⟩⟩⟩⟩⟩⟩⟩⟩⟩)
      clear N29
      refine c_due w p loose mean mg mb _ D3 S0 xs3 sv0 gs (outerS 16) xs3.length sv0.length hxs3 hgl hg1 (htr.mono (fun p hp => (List.mem_cons_of_mem _ (List.mem_cons_of_mem _ (List.mem_cons_of_mem _ (List.mem_cons_of_mem _ (List.mem_cons_of_mem _ (List.mem_cons_of_mem _ (List.mem_cons_of_mem _ (List.mem_cons_of_mem _ (List.mem_cons_of_mem _ hp))))))))))) hol steps_ok _ _ _ _ _ _ _ _ _ _ _ _ _ _ _ _ _ (by assumption) (by assumption) (by assumption) (by assumption) (by assumption) rfl (by exact Nat.le_of_ble_eq_true rfl) (by exact Nat.le_of_ble_eq_true rfl) ?_
      rintro v13 h31 tk31 news13 F31 N31 ⟨E2, ew, nF, rfl, rfl, hew, hkF⟩
      try dsimp only at hkF
      rw [hdG] at hew
      clear N30 F29
      k_steps
      rename_i P2 h32 F32 N32 lP2
      refine Stop.go ?_
      have hlt := fls_lt hev htFl hkE
      have hb32 : NoneBooked h32 := booked_up F32 (booked_none w X')
      refine cmp_ofEq (rc_pair (x1 := T1) (x2 := T2) (y1 := E1) (y2 := E2) (News.isList N32 (by k_mem)) (News.isList N32 (by k_mem)) (eq_lists (News.isList N32 (show (T1, listOf tv.toArray nT) ∈ _ by k_mem)) (News.isList N32 (show (E1, listOf ev.toArray nE) ∈ _ by k_mem)) htv hev (by exact Nat.le_of_ble_eq_true rfl) hk1 hkE (by omega) (by omega) hb32) (eq_lists (News.isList N32 (show (T2, listOf tw.toArray nU) ∈ _ by k_mem)) (News.isList N32 (show (E2, listOf ew.toArray nF) ∈ _ by k_mem)) htw hew (by exact Nat.le_of_ble_eq_true rfl) hk2 hkF (by omega) (by omega) hb32) (by exact Nat.le_of_ble_eq_true rfl) _ _ _ _ ?_)
      k_steps
      exact law_fin F32 N32 (by k_mem) G3
end Mine
end
theorem PySem.Challenge.cw_re0039_01_holds : PySem.Challenge.rw_re0039_01.Holds :=
  Mine.cw0
