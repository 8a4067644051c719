import PyProof.Rows.All
import Wide.All
import OpenK.AllK
import Wide.FinOn
import Lean
import PySem.Challenge.RW_op0141_01
set_option Elab.async false
set_option pp.deepTerms false
set_option pp.deepTerms.threshold 3
set_option pp.maxSteps 3000
set_option linter.all false
local macro_rules | `(tactic| walk_at $s:str) => `(tactic| k_extra $s)
local macro_rules | `(tactic| walk_at "M iter") => `(tactic| (intro it' h' F' N' l1; (try k_lt l1)))
local macro_rules | `(tactic| walk_at "M zip") => `(tactic| (intro h' z' TI' TO' i1' F' N' l1 l2' l3' l4'; (try k_lt l1)))
local macro_rules | `(tactic| walk_at "M 5") => `(tactic| (intro it' h' F' N' l1; (try k_lt l1)))
section
open PySem PySem.W PyProof.Rows
namespace Mine
set_option maxRecDepth 100000 in
set_option maxHeartbeats 8000000 in
open_top hd for PySem.Challenge.rw_op0141_01
end Mine
end

section
open PySem PySem.W PySem.Calls PyProof.Rows
set_option maxRecDepth 100000
namespace Mine
abbrev Keeps (h h' : Heap) : Prop := ∀ b o, h.get? b = some o → h'.get? b = some o
theorem enterM {w : World} {A : Around} {s : Shared} {R : Result → Shared → Prop} {K : Frag} {h₀ : Heap} {p : Program} {loose : List Str} {mean : ExcName → Option Value} {mg mb : Str → Option Value}
    {name qual : Str} {params : Arguments} {body : List Stmt} {scope : Scope} {dV kV doc pm cdv ct oc : Value} {an od : Option Addr} {osl : Array (Option Value)} {f : Addr} {args : Args} {binds : List (Str × Value)}
    (X : K.In h₀) (T : Top p loose mean mg mb h₀) (hk : Keeps h₀ s.heap) (hid : List (Addr × Obj)) (hhid : ∀ q ∈ hid, s.heap.get? q.1 = some q.2 ∧ h₀.get? q.1 = none)
    (ho : K.lookup f = some ⟨oc, od, .func (fnOf name qual params body scope dV kV doc pm an cdv ct), osl⟩) (hcd : codeIn K cdv qual = true) (hroom : A.depth < recursionLimit)
    (hbind : BindsTo s (fnOf name qual params body scope dV kV doc pm an cdv ct) args binds) (hloc : ∀ y ∈ binds, scope.names.lookup y.1 = some .local)
    (h : ∀ g L' h₁, (∀ b o, s.heap.get? b = some o → (∀ q ∈ hid, b ≠ q.1) → g.get? b = some o) → Keeps h₀ g → K.In g → Top p loose mean mg mb g → Fr g L' h₁ (fun y => binds.reverse.lookup y) → News g L' h₁ hid → (∀ q ∈ hid, q.1 < L') →
      wpAny (model PySem.Challenge.rw_op0141_01.row.prog w) (A.deeper (envOf qual scope L' f cdv)) (execs body (envOf qual scope L' f cdv)) (fun fl s' => R (.ok (.ret (match fl with | .ret v => v | _ => .none))) s') (fun _ _ => False)
        { s with heap := h₁, toks := s.toks + binds.length })
    (hco : scope.isCoroutine = false) (hgen : scope.isGenerator = false) (hkd : scope.kind = .function)
    (hcell : ∀ x ∈ scope.names, x.2 ≠ .cell) : codeAny (model PySem.Challenge.rw_op0141_01.row.prog w) A (.call (.ref f) args) R s := by
  have Xs : K.In s.heap := fun a o e => hk _ _ (X a o e)
  refine codeAny_call_def (fd := fnOf name qual params body scope dV kV doc pm an cdv ct) (body := body) (binds := binds) hroom (Xs _ _ ho) rfl (T.nolimit.keeps hk) (codeRec_of Xs hcd) rfl hbind hcell hloc (fun h₁ hns hk₁ => ?_) hco hgen hkd
  have st : Keeps h₀ (hideAll s.heap (hid.map (·.1))) := fun b o e => hideAll_get _ (hk b o e) (fun q => by
    obtain ⟨p, hp, rfl⟩ := List.mem_map.mp q
    rw [(hhid p hp).2] at e; cases e)
  refine wpAny_mono (h (hideAll s.heap (hid.map (·.1))) s.heap.objs.size h₁ (fun b o e n => hideAll_get _ e (fun q => by
      obtain ⟨p, hp, rfl⟩ := List.mem_map.mp q
      exact n p hp rfl)) st (fun a o e => st _ _ (X a o e)) (T.keeps st) ⟨hns, fun b o e => hk₁ b o (of_hideAll _ e), Nat.le_of_eq (hideAll_size _ _)⟩
    (fun p hp => ⟨hk₁ _ _ (hhid p hp).1, Nat.ne_of_lt (Heap.lt_size (hhid p hp).1), hideAll_none _ (List.mem_map_of_mem hp)⟩) (fun p hp => Heap.lt_size (hhid p hp).1)) (fun fl s' hl => hl) (fun _ _ x => x.elim)
end Mine
end

section
open PySem PySem.Float64
namespace Mine
/-- the float b stands for the whole number n (either nought counts as 0) -/
def IsI (b : UInt64) (n : Int) : Prop := (∃ a m e, decode b = .fin a m e) ∧ val b = n * 2 ^ 1074
theorem V_int {n : Nat} (h : n < 2 ^ 53) : ∃ t, t < infMag ∧ V t = n * 2 ^ 1074 := by
  by_cases h0 : n = 0
  · subst h0; exact ⟨0, by decide, by simp [V_zero]⟩
  have hl : n.log2 ≤ 52 := by
    have := (Nat.log2_lt h0 (k := 53)).mpr h
    omega
  have hlo : 2 ^ n.log2 ≤ n := Nat.log2_self_le h0
  have hhi : n < 2 ^ (n.log2 + 1) := Nat.lt_log2_self
  generalize n.log2 = l at *
  refine ⟨(1022 + l) * 2 ^ 52 + n * 2 ^ (52 - l), ?_, ?_⟩
  · have h1 : n * 2 ^ (52 - l) ≤ 2 ^ 53 := by
      calc n * 2 ^ (52 - l) ≤ 2 ^ (l + 1) * 2 ^ (52 - l) := Nat.mul_le_mul_right _ (Nat.le_of_lt hhi)
        _ = 2 ^ 53 := by rw [← Nat.pow_add]; congr 1; omega
    have h2 : infMag = 2047 * 2 ^ 52 := rfl
    have h3 : (1022 + l) * 2 ^ 52 ≤ 1074 * 2 ^ 52 := Nat.mul_le_mul_right _ (by omega)
    omega
  · rw [V_at]
    · rw [Nat.mul_assoc, ← Nat.pow_add]; congr 2; omega
    · calc n * 2 ^ (52 - l) ≤ 2 ^ (l + 1) * 2 ^ (52 - l) := Nat.mul_le_mul_right _ (Nat.le_of_lt hhi)
        _ = 2 ^ 53 := by rw [← Nat.pow_add]; congr 1; omega
    · left
      calc 2 ^ 52 = 2 ^ l * 2 ^ (52 - l) := by rw [← Nat.pow_add]; congr 1; omega
        _ ≤ n * 2 ^ (52 - l) := Nat.mul_le_mul_right _ hlo
theorem right_int {r : UInt64} {neg : Bool} {W D n : Nat} (hR : Right r neg W D) (hD : 0 < D) (hn : n < 2 ^ 53) (hW : W = D * (n * 2 ^ 1074)) :
    (∃ a m e, decode r = .fin a m e) ∧ val r = sgn neg n * 2 ^ 1074 := by
  obtain ⟨t', ht', hV⟩ := V_int hn
  obtain ⟨t, rfl, hle, hov, hbest⟩ := hR
  have hlt : t < infMag := by
    rcases Nat.lt_or_eq_of_le hle with q | q
    · exact q
    · exfalso
      have := hov.mp q
      rw [hW] at this
      have h1 : n * 2 ^ 1074 ≤ 2 ^ 53 * 2 ^ 1074 := Nat.mul_le_mul_right _ (Nat.le_of_lt hn)
      have h2 : 2 * (D * (n * 2 ^ 1074)) ≤ D * (2 * (2 ^ 53 * 2 ^ 1074)) := by
        calc 2 * (D * (n * 2 ^ 1074)) = D * (2 * (n * 2 ^ 1074)) := Nat.mul_left_comm ..
          _ ≤ _ := Nat.mul_le_mul_left _ (Nat.mul_le_mul_left _ h1)
      have h3 : D * ((2 ^ 54 - 1) * 2 ^ 2045) ≤ D * (2 * (2 ^ 53 * 2 ^ 1074)) := Nat.le_trans this h2
      have h4 := Nat.le_of_mul_le_mul_left h3 hD
      revert h4
      decide +kernel
  have hd := (hbest hlt t').1
  have hz : dist W (D * V t') = 0 := by rw [hV, hW]; unfold dist; omega
  have hz2 : dist W (D * V t) = 0 := by omega
  have hVt : V t = n * 2 ^ 1074 := by
    have : D * V t = D * (n * 2 ^ 1074) := by rw [← hW]; unfold dist at hz2; omega
    exact Nat.eq_of_mul_eq_mul_left hD this
  obtain ⟨m, e, hdec, _⟩ := decode_pack neg hlt
  refine ⟨⟨_, _, _, hdec⟩, ?_⟩
  rw [val_pack neg hlt, hVt, sgn_mul]
  simp
theorem sgn_int (n : Int) : sgn (decide (n < 0)) n.natAbs = n := by
  unfold sgn
  by_cases h : n < 0 <;> simp [h] <;> omega
theorem IsI_ofInt {n : Int} (h : n.natAbs < 2 ^ 53) : IsI (ofInt n) n := by
  have := right_int (ofInt_right n) (by decide) h (by rw [Nat.one_mul])
  rw [sgn_int] at this
  exact this
theorem scale_abs (n : Int) : (n * 2 ^ 1074).natAbs = n.natAbs * 2 ^ 1074 := by
  rw [Int.natAbs_mul]
  congr 1
theorem pow_pos' : (0 : Int) < 2 ^ 1074 := by decide +kernel
theorem scale_eq {a b : Int} (h : a * 2 ^ 1074 = b * 2 ^ 1074) : a = b := Int.eq_of_mul_eq_mul_right (Int.ne_of_gt pow_pos') h
theorem scale_neg (n : Int) : (n * 2 ^ 1074 < 0) ↔ n < 0 := by
  constructor
  · intro h
    rcases Int.lt_or_le n 0 with q | q
    · exact q
    · have := Int.mul_nonneg q (Int.le_of_lt pow_pos'); omega
  · intro h; exact Int.mul_neg_of_neg_of_pos h pow_pos'
theorem val_zero (b : Bool) : (∃ a m e, decode (zero b) = .fin a m e) ∧ val (zero b) = 0 := by
  unfold zero
  obtain ⟨m, e, hd, hv⟩ := decode_pack b (t := 0) (by decide)
  refine ⟨⟨_, _, _, hd⟩, ?_⟩
  rw [val_pack b (by decide), V_zero]
  cases b <;> rfl
theorem IsI_sum {r : UInt64} {n : Int} {b : Bool} (h : n.natAbs < 2 ^ 53) {v : Int} (hv : v = n * 2 ^ 1074) (h1 : v = 0 → r = zero b) (h2 : v ≠ 0 → Right r (decide (v < 0)) v.natAbs 1) : IsI r n := by
  by_cases hz : v = 0
  · rw [h1 hz]
    have : n = 0 := scale_eq (by rw [← hv, hz]; simp)
    subst this
    have := val_zero b
    exact ⟨this.1, by rw [this.2]; simp⟩
  · have := right_int (n := n.natAbs) (h2 hz) (by decide) h (by rw [Nat.one_mul, hv, scale_abs])
    refine ⟨this.1, ?_⟩
    rw [this.2]
    have e : decide (v < 0) = decide (n < 0) := by rw [hv]; exact decide_eq_decide.mpr (scale_neg n)
    rw [e, sgn_int]
theorem IsI_add {x y : UInt64} {a b : Int} (hx : IsI x a) (hy : IsI y b) (h : (a + b).natAbs < 2 ^ 53) : IsI (add x y) (a + b) := by
  obtain ⟨⟨_, _, _, dx⟩, vx⟩ := hx
  obtain ⟨⟨_, _, _, dy⟩, vy⟩ := hy
  have := add_right dx dy
  exact IsI_sum h (by rw [vx, vy, Int.add_mul]) this.1 this.2
theorem IsI_sub {x y : UInt64} {a b : Int} (hx : IsI x a) (hy : IsI y b) (h : (a - b).natAbs < 2 ^ 53) : IsI (sub x y) (a - b) := by
  obtain ⟨⟨_, _, _, dx⟩, vx⟩ := hx
  obtain ⟨⟨_, _, _, dy⟩, vy⟩ := hy
  have := sub_right dx dy
  exact IsI_sum h (by rw [vx, vy, Int.sub_mul]) this.1 this.2
theorem val_sign {x : UInt64} {a : Bool} {m : Nat} {e : Int} {n : Int} (d : decode x = .fin a m e) (v : val x = n * 2 ^ 1074) : sgn a n.natAbs = n := by
  have h1 := val_eq d
  rw [v] at h1
  have h2 := val_natAbs d
  rw [v, scale_abs] at h2
  rw [← h2] at h1
  rw [sgn_mul] at h1
  have : ((2 ^ 1074 : Nat) : Int) = (2 : Int) ^ 1074 := by simp
  rw [this] at h1
  exact (scale_eq h1).symm
theorem sgn_prod (s t : Bool) (a b : Int) (ha : sgn s a.natAbs = a) (hb : sgn t b.natAbs = b) : sgn (s != t) (a * b).natAbs = a * b := by
  rw [Int.natAbs_mul]
  conv => rhs; rw [← ha, ← hb]
  cases s <;> cases t <;> simp [sgn, Int.mul_neg, Int.neg_mul]
theorem IsI_mul {x y : UInt64} {a b : Int} (hx : IsI x a) (hy : IsI y b) (h : (a * b).natAbs < 2 ^ 53) : IsI (mul x y) (a * b) := by
  obtain ⟨⟨_, _, _, dx⟩, vx⟩ := hx
  obtain ⟨⟨_, _, _, dy⟩, vy⟩ := hy
  have := right_int (n := (a * b).natAbs) (mul_right dx dy) (Nat.two_pow_pos _) h (by rw [vx, vy, scale_abs, scale_abs, Int.natAbs_mul]; generalize (2 : Nat) ^ 1074 = K; ac_rfl)
  refine ⟨this.1, ?_⟩
  rw [this.2, sgn_prod _ _ _ _ (val_sign dx vx) (val_sign dy vy)]
theorem IsI_div {x y : UInt64} {q b : Int} (hx : IsI x (q * b)) (hy : IsI y b) (hb : 0 < b) (h : q.natAbs < 2 ^ 53) : IsI (div x y) q := by
  obtain ⟨⟨sx, _, _, dx⟩, vx⟩ := hx
  obtain ⟨⟨sy, k, f, dy⟩, vy⟩ := hy
  have hk : k ≠ 0 := by
    intro e
    have := val_natAbs dy
    rw [vy, scale_abs, e, Nat.zero_mul] at this
    have h1 : 0 < b.natAbs * 2 ^ 1074 := Nat.mul_pos (by omega) (Nat.two_pow_pos _)
    omega
  have := right_int (n := q.natAbs) (div_right dx dy hk) (by rw [vy, scale_abs]; exact Nat.mul_pos (by omega) (Nat.two_pow_pos _)) h (by rw [vx, vy, scale_abs, scale_abs, Int.natAbs_mul]; generalize (2 : Nat) ^ 1074 = K; ac_rfl)
  refine ⟨this.1, ?_⟩
  rw [this.2]
  have h1 := val_sign dx vx
  have h2 := val_sign dy vy
  have hsy : sy = false := by
    cases sy with
    | false => rfl
    | true => simp [sgn] at h2; omega
  subst hsy
  congr 1
  cases sx with
  | false =>
    simp [sgn] at h1 ⊢
    have : 0 ≤ q * b := by omega
    have : 0 ≤ q := by
      rcases Int.lt_or_le q 0 with z | z
      · have := Int.mul_neg_of_neg_of_pos z hb; omega
      · exact z
    omega
  | true =>
    simp [sgn] at h1 ⊢
    have : q * b ≤ 0 := by omega
    have : q ≤ 0 := by
      rcases Int.lt_or_le 0 q with z | z
      · have := Int.mul_pos z hb; omega
      · exact z
    omega
theorem scale_cmp (a b : Int) : compare (a * 2 ^ 1074) (b * 2 ^ 1074) = compare a b := by
  rcases Int.lt_trichotomy a b with h | h | h
  · rw [Int.compare_eq_lt.mpr h, Int.compare_eq_lt.mpr (Int.mul_lt_mul_of_pos_right h pow_pos')]
  · subst h; simp
  · rw [Int.compare_eq_gt.mpr h, Int.compare_eq_gt.mpr (Int.mul_lt_mul_of_pos_right h pow_pos')]
theorem IsI_cmp {x y : UInt64} {a b : Int} (hx : IsI x a) (hy : IsI y b) : cmp x y = some (compare a b) := by
  obtain ⟨⟨_, _, _, dx⟩, vx⟩ := hx
  obtain ⟨⟨_, _, _, dy⟩, vy⟩ := hy
  rw [cmp_right dx dy, vx, vy, scale_cmp]
theorem IsI_cmpInt {x : UInt64} {a : Int} (hx : IsI x a) (i : Int) : cmpInt x i = some (compare a i) := by
  obtain ⟨⟨_, _, _, dx⟩, vx⟩ := hx
  rw [cmpInt_right dx, vx, scale_cmp]
theorem IsI_lt {x y : UInt64} {a b : Int} (hx : IsI x a) (hy : IsI y b) : (cmp x y == some .lt) = decide (a < b) := by
  rw [IsI_cmp hx hy]
  rcases Int.lt_trichotomy a b with h | h | h
  · rw [Int.compare_eq_lt.mpr h, decide_eq_true h]; rfl
  · subst h; simp
  · rw [Int.compare_eq_gt.mpr h, decide_eq_false (by omega)]; rfl
theorem IsI_eq {x y : UInt64} {a b : Int} (hx : IsI x a) (hy : IsI y b) : (cmp x y == some .eq) = decide (a = b) := by
  rw [IsI_cmp hx hy]
  rcases Int.lt_trichotomy a b with h | h | h
  · rw [Int.compare_eq_lt.mpr h, decide_eq_false (by omega)]; rfl
  · subst h; simp
  · rw [Int.compare_eq_gt.mpr h, decide_eq_false (by omega)]; rfl
theorem IsI_eqInt {x : UInt64} {a : Int} (hx : IsI x a) (i : Int) : (cmpInt x i == some .eq) = decide (a = i) := by
  rw [IsI_cmpInt hx]
  rcases Int.lt_trichotomy a i with h | h | h
  · rw [Int.compare_eq_lt.mpr h, decide_eq_false (by omega)]; rfl
  · subst h; simp
  · rw [Int.compare_eq_gt.mpr h, decide_eq_false (by omega)]; rfl
theorem IsI_nan {x : UInt64} {a : Int} (hx : IsI x a) : isNaN x = false := by
  obtain ⟨⟨_, _, _, dx⟩, _⟩ := hx
  unfold isNaN; rw [dx]
theorem IsI_fin {x : UInt64} {a : Int} (hx : IsI x a) : isFinite x = true := by
  obtain ⟨⟨_, _, _, dx⟩, _⟩ := hx
  unfold isFinite; rw [dx]
theorem IsI_inf {x : UInt64} {a : Int} (hx : IsI x a) : isInf x = false := by
  obtain ⟨⟨_, _, _, dx⟩, _⟩ := hx
  unfold isInf; rw [dx]
theorem IsI_inj {x : UInt64} {a b : Int} (hx : IsI x a) (hy : IsI x b) : a = b := scale_eq (hx.2.symm.trans hy.2)
theorem IsI_isZero {x : UInt64} {a : Int} (hx : IsI x a) : isZero x = decide (a = 0) := by
  rw [PySem.Flt.isZero_eq, IsI_eqInt hx]
end Mine
end

section
open PySem PySem.W PySem.Calls PyProof.Rows
set_option maxRecDepth 100000
namespace Mine
/-- what is kept of the statics: no token whose sharing is not told -/
def NoShare (h : Heap) : Prop := ∃ mc, h.Ns cStatics mc ∧ mc sharingNotToldKey = none
theorem NoShare.keeps {h h' : Heap} (n : NoShare h) (k : Keeps h h') : NoShare h' := let ⟨mc, a, b⟩ := n; ⟨mc, a.keeps k, b⟩
section
variable {w : World} {A : Around} {E : Value → Shared → Prop} {s : Shared}
theorem eqBool_fl {prog : Program} {x y : UInt64} {t u : Tok} {a b : Int} {Q : Bool → Shared → Prop} (hx : IsI x a) (hy : IsI y b) (ht : t ≠ 0) (hu : u ≠ 0) (htu : t = u → a = b) (hS : NoShare s.heap) (h : Q (decide (a = b)) s) :
    wpAny (model prog w) A (eqBool (.float x t) (.float y u)) Q E s := by
  unfold eqBool
  refine wpAny_holding ?_
  show wpAny _ _ (if (Value.float x t == Value.float y u) = true then _ else _) Q E s
  by_cases hab : (Value.float x t == Value.float y u) = true
  · rw [if_pos hab]
    have e := eq_of_beq hab
    injection e with e1 e2
    subst e1
    have : a = b := IsI_inj hx hy
    exact wpAny_bind (wpAny_rule (wpAny_pure (by simpa [this] using h)))
  · rw [if_neg hab]
    have rest : wpAny (model prog w) A (do truthOfDropped (← richCompare .Eq (.float x t) (.float y u))) Q E s := by
      refine wpAny_bind (AutoFloatOps.eq_0 (E := E) (Q := fun v s' => wpAny (model prog w) A (truthOfDropped v) Q E s') ?_)
      rw [IsI_eq hx hy]
      exact wpAny_truthy_bool h
    show wpAny _ _ (do
      if ← isSame (.float x t) (.float y u) then return true
      truthOfDropped (← richCompare .Eq (.float x t) (.float y u))) Q E s
    refine wpAny_bind ?_
    show wpAny _ _ (isSame.created (x == y && !Float64.isNaN x) t u) _ _ s
    unfold isSame.created
    have h0 : (t == 0 || u == 0) = false := by simp [ht, hu]
    simp only [h0, Bool.false_eq_true, if_false]
    by_cases etu : (t == u) = true
    · simp only [etu, if_true]
      have : a = b := htu (by simpa using etu)
      exact wpAny_pure (wpAny_pure (by simpa [this] using h))
    · simp only [etu, if_false, Bool.false_eq_true]
      by_cases ec : (x == y && !Float64.isNaN x) = true
      · simp only [ec, Bool.not_true, Bool.false_eq_true, if_false]
        have hxy : x = y := by simp at ec; exact ec.1
        have : a = b := IsI_inj hx (hxy ▸ hy)
        obtain ⟨mc, hn, hk⟩ := hS
        have look : ∀ (z : Tok) {P : Bool → Shared → Prop}, P false s → wpAny (model prog w) A (sharingNotTold z) P E s := fun z P hp => by
          unfold sharingNotTold
          refine wpAny_bind (wpAny_nsGet hn ?_)
          rw [hk]
          exact wpAny_pure hp
        refine wpAny_bind (look t ?_)
        simp only [Bool.false_eq_true, if_false]
        refine wpAny_bind (look u ?_)
        simp only [Bool.false_eq_true, if_false]
        refine wpAny_bind (wpAny_rule (wpAny_bind (wpAny_askSetting (wpAny_pure ?_))))
        by_cases em : (w.params.mergeTok t == w.params.mergeTok u) = true
        · show wpAny _ _ (if (w.params.mergeTok t == w.params.mergeTok u) = true then _ else _) _ _ _
          rw [if_pos em]
          exact wpAny_pure (by simpa [this] using h)
        · show wpAny _ _ (if (w.params.mergeTok t == w.params.mergeTok u) = true then _ else _) _ _ _
          rw [if_neg em]
          exact rest
      · have ec' : (x == y && !Float64.isNaN x) = false := by simpa using ec
        simp only [ec', Bool.not_false, if_true]
        refine wpAny_pure ?_
        simp only [Bool.false_eq_true, if_false]
        exact rest
end
/-- a tuple (float, int, int) on the heap -/
def TupAt (h : Heap) (a : Addr) (x : UInt64) (t : Tok) (o : Int) (e : Int) : Prop := ∃ to te n, h.get? a = some { cls := .type "tuple", data := .seq #[.float x t, .int o to, .int e te] n }
theorem TupAt.keeps {h h' : Heap} {a : Addr} {x : UInt64} {t : Tok} {o e : Int} (T : TupAt h a x t o e) (k : Keeps h h') : TupAt h' a x t o e := let ⟨to, te, n, q⟩ := T; ⟨to, te, n, k _ _ q⟩
section
variable {w : World} {A : Around} {E : Value → Shared → Prop} {s : Shared}
theorem tuple_lt_tree {prog : Program} {a b : Addr} {x y : UInt64} {t u : Tok} {m n o p e f : Int} {P : PySem.Fin → Shared → Prop} (hx : IsI x m) (hy : IsI y n) (ht : t ≠ 0) (hu : u ≠ 0) (htu : t = u → m = n) (hop : o ≠ p) (hS : NoShare s.heap)
    (ha : TupAt s.heap a x t o e) (hb : TupAt s.heap b y u p f) (h : P (.done (.ret (.bool (decide (m < n ∨ m = n ∧ o < p))))) s) :
    wpAny (model prog w) A (Builtin.«tuple.__lt__» ⟨[.ref a, .ref b], []⟩) P E s := by
  obtain ⟨to, te, na, hoa⟩ := ha
  obtain ⟨up, uf, nb, hob⟩ := hb
  show wpAny _ _ (isInstance (.ref b) (.type "tuple") >>= _) _ _ s
  refine wpAny_bind (wpAny_isInstance ⟨_, hob, rfl⟩ isSubtype_tuple_tuple ?_)
  simp only [Bool.not_true, Bool.false_eq_true, if_false]
  refine wpAny_bind (wpAny_tupleItemsOf hoa rfl ?_)
  refine wpAny_bind (wpAny_tupleItemsOf hob rfl ?_)
  refine wpAny_bind ?_
  show wpAny _ _ (forIn [(Value.float x t, Value.float y u), (Value.int o to, Value.int p up), (Value.int e te, Value.int f uf)] _ _) _ _ s
  rw [List.forIn_cons]
  refine wpAny_bind (wpAny_bind (eqBool_fl hx hy ht hu htu hS ?_))
  by_cases hmn : m = n
  · simp only [hmn, decide_true, Bool.not_true, Bool.false_eq_true, if_false]
    refine wpAny_pure ?_
    dsimp only
    rw [List.forIn_cons]
    refine wpAny_bind (wpAny_bind (wpAny_eqBool_int ?_))
    have ho : (o == p) = false := by simp [hop]
    simp only [ho, Bool.not_false, if_true]
    refine wpAny_bind (wpAny_rule (wpAny_bind (Flt.lt_num (.int _ _) (.int _ _) ?_)))
    refine wpAny_bind (wpAny_pure (wpAny_pure ?_))
    dsimp only
    refine wpAny_pure (wpAny_pure ?_)
    have e1 : decide (m < n ∨ m = n ∧ o < p) = decide (o < p) := by simp [hmn]
    rw [e1] at h
    exact h
  · simp only [hmn, decide_false, Bool.not_false, if_true]
    refine wpAny_bind (wpAny_rule (wpAny_bind (Flt.lt_num (.float _ _) (.float _ _) ?_)))
    refine wpAny_bind (wpAny_pure (wpAny_pure ?_))
    dsimp only
    refine wpAny_pure (wpAny_pure ?_)
    have e1 : decide (m < n ∨ m = n ∧ o < p) = (Float64.cmp x y == some .lt) := by rw [IsI_lt hx hy]; simp [hmn]
    rw [e1] at h
    exact h
theorem lt_tup {prog : Program} {a b : Addr} {x y : UInt64} {t u : Tok} {m n o p e f : Int} {Q : Value → Shared → Prop} (hx : IsI x m) (hy : IsI y n) (ht : t ≠ 0) (hu : u ≠ 0) (htu : t = u → m = n) (hop : o ≠ p) (hS : NoShare s.heap)
    (ha : TupAt s.heap a x t o e) (hb : TupAt s.heap b y u p f) (hc : A.units + 1 < cLine) (h : Q (.bool (decide (m < n ∨ m = n ∧ o < p))) s) :
    wpAny (model prog w) A (compareOp .Lt (.ref a) (.ref b)) Q E s := by
  refine cmp_ofLt ?_
  have ha' := ha
  have hb' := hb
  obtain ⟨to, te, na, hoa⟩ := ha'
  obtain ⟨up, uf, nb, hob⟩ := hb'
  exact wpAny_richCompare_same_room (op := .Lt) ⟨_, hoa, rfl⟩ ⟨_, hob, rfl⟩ F.slot_tuple_lt
      (wpAny_call_entry F.slot_tuple_lt ⟨_, hoa, rfl⟩ F.entry_tuple_lt (tuple_lt_tree hx hy ht hu htu hop hS ha hb ⟨_, rfl, (fun e => nomatch e), h⟩) (F.args_tuple_lt_2 _ _)) (by omega)
end
end Mine
end

section
open PySem PySem.W PySem.Calls PyProof.Rows
set_option maxRecDepth 100000
namespace Mine
/-- what a tuple (key, order, element) of the heaps holds: the key's bits and token, the whole number it stands for, order, element -/
structure Ky where
  x : UInt64
  t : Tok
  v : Int
  o : Int
  e : Int
def Ky.lt (a b : Ky) : Bool := decide (a.v < b.v ∨ a.v = b.v ∧ a.o < b.o)
structure TK (h : Heap) (a : Addr) (k : Ky) : Prop where
  tup : TupAt h a k.x k.t k.o k.e
  isI : IsI k.x k.v
  tok : k.t ≠ 0
structure Dis (a b : Ky) : Prop where
  t : a.t = b.t → a.v = b.v
  o : a.o ≠ b.o
theorem Dis.symm {a b : Ky} (d : Dis a b) : Dis b a := ⟨fun e => (d.t e.symm).symm, fun e => d.o e.symm⟩
theorem TK.keeps {h h' : Heap} {a : Addr} {k : Ky} (T : TK h a k) (q : Keeps h h') : TK h' a k := ⟨T.tup.keeps q, T.isI, T.tok⟩
/-- all but the cell hp stays -/
def But (hp : Addr) (h h' : Heap) : Prop := ∀ b o, h.get? b = some o → b ≠ hp → h'.get? b = some o
theorem TK.ne {h : Heap} {a hp : Addr} {k : Ky} {its : Array Value} {n : Nat} (T : TK h a k) (hl : h.get? hp = some (listOf its n)) : a ≠ hp := by
  intro e
  obtain ⟨_, _, _, q⟩ := T.tup
  rw [e, hl] at q
  simp at q
theorem TK.but {h h' : Heap} {a hp : Addr} {k : Ky} {its : Array Value} {n : Nat} (T : TK h a k) (hl : h.get? hp = some (listOf its n)) (q : But hp h h') : TK h' a k := by
  have hne := T.ne hl
  obtain ⟨⟨to, te, m, z⟩, i, t⟩ := T
  exact ⟨⟨to, te, m, q _ _ z hne⟩, i, t⟩
theorem frame_mut {g h h' : Heap} {L hp : Addr} {m : Str → Option Value} {o o' : Obj} (F : Fr g L h m) (N : News g L h [(hp, o)]) (hk : But hp h h') (hq : h'.get? hp = some o') : Fr g L h' m ∧ News g L h' [(hp, o')] := by
  have n := N (hp, o) (.head _)
  obtain ⟨oL, es, ep, hL, r⟩ := F.ns
  refine ⟨⟨⟨oL, es, ep, hk _ _ hL (fun e => n.2.1 e.symm), r⟩, fun b x e => hk _ _ (F.keep b x e) (fun q => ?_), F.above⟩, fun p hp' => ?_⟩
  · rw [q, n.2.2] at e; cases e
  · simp only [List.mem_singleton] at hp'; subst hp'; exact ⟨hq, n.2.1, n.2.2⟩
section
variable {w : World} {A : Around} {E : Value → Shared → Prop} {s : Shared}
theorem lt_K {g : Heap} {L : Addr} {m : Str → Option Value} {a b : Addr} {k l : Ky} {Q : Value → Shared → Prop} (F : Fr g L s.heap m) (Ta : TK g a k) (Tb : TK g b l) (d : Dis k l) (hS : NoShare g) (hc : A.units + 1 < cLine) (h : Q (.bool (k.lt l)) s) :
    wpAny (model PySem.Challenge.rw_op0141_01.row.prog w) A (compareOp .Lt (.ref a) (.ref b)) Q E s :=
  lt_tup Ta.isI Tb.isI Ta.tok Tb.tok d.t d.o (hS.keeps F.keep) (Ta.tup.keeps F.keep) (Tb.tup.keeps F.keep) hc h
end
set_option maxHeartbeats 8000000 in
theorem siftdown21 {w : World} {A : Around} {s : Shared} {R : Result → Shared → Prop} {h₀ : Heap} {p : Program} {loose : List Str} {mean : ExcName → Option Value} {mg mb : Str → Option Value}
   {hp t0 t1 : Addr} {nn : Nat} {tk1 tk2 : Tok} {k0 k1 : Ky}
   (X : (Mine.hd.heap_39 w.params).In h₀) (T : Top p loose mean mg mb h₀) (hS : NoShare h₀) (hk : Keeps h₀ s.heap) (hroom : A.depth + 10 < recursionLimit) (hun : A.units + 40 < cLine)
   (hl : s.heap.get? hp = some (listOf #[.ref t0, .ref t1] nn)) (hn : h₀.get? hp = none) (T0 : TK s.heap t0 k0) (T1 : TK s.heap t1 k1) (D01 : Dis k0 k1)
   (hR : ∀ h' tk', But hp s.heap h' → h'.get? hp = some (listOf (if k1.lt k0 then #[.ref t1, .ref t0] else #[.ref t0, .ref t1]) nn) → R (.ok (.ret .none)) { s with heap := h', toks := tk' }) :
   codeAny (model PySem.Challenge.rw_op0141_01.row.prog w) A (.call (.ref 77) ⟨[.ref hp, .int 0 tk1, .int 1 tk2], []⟩) R s := by
  k_with_none
  w_top off
  k_with "compareOp Lt ref ref" => (k_here; (with_reducible show wpAny _ _ (compareOp CmpOp.Lt (Value.ref _) (Value.ref _)) _ _ _); (refine' lt_K ?k1 ?k2 ?k3 ?k4 ?k5 ?k6 ?_; (case k1 => k_asm); (case k2 => assumption); (case k3 => assumption); (case k4 => first | assumption | exact Dis.symm (by assumption)); (case k5 => assumption); (case k6 => (first | omega | (simp only [units_in1, units_deeper, Around.deeper_units] at *; omega)))); walk_say "MINE lt")
  revert X; k_fill; intro X
  refine' enterM X T hk [(hp, listOf #[.ref t0, .ref t1] nn)] ?hh ?k6 ?k7 ?k8 ?k9 ?kB ?_ ?c2 ?c3 ?c4 ?c5
  case hh => intro q hq; simp only [List.mem_singleton] at hq; subst hq; exact ⟨hl, hn⟩
  case k6 => k_is
  case k7 => k_is
  case k8 => omega
  case k9 => exact BindsTo.of_eq rfl
  case kB => exact locs rfl
  case c5 => decide
  case c2 => rfl
  case c3 => rfl
  case c4 => rfl
  intro g L' h₁ hg hkg X' T' F' N' hL
  have hg' : But hp s.heap g := fun b o e n => hg b o e (by intro q hq; simp only [List.mem_singleton] at hq; subst hq; exact n)
  have U0 := T0.but hl hg'
  have U1 := T1.but hl hg'
  have hS' := hS.keeps hkg
  clear T0 T1 hg hL hl hn X T hS hk hkg
  (try dsimp only)
  k_steps
  all_goals (refine hR _ _ (fun b o e n => Fr.keep (by assumption) b o (hg' b o e n)) ?_)
  · rw [if_pos (by assumption)]
    exact News.get (by assumption) (List.Mem.head _)
  · rw [if_neg (by simp only [*]; decide)]
    exact News.get (by assumption) (List.Mem.head _)
set_option maxHeartbeats 8000000 in
theorem siftdown31 {w : World} {A : Around} {s : Shared} {R : Result → Shared → Prop} {h₀ : Heap} {p : Program} {loose : List Str} {mean : ExcName → Option Value} {mg mb : Str → Option Value}
   {hp t0 t1 t2 : Addr} {nn : Nat} {tk1 tk2 : Tok} {k0 k1 k2 : Ky}
   (X : (Mine.hd.heap_39 w.params).In h₀) (T : Top p loose mean mg mb h₀) (hS : NoShare h₀) (hk : Keeps h₀ s.heap) (hroom : A.depth + 10 < recursionLimit) (hun : A.units + 40 < cLine)
   (hl : s.heap.get? hp = some (listOf #[.ref t0, .ref t1, .ref t2] nn)) (hn : h₀.get? hp = none) (T0 : TK s.heap t0 k0) (T1 : TK s.heap t1 k1) (T2 : TK s.heap t2 k2) (D01 : Dis k0 k1) (D02 : Dis k0 k2) (D12 : Dis k1 k2)
   (hR : ∀ h' tk', But hp s.heap h' → h'.get? hp = some (listOf (if k1.lt k0 then #[.ref t1, .ref t0, .ref t2] else #[.ref t0, .ref t1, .ref t2]) nn) → R (.ok (.ret .none)) { s with heap := h', toks := tk' }) :
   codeAny (model PySem.Challenge.rw_op0141_01.row.prog w) A (.call (.ref 77) ⟨[.ref hp, .int 0 tk1, .int 1 tk2], []⟩) R s := by
  revert X; k_fill; intro X
  refine' enterM X T hk [(hp, listOf #[.ref t0, .ref t1, .ref t2] nn)] ?hh ?k6 ?k7 ?k8 ?k9 ?kB ?_ ?c2 ?c3 ?c4 ?c5
  case hh => intro q hq; simp only [List.mem_singleton] at hq; subst hq; exact ⟨hl, hn⟩
  case k6 => k_is
  case k7 => k_is
  case k8 => omega
  case k9 => exact BindsTo.of_eq rfl
  case kB => exact locs rfl
  case c5 => decide
  case c2 => rfl
  case c3 => rfl
  case c4 => rfl
  intro g L' h₁ hg hkg X' T' F' N' hL
  have hg' : But hp s.heap g := fun b o e n => hg b o e (by intro q hq; simp only [List.mem_singleton] at hq; subst hq; exact n)
  have U0 := T0.but hl hg'
  have U1 := T1.but hl hg'
  have U2 := T2.but hl hg'
  have hS' := hS.keeps hkg
  clear T0 T1 T2 hg hL hl hn X T hS hk hkg
  (try dsimp only)
  k_steps
  all_goals (refine hR _ _ (fun b o e n => Fr.keep (by assumption) b o (hg' b o e n)) ?_)
  · rw [if_pos (by assumption)]
    exact News.get (by assumption) (List.Mem.head _)
  · rw [if_neg (by simp only [*]; decide)]
    exact News.get (by assumption) (List.Mem.head _)
set_option maxHeartbeats 8000000 in
theorem siftdown32 {w : World} {A : Around} {s : Shared} {R : Result → Shared → Prop} {h₀ : Heap} {p : Program} {loose : List Str} {mean : ExcName → Option Value} {mg mb : Str → Option Value}
   {hp t0 t1 t2 : Addr} {nn : Nat} {tk1 tk2 : Tok} {k0 k1 k2 : Ky}
   (X : (Mine.hd.heap_39 w.params).In h₀) (T : Top p loose mean mg mb h₀) (hS : NoShare h₀) (hk : Keeps h₀ s.heap) (hroom : A.depth + 10 < recursionLimit) (hun : A.units + 40 < cLine)
   (hl : s.heap.get? hp = some (listOf #[.ref t0, .ref t1, .ref t2] nn)) (hn : h₀.get? hp = none) (T0 : TK s.heap t0 k0) (T1 : TK s.heap t1 k1) (T2 : TK s.heap t2 k2) (D01 : Dis k0 k1) (D02 : Dis k0 k2) (D12 : Dis k1 k2)
   (hR : ∀ h' tk', But hp s.heap h' → h'.get? hp = some (listOf (if k2.lt k0 then #[.ref t2, .ref t1, .ref t0] else #[.ref t0, .ref t1, .ref t2]) nn) → R (.ok (.ret .none)) { s with heap := h', toks := tk' }) :
   codeAny (model PySem.Challenge.rw_op0141_01.row.prog w) A (.call (.ref 77) ⟨[.ref hp, .int 0 tk1, .int 2 tk2], []⟩) R s := by
  revert X; k_fill; intro X
  refine' enterM X T hk [(hp, listOf #[.ref t0, .ref t1, .ref t2] nn)] ?hh ?k6 ?k7 ?k8 ?k9 ?kB ?_ ?c2 ?c3 ?c4 ?c5
  case hh => intro q hq; simp only [List.mem_singleton] at hq; subst hq; exact ⟨hl, hn⟩
  case k6 => k_is
  case k7 => k_is
  case k8 => omega
  case k9 => exact BindsTo.of_eq rfl
  case kB => exact locs rfl
  case c5 => decide
  case c2 => rfl
  case c3 => rfl
  case c4 => rfl
  intro g L' h₁ hg hkg X' T' F' N' hL
  have hg' : But hp s.heap g := fun b o e n => hg b o e (by intro q hq; simp only [List.mem_singleton] at hq; subst hq; exact n)
  have U0 := T0.but hl hg'
  have U1 := T1.but hl hg'
  have U2 := T2.but hl hg'
  have hS' := hS.keeps hkg
  clear T0 T1 T2 hg hL hl hn X T hS hk hkg
  (try dsimp only)
  k_steps
  all_goals (refine hR _ _ (fun b o e n => Fr.keep (by assumption) b o (hg' b o e n)) ?_)
  · rw [if_pos (by assumption)]
    exact News.get (by assumption) (List.Mem.head _)
  · rw [if_neg (by simp only [*]; decide)]
    exact News.get (by assumption) (List.Mem.head _)
set_option maxHeartbeats 8000000 in
theorem siftdown_max21 {w : World} {A : Around} {s : Shared} {R : Result → Shared → Prop} {h₀ : Heap} {p : Program} {loose : List Str} {mean : ExcName → Option Value} {mg mb : Str → Option Value}
   {hp t0 t1 : Addr} {nn : Nat} {tk1 tk2 : Tok} {k0 k1 : Ky}
   (X : (Mine.hd.heap_39 w.params).In h₀) (T : Top p loose mean mg mb h₀) (hS : NoShare h₀) (hk : Keeps h₀ s.heap) (hroom : A.depth + 10 < recursionLimit) (hun : A.units + 40 < cLine)
   (hl : s.heap.get? hp = some (listOf #[.ref t0, .ref t1] nn)) (hn : h₀.get? hp = none) (T0 : TK s.heap t0 k0) (T1 : TK s.heap t1 k1) (D01 : Dis k0 k1)
   (hR : ∀ h' tk', But hp s.heap h' → h'.get? hp = some (listOf (if k0.lt k1 then #[.ref t1, .ref t0] else #[.ref t0, .ref t1]) nn) → R (.ok (.ret .none)) { s with heap := h', toks := tk' }) :
   codeAny (model PySem.Challenge.rw_op0141_01.row.prog w) A (.call (.ref 91) ⟨[.ref hp, .int 0 tk1, .int 1 tk2], []⟩) R s := by
  revert X; k_fill; intro X
  refine' enterM X T hk [(hp, listOf #[.ref t0, .ref t1] nn)] ?hh ?k6 ?k7 ?k8 ?k9 ?kB ?_ ?c2 ?c3 ?c4 ?c5
  case hh => intro q hq; simp only [List.mem_singleton] at hq; subst hq; exact ⟨hl, hn⟩
  case k6 => k_is
  case k7 => k_is
  case k8 => omega
  case k9 => exact BindsTo.of_eq rfl
  case kB => exact locs rfl
  case c5 => decide
  case c2 => rfl
  case c3 => rfl
  case c4 => rfl
  intro g L' h₁ hg hkg X' T' F' N' hL
  have hg' : But hp s.heap g := fun b o e n => hg b o e (by intro q hq; simp only [List.mem_singleton] at hq; subst hq; exact n)
  have U0 := T0.but hl hg'
  have U1 := T1.but hl hg'
  have hS' := hS.keeps hkg
  clear T0 T1 hg hL hl hn X T hS hk hkg
  (try dsimp only)
  k_steps
  all_goals (refine hR _ _ (fun b o e n => Fr.keep (by assumption) b o (hg' b o e n)) ?_)
  · rw [if_pos (by assumption)]
    exact News.get (by assumption) (List.Mem.head _)
  · rw [if_neg (by simp only [*]; decide)]
    exact News.get (by assumption) (List.Mem.head _)
set_option maxHeartbeats 8000000 in
theorem siftdown_max31 {w : World} {A : Around} {s : Shared} {R : Result → Shared → Prop} {h₀ : Heap} {p : Program} {loose : List Str} {mean : ExcName → Option Value} {mg mb : Str → Option Value}
   {hp t0 t1 t2 : Addr} {nn : Nat} {tk1 tk2 : Tok} {k0 k1 k2 : Ky}
   (X : (Mine.hd.heap_39 w.params).In h₀) (T : Top p loose mean mg mb h₀) (hS : NoShare h₀) (hk : Keeps h₀ s.heap) (hroom : A.depth + 10 < recursionLimit) (hun : A.units + 40 < cLine)
   (hl : s.heap.get? hp = some (listOf #[.ref t0, .ref t1, .ref t2] nn)) (hn : h₀.get? hp = none) (T0 : TK s.heap t0 k0) (T1 : TK s.heap t1 k1) (T2 : TK s.heap t2 k2) (D01 : Dis k0 k1) (D02 : Dis k0 k2) (D12 : Dis k1 k2)
   (hR : ∀ h' tk', But hp s.heap h' → h'.get? hp = some (listOf (if k0.lt k1 then #[.ref t1, .ref t0, .ref t2] else #[.ref t0, .ref t1, .ref t2]) nn) → R (.ok (.ret .none)) { s with heap := h', toks := tk' }) :
   codeAny (model PySem.Challenge.rw_op0141_01.row.prog w) A (.call (.ref 91) ⟨[.ref hp, .int 0 tk1, .int 1 tk2], []⟩) R s := by
  revert X; k_fill; intro X
  refine' enterM X T hk [(hp, listOf #[.ref t0, .ref t1, .ref t2] nn)] ?hh ?k6 ?k7 ?k8 ?k9 ?kB ?_ ?c2 ?c3 ?c4 ?c5
  case hh => intro q hq; simp only [List.mem_singleton] at hq; subst hq; exact ⟨hl, hn⟩
  case k6 => k_is
  case k7 => k_is
  case k8 => omega
  case k9 => exact BindsTo.of_eq rfl
  case kB => exact locs rfl
  case c5 => decide
  case c2 => rfl
  case c3 => rfl
  case c4 => rfl
  intro g L' h₁ hg hkg X' T' F' N' hL
  have hg' : But hp s.heap g := fun b o e n => hg b o e (by intro q hq; simp only [List.mem_singleton] at hq; subst hq; exact n)
  have U0 := T0.but hl hg'
  have U1 := T1.but hl hg'
  have U2 := T2.but hl hg'
  have hS' := hS.keeps hkg
  clear T0 T1 T2 hg hL hl hn X T hS hk hkg
  (try dsimp only)
  k_steps
  all_goals (refine hR _ _ (fun b o e n => Fr.keep (by assumption) b o (hg' b o e n)) ?_)
  · rw [if_pos (by assumption)]
    exact News.get (by assumption) (List.Mem.head _)
  · rw [if_neg (by simp only [*]; decide)]
    exact News.get (by assumption) (List.Mem.head _)
set_option maxHeartbeats 8000000 in
theorem siftdown_max32 {w : World} {A : Around} {s : Shared} {R : Result → Shared → Prop} {h₀ : Heap} {p : Program} {loose : List Str} {mean : ExcName → Option Value} {mg mb : Str → Option Value}
   {hp t0 t1 t2 : Addr} {nn : Nat} {tk1 tk2 : Tok} {k0 k1 k2 : Ky}
   (X : (Mine.hd.heap_39 w.params).In h₀) (T : Top p loose mean mg mb h₀) (hS : NoShare h₀) (hk : Keeps h₀ s.heap) (hroom : A.depth + 10 < recursionLimit) (hun : A.units + 40 < cLine)
   (hl : s.heap.get? hp = some (listOf #[.ref t0, .ref t1, .ref t2] nn)) (hn : h₀.get? hp = none) (T0 : TK s.heap t0 k0) (T1 : TK s.heap t1 k1) (T2 : TK s.heap t2 k2) (D01 : Dis k0 k1) (D02 : Dis k0 k2) (D12 : Dis k1 k2)
   (hR : ∀ h' tk', But hp s.heap h' → h'.get? hp = some (listOf (if k0.lt k2 then #[.ref t2, .ref t1, .ref t0] else #[.ref t0, .ref t1, .ref t2]) nn) → R (.ok (.ret .none)) { s with heap := h', toks := tk' }) :
   codeAny (model PySem.Challenge.rw_op0141_01.row.prog w) A (.call (.ref 91) ⟨[.ref hp, .int 0 tk1, .int 2 tk2], []⟩) R s := by
  revert X; k_fill; intro X
  refine' enterM X T hk [(hp, listOf #[.ref t0, .ref t1, .ref t2] nn)] ?hh ?k6 ?k7 ?k8 ?k9 ?kB ?_ ?c2 ?c3 ?c4 ?c5
  case hh => intro q hq; simp only [List.mem_singleton] at hq; subst hq; exact ⟨hl, hn⟩
  case k6 => k_is
  case k7 => k_is
  case k8 => omega
  case k9 => exact BindsTo.of_eq rfl
  case kB => exact locs rfl
  case c5 => decide
  case c2 => rfl
  case c3 => rfl
  case c4 => rfl
  intro g L' h₁ hg hkg X' T' F' N' hL
  have hg' : But hp s.heap g := fun b o e n => hg b o e (by intro q hq; simp only [List.mem_singleton] at hq; subst hq; exact n)
  have U0 := T0.but hl hg'
  have U1 := T1.but hl hg'
  have U2 := T2.but hl hg'
  have hS' := hS.keeps hkg
  clear T0 T1 T2 hg hL hl hn X T hS hk hkg
  (try dsimp only)
  k_steps
  all_goals (refine hR _ _ (fun b o e n => Fr.keep (by assumption) b o (hg' b o e n)) ?_)
  · rw [if_pos (by assumption)]
    exact News.get (by assumption) (List.Mem.head _)
  · rw [if_neg (by simp only [*]; decide)]
    exact News.get (by assumption) (List.Mem.head _)
set_option maxHeartbeats 8000000 in
theorem siftup2 {w : World} {A : Around} {s : Shared} {R : Result → Shared → Prop} {h₀ : Heap} {p : Program} {loose : List Str} {mean : ExcName → Option Value} {mg mb : Str → Option Value}
   {hp t0 t1 : Addr} {nn : Nat} {tk1 : Tok} {k0 k1 : Ky}
   (X : (Mine.hd.heap_39 w.params).In h₀) (T : Top p loose mean mg mb h₀) (hS : NoShare h₀) (hk : Keeps h₀ s.heap) (hroom : A.depth + 14 < recursionLimit) (hun : A.units + 60 < cLine)
   (hl : s.heap.get? hp = some (listOf #[.ref t0, .ref t1] nn)) (hn : h₀.get? hp = none) (T0 : TK s.heap t0 k0) (T1 : TK s.heap t1 k1) (D01 : Dis k0 k1)
   (hR : ∀ h' tk', But hp s.heap h' → h'.get? hp = some (listOf (if k0.lt k1 then #[.ref t0, .ref t1] else #[.ref t1, .ref t0]) nn) → R (.ok (.ret .none)) { s with heap := h', toks := tk' }) :
   codeAny (model PySem.Challenge.rw_op0141_01.row.prog w) A (.call (.ref 84) ⟨[.ref hp, .int 0 tk1], []⟩) R s := by
  k_with "call ref" => (k_here; (with_reducible show wpAny _ _ (call (Value.ref 77) _) _ _ _); (with_unfolding_all refine' wpAny_call (siftdown21 ?X ?T ?S ?hk ?hr ?hu ?hl ?hn ?T0 ?T1 ?D01 ?_)); (case X => assumption); (case T => assumption); (case S => assumption); (case hk => exact Fr.keep (by assumption)); (case hr => (first | omega | (simp only [depth_deeper, units_deeper, depth_in1, units_in1] at *; omega))); (case hu => (first | omega | (simp only [depth_deeper, units_deeper, depth_in1, units_in1] at *; omega))); (case hl => exact News.get (by assumption) (List.Mem.head _)); (case hn => exact News.fresh (by assumption) (List.Mem.head _)); (case T0 => exact TK.keeps (by assumption) (Fr.keep (by assumption))); (case T1 => exact TK.keeps (by assumption) (Fr.keep (by assumption))); (case D01 => first | assumption | exact Dis.symm (by assumption)); (intro h' tk' hb' hq'; (obtain ⟨F', N'⟩ := frame_mut (by assumption) (by assumption) hb' hq'); clear hb' hq'; (try dsimp only); walk_say "MINE siftdown21"))
  revert X; k_fill; intro X
  refine' enterM X T hk [(hp, listOf #[.ref t0, .ref t1] nn)] ?hh ?k6 ?k7 ?k8 ?k9 ?kB ?_ ?c2 ?c3 ?c4 ?c5
  case hh => intro q hq; simp only [List.mem_singleton] at hq; subst hq; exact ⟨hl, hn⟩
  case k6 => k_is
  case k7 => k_is
  case k8 => omega
  case k9 => exact BindsTo.of_eq rfl
  case kB => exact locs rfl
  case c5 => decide
  case c2 => rfl
  case c3 => rfl
  case c4 => rfl
  intro g L' h₁ hg hkg X' T' F' N' hL
  have hg' : But hp s.heap g := fun b o e n => hg b o e (by intro q hq; simp only [List.mem_singleton] at hq; subst hq; exact n)
  have U0 := T0.but hl hg'
  have U1 := T1.but hl hg'
  have hS' := hS.keeps hkg
  clear T0 T1 hg hL hl hn X T hS hk hkg
  (try dsimp only)
  k_steps
  all_goals (refine hR _ _ (fun b o e n => Fr.keep (by assumption) b o (hg' b o e n)) ?_)
  · exact News.get (by assumption) (List.Mem.head _)
set_option maxHeartbeats 8000000 in
theorem siftup3 {w : World} {A : Around} {s : Shared} {R : Result → Shared → Prop} {h₀ : Heap} {p : Program} {loose : List Str} {mean : ExcName → Option Value} {mg mb : Str → Option Value}
   {hp t0 t1 t2 : Addr} {nn : Nat} {tk1 : Tok} {k0 k1 k2 : Ky}
   (X : (Mine.hd.heap_39 w.params).In h₀) (T : Top p loose mean mg mb h₀) (hS : NoShare h₀) (hk : Keeps h₀ s.heap) (hroom : A.depth + 14 < recursionLimit) (hun : A.units + 60 < cLine)
   (hl : s.heap.get? hp = some (listOf #[.ref t0, .ref t1, .ref t2] nn)) (hn : h₀.get? hp = none) (T0 : TK s.heap t0 k0) (T1 : TK s.heap t1 k1) (T2 : TK s.heap t2 k2) (D01 : Dis k0 k1) (D02 : Dis k0 k2) (D12 : Dis k1 k2)
   (hR : ∀ h' tk', But hp s.heap h' → h'.get? hp = some (listOf (if k1.lt k2 then (if k0.lt k1 then #[.ref t0, .ref t1, .ref t2] else #[.ref t1, .ref t0, .ref t2]) else (if k0.lt k2 then #[.ref t0, .ref t1, .ref t2] else #[.ref t2, .ref t1, .ref t0])) nn) → R (.ok (.ret .none)) { s with heap := h', toks := tk' }) :
   codeAny (model PySem.Challenge.rw_op0141_01.row.prog w) A (.call (.ref 84) ⟨[.ref hp, .int 0 tk1], []⟩) R s := by
  k_with "call ref" => (k_here; (with_reducible show wpAny _ _ (call (Value.ref 77) _) _ _ _); (with_unfolding_all refine' wpAny_call (siftdown31 ?X ?T ?S ?hk ?hr ?hu ?hl ?hn ?T0 ?T1 ?T2 ?D01 ?D02 ?D12 ?_)); (case X => assumption); (case T => assumption); (case S => assumption); (case hk => exact Fr.keep (by assumption)); (case hr => (first | omega | (simp only [depth_deeper, units_deeper, depth_in1, units_in1] at *; omega))); (case hu => (first | omega | (simp only [depth_deeper, units_deeper, depth_in1, units_in1] at *; omega))); (case hl => exact News.get (by assumption) (List.Mem.head _)); (case hn => exact News.fresh (by assumption) (List.Mem.head _)); (case T0 => exact TK.keeps (by assumption) (Fr.keep (by assumption))); (case T1 => exact TK.keeps (by assumption) (Fr.keep (by assumption))); (case T2 => exact TK.keeps (by assumption) (Fr.keep (by assumption))); (case D01 => first | assumption | exact Dis.symm (by assumption)); (case D02 => first | assumption | exact Dis.symm (by assumption)); (case D12 => first | assumption | exact Dis.symm (by assumption)); (intro h' tk' hb' hq'; (obtain ⟨F', N'⟩ := frame_mut (by assumption) (by assumption) hb' hq'); clear hb' hq'; (try dsimp only); walk_say "MINE siftdown31"))
  k_with "call ref" => (k_here; (with_reducible show wpAny _ _ (call (Value.ref 77) _) _ _ _); (with_unfolding_all refine' wpAny_call (siftdown32 ?X ?T ?S ?hk ?hr ?hu ?hl ?hn ?T0 ?T1 ?T2 ?D01 ?D02 ?D12 ?_)); (case X => assumption); (case T => assumption); (case S => assumption); (case hk => exact Fr.keep (by assumption)); (case hr => (first | omega | (simp only [depth_deeper, units_deeper, depth_in1, units_in1] at *; omega))); (case hu => (first | omega | (simp only [depth_deeper, units_deeper, depth_in1, units_in1] at *; omega))); (case hl => exact News.get (by assumption) (List.Mem.head _)); (case hn => exact News.fresh (by assumption) (List.Mem.head _)); (case T0 => exact TK.keeps (by assumption) (Fr.keep (by assumption))); (case T1 => exact TK.keeps (by assumption) (Fr.keep (by assumption))); (case T2 => exact TK.keeps (by assumption) (Fr.keep (by assumption))); (case D01 => first | assumption | exact Dis.symm (by assumption)); (case D02 => first | assumption | exact Dis.symm (by assumption)); (case D12 => first | assumption | exact Dis.symm (by assumption)); (intro h' tk' hb' hq'; (obtain ⟨F', N'⟩ := frame_mut (by assumption) (by assumption) hb' hq'); clear hb' hq'; (try dsimp only); walk_say "MINE siftdown32"))
  revert X; k_fill; intro X
  refine' enterM X T hk [(hp, listOf #[.ref t0, .ref t1, .ref t2] nn)] ?hh ?k6 ?k7 ?k8 ?k9 ?kB ?_ ?c2 ?c3 ?c4 ?c5
  case hh => intro q hq; simp only [List.mem_singleton] at hq; subst hq; exact ⟨hl, hn⟩
  case k6 => k_is
  case k7 => k_is
  case k8 => omega
  case k9 => exact BindsTo.of_eq rfl
  case kB => exact locs rfl
  case c5 => decide
  case c2 => rfl
  case c3 => rfl
  case c4 => rfl
  intro g L' h₁ hg hkg X' T' F' N' hL
  have hg' : But hp s.heap g := fun b o e n => hg b o e (by intro q hq; simp only [List.mem_singleton] at hq; subst hq; exact n)
  have U0 := T0.but hl hg'
  have U1 := T1.but hl hg'
  have U2 := T2.but hl hg'
  have hS' := hS.keeps hkg
  clear T0 T1 T2 hg hL hl hn X T hS hk hkg
  (try dsimp only)
  k_steps
  all_goals (refine hR _ _ (fun b o e n => Fr.keep (by assumption) b o (hg' b o e n)) ?_)
  · rw [if_pos (by assumption)]
    exact News.get (by assumption) (List.Mem.head _)
  · rw [if_neg (by simp only [*]; decide)]
    exact News.get (by assumption) (List.Mem.head _)
set_option maxHeartbeats 8000000 in
theorem siftup_max2 {w : World} {A : Around} {s : Shared} {R : Result → Shared → Prop} {h₀ : Heap} {p : Program} {loose : List Str} {mean : ExcName → Option Value} {mg mb : Str → Option Value}
   {hp t0 t1 : Addr} {nn : Nat} {tk1 : Tok} {k0 k1 : Ky}
   (X : (Mine.hd.heap_39 w.params).In h₀) (T : Top p loose mean mg mb h₀) (hS : NoShare h₀) (hk : Keeps h₀ s.heap) (hroom : A.depth + 14 < recursionLimit) (hun : A.units + 60 < cLine)
   (hl : s.heap.get? hp = some (listOf #[.ref t0, .ref t1] nn)) (hn : h₀.get? hp = none) (T0 : TK s.heap t0 k0) (T1 : TK s.heap t1 k1) (D01 : Dis k0 k1)
   (hR : ∀ h' tk', But hp s.heap h' → h'.get? hp = some (listOf (if k1.lt k0 then #[.ref t0, .ref t1] else #[.ref t1, .ref t0]) nn) → R (.ok (.ret .none)) { s with heap := h', toks := tk' }) :
   codeAny (model PySem.Challenge.rw_op0141_01.row.prog w) A (.call (.ref 98) ⟨[.ref hp, .int 0 tk1], []⟩) R s := by
  k_with "call ref" => (k_here; (with_reducible show wpAny _ _ (call (Value.ref 91) _) _ _ _); (with_unfolding_all refine' wpAny_call (siftdown_max21 ?X ?T ?S ?hk ?hr ?hu ?hl ?hn ?T0 ?T1 ?D01 ?_)); (case X => assumption); (case T => assumption); (case S => assumption); (case hk => exact Fr.keep (by assumption)); (case hr => (first | omega | (simp only [depth_deeper, units_deeper, depth_in1, units_in1] at *; omega))); (case hu => (first | omega | (simp only [depth_deeper, units_deeper, depth_in1, units_in1] at *; omega))); (case hl => exact News.get (by assumption) (List.Mem.head _)); (case hn => exact News.fresh (by assumption) (List.Mem.head _)); (case T0 => exact TK.keeps (by assumption) (Fr.keep (by assumption))); (case T1 => exact TK.keeps (by assumption) (Fr.keep (by assumption))); (case D01 => first | assumption | exact Dis.symm (by assumption)); (intro h' tk' hb' hq'; (obtain ⟨F', N'⟩ := frame_mut (by assumption) (by assumption) hb' hq'); clear hb' hq'; (try dsimp only); walk_say "MINE siftdown_max21"))
  revert X; k_fill; intro X
  refine' enterM X T hk [(hp, listOf #[.ref t0, .ref t1] nn)] ?hh ?k6 ?k7 ?k8 ?k9 ?kB ?_ ?c2 ?c3 ?c4 ?c5
  case hh => intro q hq; simp only [List.mem_singleton] at hq; subst hq; exact ⟨hl, hn⟩
  case k6 => k_is
  case k7 => k_is
  case k8 => omega
  case k9 => exact BindsTo.of_eq rfl
  case kB => exact locs rfl
  case c5 => decide
  case c2 => rfl
  case c3 => rfl
  case c4 => rfl
  intro g L' h₁ hg hkg X' T' F' N' hL
  have hg' : But hp s.heap g := fun b o e n => hg b o e (by intro q hq; simp only [List.mem_singleton] at hq; subst hq; exact n)
  have U0 := T0.but hl hg'
  have U1 := T1.but hl hg'
  have hS' := hS.keeps hkg
  clear T0 T1 hg hL hl hn X T hS hk hkg
  (try dsimp only)
  k_steps
  all_goals (refine hR _ _ (fun b o e n => Fr.keep (by assumption) b o (hg' b o e n)) ?_)
  · exact News.get (by assumption) (List.Mem.head _)
set_option maxHeartbeats 8000000 in
theorem siftup_max3 {w : World} {A : Around} {s : Shared} {R : Result → Shared → Prop} {h₀ : Heap} {p : Program} {loose : List Str} {mean : ExcName → Option Value} {mg mb : Str → Option Value}
   {hp t0 t1 t2 : Addr} {nn : Nat} {tk1 : Tok} {k0 k1 k2 : Ky}
   (X : (Mine.hd.heap_39 w.params).In h₀) (T : Top p loose mean mg mb h₀) (hS : NoShare h₀) (hk : Keeps h₀ s.heap) (hroom : A.depth + 14 < recursionLimit) (hun : A.units + 60 < cLine)
   (hl : s.heap.get? hp = some (listOf #[.ref t0, .ref t1, .ref t2] nn)) (hn : h₀.get? hp = none) (T0 : TK s.heap t0 k0) (T1 : TK s.heap t1 k1) (T2 : TK s.heap t2 k2) (D01 : Dis k0 k1) (D02 : Dis k0 k2) (D12 : Dis k1 k2)
   (hR : ∀ h' tk', But hp s.heap h' → h'.get? hp = some (listOf (if k2.lt k1 then (if k1.lt k0 then #[.ref t0, .ref t1, .ref t2] else #[.ref t1, .ref t0, .ref t2]) else (if k2.lt k0 then #[.ref t0, .ref t1, .ref t2] else #[.ref t2, .ref t1, .ref t0])) nn) → R (.ok (.ret .none)) { s with heap := h', toks := tk' }) :
   codeAny (model PySem.Challenge.rw_op0141_01.row.prog w) A (.call (.ref 98) ⟨[.ref hp, .int 0 tk1], []⟩) R s := by
  k_with "call ref" => (k_here; (with_reducible show wpAny _ _ (call (Value.ref 91) _) _ _ _); (with_unfolding_all refine' wpAny_call (siftdown_max31 ?X ?T ?S ?hk ?hr ?hu ?hl ?hn ?T0 ?T1 ?T2 ?D01 ?D02 ?D12 ?_)); (case X => assumption); (case T => assumption); (case S => assumption); (case hk => exact Fr.keep (by assumption)); (case hr => (first | omega | (simp only [depth_deeper, units_deeper, depth_in1, units_in1] at *; omega))); (case hu => (first | omega | (simp only [depth_deeper, units_deeper, depth_in1, units_in1] at *; omega))); (case hl => exact News.get (by assumption) (List.Mem.head _)); (case hn => exact News.fresh (by assumption) (List.Mem.head _)); (case T0 => exact TK.keeps (by assumption) (Fr.keep (by assumption))); (case T1 => exact TK.keeps (by assumption) (Fr.keep (by assumption))); (case T2 => exact TK.keeps (by assumption) (Fr.keep (by assumption))); (case D01 => first | assumption | exact Dis.symm (by assumption)); (case D02 => first | assumption | exact Dis.symm (by assumption)); (case D12 => first | assumption | exact Dis.symm (by assumption)); (intro h' tk' hb' hq'; (obtain ⟨F', N'⟩ := frame_mut (by assumption) (by assumption) hb' hq'); clear hb' hq'; (try dsimp only); walk_say "MINE siftdown_max31"))
  k_with "call ref" => (k_here; (with_reducible show wpAny _ _ (call (Value.ref 91) _) _ _ _); (with_unfolding_all refine' wpAny_call (siftdown_max32 ?X ?T ?S ?hk ?hr ?hu ?hl ?hn ?T0 ?T1 ?T2 ?D01 ?D02 ?D12 ?_)); (case X => assumption); (case T => assumption); (case S => assumption); (case hk => exact Fr.keep (by assumption)); (case hr => (first | omega | (simp only [depth_deeper, units_deeper, depth_in1, units_in1] at *; omega))); (case hu => (first | omega | (simp only [depth_deeper, units_deeper, depth_in1, units_in1] at *; omega))); (case hl => exact News.get (by assumption) (List.Mem.head _)); (case hn => exact News.fresh (by assumption) (List.Mem.head _)); (case T0 => exact TK.keeps (by assumption) (Fr.keep (by assumption))); (case T1 => exact TK.keeps (by assumption) (Fr.keep (by assumption))); (case T2 => exact TK.keeps (by assumption) (Fr.keep (by assumption))); (case D01 => first | assumption | exact Dis.symm (by assumption)); (case D02 => first | assumption | exact Dis.symm (by assumption)); (case D12 => first | assumption | exact Dis.symm (by assumption)); (intro h' tk' hb' hq'; (obtain ⟨F', N'⟩ := frame_mut (by assumption) (by assumption) hb' hq'); clear hb' hq'; (try dsimp only); walk_say "MINE siftdown_max32"))
  revert X; k_fill; intro X
  refine' enterM X T hk [(hp, listOf #[.ref t0, .ref t1, .ref t2] nn)] ?hh ?k6 ?k7 ?k8 ?k9 ?kB ?_ ?c2 ?c3 ?c4 ?c5
  case hh => intro q hq; simp only [List.mem_singleton] at hq; subst hq; exact ⟨hl, hn⟩
  case k6 => k_is
  case k7 => k_is
  case k8 => omega
  case k9 => exact BindsTo.of_eq rfl
  case kB => exact locs rfl
  case c5 => decide
  case c2 => rfl
  case c3 => rfl
  case c4 => rfl
  intro g L' h₁ hg hkg X' T' F' N' hL
  have hg' : But hp s.heap g := fun b o e n => hg b o e (by intro q hq; simp only [List.mem_singleton] at hq; subst hq; exact n)
  have U0 := T0.but hl hg'
  have U1 := T1.but hl hg'
  have U2 := T2.but hl hg'
  have hS' := hS.keeps hkg
  clear T0 T1 T2 hg hL hl hn X T hS hk hkg
  (try dsimp only)
  k_steps
  all_goals (refine hR _ _ (fun b o e n => Fr.keep (by assumption) b o (hg' b o e n)) ?_)
  · rw [if_pos (by assumption)]
    exact News.get (by assumption) (List.Mem.head _)
  · rw [if_neg (by simp only [*]; decide)]
    exact News.get (by assumption) (List.Mem.head _)
end Mine
end

section
open PySem PySem.W PySem.Calls PyProof.Rows
set_option maxRecDepth 100000
namespace Mine
/-- a range_iterator -/
abbrev rit (x left step : Int) : Obj := { cls := .type "range_iterator", dict := none, data := .fields #[rawInt x, rawInt left, rawInt step], slots := #[] }
theorem sub_rit_reversed : isSubtype (.type "range_iterator") (.type "reversed") = pure false := by rw [isSubtype_type]; kernel_rfl
section
variable {prog : Program} {w : World} {A : Around} {E : Value → Shared → Prop} {s : Shared}
theorem call_range_reversed1 {r : Addr} {t u v : Tok} {Q : Value → Shared → Prop} (hr : IsRange s.heap r 0 1 1 t u v)
    (h : Q (.ref s.heap.objs.size) { s with heap := s.heap.push (rit 0 1 (-1)) }) : wpAny (model prog w) A (call (.builtin "range.__reversed__") [.ref r]) Q E s := by
  refine wpAny_call_entry F.slot_range_reversed ⟨_, hr, rfl⟩ F.entry_range_reversed ?_ (F.args_range_reversed_1 _)
  unfold Builtin.«range.__reversed__»
  refine wpAny_bind (wpAny_of_eq (a := Value.ref r) rfl ?_)
  unfold Builtin.Range.rangeFields
  refine wpAny_bind (wpAny_bind (wpAny_field hr rfl (x := .int 0 t) rfl ?_))
  refine wpAny_bind (wpAny_of_eq (a := some 0) rfl ?_)
  refine wpAny_bind (wpAny_field hr rfl (x := .int 1 u) rfl ?_)
  refine wpAny_bind (wpAny_of_eq (a := some 1) rfl ?_)
  refine wpAny_bind (wpAny_field hr rfl (x := .int 1 v) rfl ?_)
  refine wpAny_bind (wpAny_of_eq (a := some 1) rfl ?_)
  refine wpAny_pure ?_
  exact wpAny_bind (wpAny_newObj_type (wpAny_pure ⟨_, rfl, h⟩))
theorem code_reversed_range1 {r : Addr} {t u v : Tok} {Q₁ : Value → Shared → Prop} (hr : IsRange s.heap r 0 1 1 t u v)
    (h : Q₁ (.ref s.heap.objs.size) { s with heap := s.heap.push (rit 0 1 (-1)) }) :
    codeAny (model prog w) A (.call (.builtin "reversed.__new__") ⟨[.type "reversed", .ref r], []⟩) (wants Q₁ E) s := by
  refine codeAny_of_tree ?_
  show wpAny _ A.in1 (do checkBuiltinCall "reversed.__new__" ⟨[.type "reversed", .ref r], []⟩; again (.builtin "reversed.__new__" ⟨[.type "reversed", .ref r], []⟩)) _ _ s
  refine wpAny_bind (wpAny_of_eq (F.newCall_reversed_1 _) (wpAny_pure ⟨plainId_quiet F.plain_reversed_new _, codeAny_builtin F.entry_reversed_new ?_⟩))
  rw [Around.under_plainId F.plain_reversed_new _]
  unfold Builtin.«reversed.__new__»
  refine wpAny_bind (wpAny_of_eq (newClass_reversed _) ?_)
  (try dsimp only)
  refine wpAny_bind (wpAny_of_eq (a := ()) (by first | rfl | kernel_rfl) ?_)
  refine wpAny_bind (wpAny_of_eq (a := ()) (by first | rfl | kernel_rfl) ?_)
  (try dsimp only)
  refine wpAny_bind (wpAny_specialOf ⟨_, hr, rfl⟩ F.slot_range_reversed.lookup ?_)
  (try dsimp only)
  refine wpAny_bind (wpAny_of_eq (F.slot_range_reversed.bind _) ?_)
  (try dsimp only)
  rw [if_neg (show ¬ ((Value.builtin "range.__reversed__" == Value.none) = true) from Bool.false_ne_true)]
  refine wpAny_bind (wpAny_rule ?_)
  refine wpAny_bind (m := runValue (.call (.builtin "range.__reversed__") ⟨[.ref r], []⟩)) (show wpAny _ _ (call (.builtin "range.__reversed__") [.ref r]) _ _ _ from call_range_reversed1 hr ?_)
  first
  | exact wpAny_pure h
  | exact wpAny_bind (wpAny_pure (wpAny_pure h))
theorem call_reversed_range1 {r : Addr} {t u v : Tok} {Q : Value → Shared → Prop} (hr : IsRange s.heap r 0 1 1 t u v)
    (h : Q (.ref s.heap.objs.size) { s with heap := s.heap.push (rit 0 1 (-1)) }) : wpAny (model prog w) A (call (.type "reversed") [.ref r]) Q E s := by
  refine callType_other (U := "range_iterator") (Q₁ := fun obj s₁ => obj = .ref s.heap.objs.size ∧ s₁ = { s with heap := s.heap.push (rit 0 1 (-1)) }) (by decide +kernel) F.create_reversed ⟨_, _, F.mro_reversed⟩ F.made_reversed sub_rit_reversed (F.typeCall_reversed_1 _) (code_reversed_range1 hr ⟨rfl, rfl⟩) ?_
  rintro obj s₁ ⟨rfl, rfl⟩
  exact ⟨⟨_, Heap.get?_push_size _ rfl, rfl⟩, h⟩
/-- one turn of a for -/
theorem for_unroll {R : Result → Shared → Prop} {target : Expr} {it : Value} {body orelse : List Stmt} {env : Env}
    (h : wpAny (model prog w) A (pyNext it) (fun r s₁ => match r with
      | none => wpAny (model prog w) A (execs orelse env) (fun f s₃ => R (.ok f) s₃) (fun _ _ => False) s₁
      | some v => wpAny (model prog w) A (assign target env v) (fun _ s₂ => wpAny (model prog w) A (execs body env) (fun f s₃ => match f with
          | .next | .cont => codeAny (model prog w) A (.forLoop target it body orelse env) R s₃
          | .brk => R (.ok .next) s₃
          | .ret v => R (.ok (.ret v)) s₃) (fun _ _ => False) s₂) (fun _ _ => False) s₁) (fun _ _ => False) s)
    (ht : ∀ v, letOwnedTupleGo target it v = pure () := by intro _; rfl) : codeAny (model prog w) A (.forLoop target it body orelse env) R s := by
  refine codeAny_of_tree ?_
  rw [Around.under_of_weight rfl rfl]
  show wpAny _ _ ((forTurn target it body orelse env).onRaise (fun x => do noteFrame x env; theTreesLotGoes x)) _ _ s
  refine wpAny_noted ?_
  simp only [forTurn]
  refine wpAny_bind (wpAny_standAt (wpAny_bind (wpAny_onRaise (wpAny_mono h (fun r s₁ h₁ => ?_) fun _ _ h' => h'.elim))))
  cases r with
  | none => exact wpAny_pure ⟨rfl, codeAny_block (wpAny_mono h₁ (fun _ _ x => x) fun _ _ x => x.elim)⟩
  | some v =>
    refine wpAny_bind (wpAny_of_eq (ht v) ?_)
    refine wpAny_bind (wpAny_mono h₁ (fun _ s₂ h₂ => wpAny_bind (wpAny_mono h₂ (fun f s₃ h₃ => ?_) fun _ _ h' => h'.elim)) fun _ _ h' => h'.elim)
    cases f with
    | next => exact wpAny_pure ⟨rfl, h₃⟩
    | cont => exact wpAny_pure ⟨rfl, h₃⟩
    | brk => exact wpAny_pure h₃
    | ret v => exact wpAny_pure h₃
end
/-- a new cell upon the ledger -/
theorem led_push {g h : Heap} {L : Addr} {m : Str → Option Value} {news : List (Addr × Obj)} (F : Fr g L h m) (N : News g L h news) (o : Obj) (hf : o.isFreed = false := by rfl) :
    Fr g L (h.push o) m ∧ News g L (h.push o) ((h.objs.size, o) :: news) ∧ ∀ q ∈ news, q.1 < h.objs.size :=
  ⟨F.push o, N.push F o hf, fun q hq => Heap.lt_size (N.get hq)⟩
/-- a cell of the ledger turned -/
theorem led_set {g h h' : Heap} {L a : Addr} {m : Str → Option Value} {pre post : List (Addr × Obj)} {o o' : Obj} (F : Fr g L h m) (N : News g L h (pre ++ (a, o) :: post)) (hs : ∀ b x, h.get? b = some x → b ≠ a → h'.get? b = some x) (hq : h'.get? a = some o')
    (h1 : ∀ q ∈ pre, q.1 ≠ a) (h2 : ∀ q ∈ post, q.1 ≠ a) : Fr g L h' m ∧ News g L h' (pre ++ (a, o') :: post) := by
  have n := N (a, o) (by simp)
  obtain ⟨oL, es, ep, hL, r⟩ := F.ns
  refine ⟨⟨⟨oL, es, ep, hs _ _ hL (fun e => n.2.1 e.symm), r⟩, fun b x e => hs _ _ (F.keep b x e) (fun q => ?_), F.above⟩, fun p hp' => ?_⟩
  · rw [q, n.2.2] at e; cases e
  · rcases List.mem_append.mp hp' with q | q
    · have P := N p (List.mem_append_left _ q); exact ⟨hs _ _ P.1 (h1 p q), P.2⟩
    · rcases List.mem_cons.mp q with rfl | q
      · exact ⟨hq, n.2⟩
      · have P := N p (List.mem_append_right _ (.tail _ q)); exact ⟨hs _ _ P.1 (h2 p q), P.2⟩
end Mine
namespace Mine
section
variable {prog : Program} {w : World} {A : Around} {E : Value → Shared → Prop} {s : Shared} {g : Heap} {L it : Addr} {m : Str → Option Value} {news pre post : List (Addr × Obj)}
theorem rev_K {r : Addr} {t u v : Tok} {Q : Value → Shared → Prop} (F : Fr g L s.heap m) (N : News g L s.heap news) (hr : IsRange s.heap r 0 1 1 t u v)
    (h : ∀ it h', Fr g L h' m → News g L h' ((it, rit 0 1 (-1)) :: news) → (∀ q ∈ news, q.1 < it) → Q (.ref it) { s with heap := h' }) : wpAny (model prog w) A (call (.type "reversed") [.ref r]) Q E s := by
  obtain ⟨F2, N2, l2⟩ := led_push F N (rit 0 1 (-1))
  exact call_reversed_range1 hr (h _ _ F2 N2 l2)
theorem iter_rit_K {x left step : Int} {Q : Value → Shared → Prop} (N : News g L s.heap news) (hm : (it, rit x left step) ∈ news) (h : Q (.ref it) s) : wpAny (model prog w) A (pyIter (.ref it)) Q E s :=
  wpAny_pyIter_rangeiter (N.get hm) h
theorem next_rit_K {x left step : Int} {Q : Option Value → Shared → Prop} (F : Fr g L s.heap m) (N : News g L s.heap (pre ++ (it, rit x left step) :: post)) (h1 : ∀ q ∈ pre, q.1 ≠ it) (h2 : ∀ q ∈ post, q.1 ≠ it) (hleft : 0 < left)
    (h : ∀ h', Fr g L h' m → News g L h' (pre ++ (it, rit (x + step) (left - 1) step) :: post) → Q (some (.int x s.toks)) { s with heap := h', toks := s.toks + 1 }) : wpAny (model prog w) A (pyNext (.ref it)) Q E s := by
  refine wpAny_pyNext_range_item (x := x) (left := left) (step := step) (N.get (List.mem_append_right _ (.head _))) hleft (fun h3 hit3 hs3 => ?_)
  obtain ⟨F3, N3⟩ := led_set F N (fun b x e n => (hs3.2 b n).trans e) hit3 h1 h2
  exact h _ F3 N3
theorem next_rit_end_K {x left step : Int} {Q : Option Value → Shared → Prop} (hh : A.handled = none) (F : Fr g L s.heap m) (N : News g L s.heap (pre ++ (it, rit x left step) :: post)) (h1 : ∀ q ∈ pre, q.1 ≠ it) (h2 : ∀ q ∈ post, q.1 ≠ it) (hleft : left ≤ 0)
    (h : ∀ h', Fr g L h' m → News g L h' (pre ++ post) → Q none { s with heap := h' }) : wpAny (model prog w) A (pyNext (.ref it)) Q E s := by
  refine wpAny_pyNext_range_end (x := x) (left := left) (step := step) hh (N.get (List.mem_append_right _ (.head _))) hleft (fun h3 he => ?_)
  have n := N (it, rit x left step) (by simp)
  obtain ⟨oL, es, ep, hL, r⟩ := F.ns
  refine h _ ⟨⟨oL, es, ep, he _ _ (fun e => n.2.1 e.symm) hL, r⟩, fun b y e => he _ _ (fun q => ?_) (F.keep b y e), F.above⟩ (fun p hp' => ?_)
  · rw [q, n.2.2] at e; cases e
  · rcases List.mem_append.mp hp' with q | q
    · have P := N p (List.mem_append_left _ q); exact ⟨he _ _ (h1 p q) P.1, P.2⟩
    · have P := N p (List.mem_append_right _ (.tail _ q)); exact ⟨he _ _ (h2 p q) P.1, P.2⟩
end
end Mine
end

section
open PySem PySem.W PySem.Spec PySem.Calls PyProof.Rows
namespace Mine
/-- small steps, so that proofs stay small -/
theorem ap_nil {c : Addr} : ∀ q ∈ ([] : List (Addr × Obj)), q.1 ≠ c := fun _ h => by cases h
theorem ap_cons {a c : Addr} {o : Obj} {l : List (Addr × Obj)} (h : @Ne Nat a c) (r : ∀ q ∈ l, q.1 ≠ c) : ∀ q ∈ (a, o) :: l, q.1 ≠ c := List.forall_mem_cons.mpr ⟨h, r⟩
theorem nw_nil {g h : Heap} {L : Addr} : News g L h [] := fun _ h => by cases h
theorem nw_cons {g h : Heap} {L : Addr} {p : Addr × Obj} {l l' : List (Addr × Obj)} (N : News g L h l) (hm : p ∈ l) (r : News g L h l') : News g L h (p :: l') := List.forall_mem_cons.mpr ⟨N p hm, r⟩
theorem nw_tail {g h : Heap} {L : Addr} {p : Addr × Obj} {l : List (Addr × Obj)} (N : News g L h (p :: l)) : News g L h l := fun q hq => N q (.tail _ hq)
theorem cn1 (a : Nat) : a + 1 ≠ a := Nat.succ_ne_self a
theorem cn2 (a : Nat) : a + 1 + 1 ≠ a := by omega
theorem cn3 (a : Nat) : a + 1 + 1 + 1 ≠ a := by omega
theorem cn4 (a : Nat) : a + 1 + 1 + 1 + 1 ≠ a := by omega
theorem dn1 {a b : Nat} (h : a + 1 < b) : a < b := Nat.lt_of_succ_lt h
end Mine
end

section
open PySem PySem.W PySem.Calls PyProof.Rows
set_option maxRecDepth 100000
namespace Mine
set_option maxHeartbeats 8000000 in
theorem heapreplace2 {w : World} {A : Around} {s : Shared} {R : Result → Shared → Prop} {h₀ : Heap} {p : Program} {loose : List Str} {mean : ExcName → Option Value} {mg mb : Str → Option Value}
   {hp t0 t1 tn : Addr} {nn : Nat} {k0 k1 kn : Ky}
   (X : (Mine.hd.heap_39 w.params).In h₀) (T : Top p loose mean mg mb h₀) (hS : NoShare h₀) (hk : Keeps h₀ s.heap) (hroom : A.depth + 18 < recursionLimit) (hun : A.units + 80 < cLine)
   (hl : s.heap.get? hp = some (listOf #[.ref t0, .ref t1] nn)) (hn : h₀.get? hp = none) (T0 : TK s.heap t0 k0) (T1 : TK s.heap t1 k1) (Tn : TK s.heap tn kn)  (Dn1 : Dis kn k1)
   (hR : ∀ h' tk', But hp s.heap h' → h'.get? hp = some (listOf (if kn.lt k1 then #[.ref tn, .ref t1] else #[.ref t1, .ref tn]) nn) → R (.ok (.ret (.ref t0))) { s with heap := h', toks := tk' }) :
   codeAny (model PySem.Challenge.rw_op0141_01.row.prog w) A (.call (.ref 49) ⟨[.ref hp, .ref tn], []⟩) R s := by
  k_with_none
  w_top off
  k_with "call ref" => (k_here; (with_reducible show wpAny _ _ (call (Value.ref 84) _) _ _ _); (with_unfolding_all refine' wpAny_call (siftup2 ?X ?T ?S ?hk ?hr ?hu ?hl ?hn ?T0 ?T1 ?D01 ?_)); (case X => assumption); (case T => assumption); (case S => assumption); (case hk => exact Fr.keep (by assumption)); (case hr => (first | omega | (simp only [depth_deeper, units_deeper, depth_in1, units_in1] at *; omega))); (case hu => (first | omega | (simp only [depth_deeper, units_deeper, depth_in1, units_in1] at *; omega))); (case hl => exact News.get (by assumption) (by k_mem)); (case hn => exact News.fresh (by assumption) (by k_mem)); (case T0 => exact TK.keeps (by assumption) (Fr.keep (by assumption))); (case T1 => exact TK.keeps (by assumption) (Fr.keep (by assumption))); (case D01 => first | assumption | exact Dis.symm (by assumption)); (intro h' tk' hb' hq'; (first | (have hFN := led_set (pre := []) (by assumption) (by assumption) hb' hq' (by k_all) (by k_all)) | (have hFN := led_set (pre := [_]) (by assumption) (by assumption) hb' hq' (by k_all) (by k_all)) | (have hFN := led_set (pre := [_, _]) (by assumption) (by assumption) hb' hq' (by k_all) (by k_all)) | (have hFN := led_set (pre := [_, _, _]) (by assumption) (by assumption) hb' hq' (by k_all) (by k_all)) | (have hFN := led_set (pre := [_, _, _, _]) (by assumption) (by assumption) hb' hq' (by k_all) (by k_all)) | (have hFN := led_set (pre := [_, _, _, _, _]) (by assumption) (by assumption) hb' hq' (by k_all) (by k_all))); (obtain ⟨F', N'⟩ := hFN); (try dsimp only [List.cons_append, List.nil_append] at N'); clear hb' hq'; (try dsimp only); walk_say "MINE siftup2"))
  revert X; k_fill; intro X
  refine' enterM X T hk [(hp, listOf #[.ref t0, .ref t1] nn)] ?hh ?k6 ?k7 ?k8 ?k9 ?kB ?_ ?c2 ?c3 ?c4 ?c5
  case hh => intro q hq; simp only [List.mem_singleton] at hq; subst hq; exact ⟨hl, hn⟩
  case k6 => k_is
  case k7 => k_is
  case k8 => omega
  case k9 => exact BindsTo.of_eq rfl
  case kB => exact locs rfl
  case c5 => decide
  case c2 => rfl
  case c3 => rfl
  case c4 => rfl
  intro g L' h₁ hg hkg X' T' F' N' hL
  have hg' : But hp s.heap g := fun b o e n => hg b o e (by intro q hq; simp only [List.mem_singleton] at hq; subst hq; exact n)
  have U0 := T0.but hl hg'
  have U1 := T1.but hl hg'
  have Un := Tn.but hl hg'
  have hS' := hS.keeps hkg
  clear T0 T1 Tn hg hL hl hn X T hS hk hkg
  (try dsimp only)
  k_steps
  all_goals (refine hR _ _ (fun b o e n => Fr.keep (by assumption) b o (hg' b o e n)) ?_)
  · exact News.get (by assumption) (List.Mem.head _)
set_option maxHeartbeats 8000000 in
theorem heapreplace3 {w : World} {A : Around} {s : Shared} {R : Result → Shared → Prop} {h₀ : Heap} {p : Program} {loose : List Str} {mean : ExcName → Option Value} {mg mb : Str → Option Value}
   {hp t0 t1 t2 tn : Addr} {nn : Nat} {k0 k1 k2 kn : Ky}
   (X : (Mine.hd.heap_39 w.params).In h₀) (T : Top p loose mean mg mb h₀) (hS : NoShare h₀) (hk : Keeps h₀ s.heap) (hroom : A.depth + 18 < recursionLimit) (hun : A.units + 80 < cLine)
   (hl : s.heap.get? hp = some (listOf #[.ref t0, .ref t1, .ref t2] nn)) (hn : h₀.get? hp = none) (T0 : TK s.heap t0 k0) (T1 : TK s.heap t1 k1) (T2 : TK s.heap t2 k2) (Tn : TK s.heap tn kn) (D12 : Dis k1 k2) (Dn1 : Dis kn k1) (Dn2 : Dis kn k2)
   (hR : ∀ h' tk', But hp s.heap h' → h'.get? hp = some (listOf (if k1.lt k2 then (if kn.lt k1 then #[.ref tn, .ref t1, .ref t2] else #[.ref t1, .ref tn, .ref t2]) else (if kn.lt k2 then #[.ref tn, .ref t1, .ref t2] else #[.ref t2, .ref t1, .ref tn])) nn) → R (.ok (.ret (.ref t0))) { s with heap := h', toks := tk' }) :
   codeAny (model PySem.Challenge.rw_op0141_01.row.prog w) A (.call (.ref 49) ⟨[.ref hp, .ref tn], []⟩) R s := by
  k_with "call ref" => (k_here; (with_reducible show wpAny _ _ (call (Value.ref 84) _) _ _ _); (with_unfolding_all refine' wpAny_call (siftup3 ?X ?T ?S ?hk ?hr ?hu ?hl ?hn ?T0 ?T1 ?T2 ?D01 ?D02 ?D12 ?_)); (case X => assumption); (case T => assumption); (case S => assumption); (case hk => exact Fr.keep (by assumption)); (case hr => (first | omega | (simp only [depth_deeper, units_deeper, depth_in1, units_in1] at *; omega))); (case hu => (first | omega | (simp only [depth_deeper, units_deeper, depth_in1, units_in1] at *; omega))); (case hl => exact News.get (by assumption) (by k_mem)); (case hn => exact News.fresh (by assumption) (by k_mem)); (case T0 => exact TK.keeps (by assumption) (Fr.keep (by assumption))); (case T1 => exact TK.keeps (by assumption) (Fr.keep (by assumption))); (case T2 => exact TK.keeps (by assumption) (Fr.keep (by assumption))); (case D01 => first | assumption | exact Dis.symm (by assumption)); (case D02 => first | assumption | exact Dis.symm (by assumption)); (case D12 => first | assumption | exact Dis.symm (by assumption)); (intro h' tk' hb' hq'; (first | (have hFN := led_set (pre := []) (by assumption) (by assumption) hb' hq' (by k_all) (by k_all)) | (have hFN := led_set (pre := [_]) (by assumption) (by assumption) hb' hq' (by k_all) (by k_all)) | (have hFN := led_set (pre := [_, _]) (by assumption) (by assumption) hb' hq' (by k_all) (by k_all)) | (have hFN := led_set (pre := [_, _, _]) (by assumption) (by assumption) hb' hq' (by k_all) (by k_all)) | (have hFN := led_set (pre := [_, _, _, _]) (by assumption) (by assumption) hb' hq' (by k_all) (by k_all)) | (have hFN := led_set (pre := [_, _, _, _, _]) (by assumption) (by assumption) hb' hq' (by k_all) (by k_all))); (obtain ⟨F', N'⟩ := hFN); (try dsimp only [List.cons_append, List.nil_append] at N'); clear hb' hq'; (try dsimp only); walk_say "MINE siftup3"))
  revert X; k_fill; intro X
  refine' enterM X T hk [(hp, listOf #[.ref t0, .ref t1, .ref t2] nn)] ?hh ?k6 ?k7 ?k8 ?k9 ?kB ?_ ?c2 ?c3 ?c4 ?c5
  case hh => intro q hq; simp only [List.mem_singleton] at hq; subst hq; exact ⟨hl, hn⟩
  case k6 => k_is
  case k7 => k_is
  case k8 => omega
  case k9 => exact BindsTo.of_eq rfl
  case kB => exact locs rfl
  case c5 => decide
  case c2 => rfl
  case c3 => rfl
  case c4 => rfl
  intro g L' h₁ hg hkg X' T' F' N' hL
  have hg' : But hp s.heap g := fun b o e n => hg b o e (by intro q hq; simp only [List.mem_singleton] at hq; subst hq; exact n)
  have U0 := T0.but hl hg'
  have U1 := T1.but hl hg'
  have U2 := T2.but hl hg'
  have Un := Tn.but hl hg'
  have hS' := hS.keeps hkg
  clear T0 T1 T2 Tn hg hL hl hn X T hS hk hkg
  (try dsimp only)
  k_steps
  all_goals (refine hR _ _ (fun b o e n => Fr.keep (by assumption) b o (hg' b o e n)) ?_)
  · exact News.get (by assumption) (List.Mem.head _)
set_option maxHeartbeats 8000000 in
theorem heapreplace_max2 {w : World} {A : Around} {s : Shared} {R : Result → Shared → Prop} {h₀ : Heap} {p : Program} {loose : List Str} {mean : ExcName → Option Value} {mg mb : Str → Option Value}
   {hp t0 t1 tn : Addr} {nn : Nat} {k0 k1 kn : Ky}
   (X : (Mine.hd.heap_39 w.params).In h₀) (T : Top p loose mean mg mb h₀) (hS : NoShare h₀) (hk : Keeps h₀ s.heap) (hroom : A.depth + 18 < recursionLimit) (hun : A.units + 80 < cLine)
   (hl : s.heap.get? hp = some (listOf #[.ref t0, .ref t1] nn)) (hn : h₀.get? hp = none) (T0 : TK s.heap t0 k0) (T1 : TK s.heap t1 k1) (Tn : TK s.heap tn kn)  (Dn1 : Dis kn k1)
   (hR : ∀ h' tk', But hp s.heap h' → h'.get? hp = some (listOf (if k1.lt kn then #[.ref tn, .ref t1] else #[.ref t1, .ref tn]) nn) → R (.ok (.ret (.ref t0))) { s with heap := h', toks := tk' }) :
   codeAny (model PySem.Challenge.rw_op0141_01.row.prog w) A (.call (.ref 63) ⟨[.ref hp, .ref tn], []⟩) R s := by
  k_with "call ref" => (k_here; (with_reducible show wpAny _ _ (call (Value.ref 98) _) _ _ _); (with_unfolding_all refine' wpAny_call (siftup_max2 ?X ?T ?S ?hk ?hr ?hu ?hl ?hn ?T0 ?T1 ?D01 ?_)); (case X => assumption); (case T => assumption); (case S => assumption); (case hk => exact Fr.keep (by assumption)); (case hr => (first | omega | (simp only [depth_deeper, units_deeper, depth_in1, units_in1] at *; omega))); (case hu => (first | omega | (simp only [depth_deeper, units_deeper, depth_in1, units_in1] at *; omega))); (case hl => exact News.get (by assumption) (by k_mem)); (case hn => exact News.fresh (by assumption) (by k_mem)); (case T0 => exact TK.keeps (by assumption) (Fr.keep (by assumption))); (case T1 => exact TK.keeps (by assumption) (Fr.keep (by assumption))); (case D01 => first | assumption | exact Dis.symm (by assumption)); (intro h' tk' hb' hq'; (first | (have hFN := led_set (pre := []) (by assumption) (by assumption) hb' hq' (by k_all) (by k_all)) | (have hFN := led_set (pre := [_]) (by assumption) (by assumption) hb' hq' (by k_all) (by k_all)) | (have hFN := led_set (pre := [_, _]) (by assumption) (by assumption) hb' hq' (by k_all) (by k_all)) | (have hFN := led_set (pre := [_, _, _]) (by assumption) (by assumption) hb' hq' (by k_all) (by k_all)) | (have hFN := led_set (pre := [_, _, _, _]) (by assumption) (by assumption) hb' hq' (by k_all) (by k_all)) | (have hFN := led_set (pre := [_, _, _, _, _]) (by assumption) (by assumption) hb' hq' (by k_all) (by k_all))); (obtain ⟨F', N'⟩ := hFN); (try dsimp only [List.cons_append, List.nil_append] at N'); clear hb' hq'; (try dsimp only); walk_say "MINE siftup_max2"))
  revert X; k_fill; intro X
  refine' enterM X T hk [(hp, listOf #[.ref t0, .ref t1] nn)] ?hh ?k6 ?k7 ?k8 ?k9 ?kB ?_ ?c2 ?c3 ?c4 ?c5
  case hh => intro q hq; simp only [List.mem_singleton] at hq; subst hq; exact ⟨hl, hn⟩
  case k6 => k_is
  case k7 => k_is
  case k8 => omega
  case k9 => exact BindsTo.of_eq rfl
  case kB => exact locs rfl
  case c5 => decide
  case c2 => rfl
  case c3 => rfl
  case c4 => rfl
  intro g L' h₁ hg hkg X' T' F' N' hL
  have hg' : But hp s.heap g := fun b o e n => hg b o e (by intro q hq; simp only [List.mem_singleton] at hq; subst hq; exact n)
  have U0 := T0.but hl hg'
  have U1 := T1.but hl hg'
  have Un := Tn.but hl hg'
  have hS' := hS.keeps hkg
  clear T0 T1 Tn hg hL hl hn X T hS hk hkg
  (try dsimp only)
  k_steps
  all_goals (refine hR _ _ (fun b o e n => Fr.keep (by assumption) b o (hg' b o e n)) ?_)
  · exact News.get (by assumption) (List.Mem.head _)
set_option maxHeartbeats 8000000 in
theorem heapreplace_max3 {w : World} {A : Around} {s : Shared} {R : Result → Shared → Prop} {h₀ : Heap} {p : Program} {loose : List Str} {mean : ExcName → Option Value} {mg mb : Str → Option Value}
   {hp t0 t1 t2 tn : Addr} {nn : Nat} {k0 k1 k2 kn : Ky}
   (X : (Mine.hd.heap_39 w.params).In h₀) (T : Top p loose mean mg mb h₀) (hS : NoShare h₀) (hk : Keeps h₀ s.heap) (hroom : A.depth + 18 < recursionLimit) (hun : A.units + 80 < cLine)
   (hl : s.heap.get? hp = some (listOf #[.ref t0, .ref t1, .ref t2] nn)) (hn : h₀.get? hp = none) (T0 : TK s.heap t0 k0) (T1 : TK s.heap t1 k1) (T2 : TK s.heap t2 k2) (Tn : TK s.heap tn kn) (D12 : Dis k1 k2) (Dn1 : Dis kn k1) (Dn2 : Dis kn k2)
   (hR : ∀ h' tk', But hp s.heap h' → h'.get? hp = some (listOf (if k2.lt k1 then (if k1.lt kn then #[.ref tn, .ref t1, .ref t2] else #[.ref t1, .ref tn, .ref t2]) else (if k2.lt kn then #[.ref tn, .ref t1, .ref t2] else #[.ref t2, .ref t1, .ref tn])) nn) → R (.ok (.ret (.ref t0))) { s with heap := h', toks := tk' }) :
   codeAny (model PySem.Challenge.rw_op0141_01.row.prog w) A (.call (.ref 63) ⟨[.ref hp, .ref tn], []⟩) R s := by
  k_with "call ref" => (k_here; (with_reducible show wpAny _ _ (call (Value.ref 98) _) _ _ _); (with_unfolding_all refine' wpAny_call (siftup_max3 ?X ?T ?S ?hk ?hr ?hu ?hl ?hn ?T0 ?T1 ?T2 ?D01 ?D02 ?D12 ?_)); (case X => assumption); (case T => assumption); (case S => assumption); (case hk => exact Fr.keep (by assumption)); (case hr => (first | omega | (simp only [depth_deeper, units_deeper, depth_in1, units_in1] at *; omega))); (case hu => (first | omega | (simp only [depth_deeper, units_deeper, depth_in1, units_in1] at *; omega))); (case hl => exact News.get (by assumption) (by k_mem)); (case hn => exact News.fresh (by assumption) (by k_mem)); (case T0 => exact TK.keeps (by assumption) (Fr.keep (by assumption))); (case T1 => exact TK.keeps (by assumption) (Fr.keep (by assumption))); (case T2 => exact TK.keeps (by assumption) (Fr.keep (by assumption))); (case D01 => first | assumption | exact Dis.symm (by assumption)); (case D02 => first | assumption | exact Dis.symm (by assumption)); (case D12 => first | assumption | exact Dis.symm (by assumption)); (intro h' tk' hb' hq'; (first | (have hFN := led_set (pre := []) (by assumption) (by assumption) hb' hq' (by k_all) (by k_all)) | (have hFN := led_set (pre := [_]) (by assumption) (by assumption) hb' hq' (by k_all) (by k_all)) | (have hFN := led_set (pre := [_, _]) (by assumption) (by assumption) hb' hq' (by k_all) (by k_all)) | (have hFN := led_set (pre := [_, _, _]) (by assumption) (by assumption) hb' hq' (by k_all) (by k_all)) | (have hFN := led_set (pre := [_, _, _, _]) (by assumption) (by assumption) hb' hq' (by k_all) (by k_all)) | (have hFN := led_set (pre := [_, _, _, _, _]) (by assumption) (by assumption) hb' hq' (by k_all) (by k_all))); (obtain ⟨F', N'⟩ := hFN); (try dsimp only [List.cons_append, List.nil_append] at N'); clear hb' hq'; (try dsimp only); walk_say "MINE siftup_max3"))
  revert X; k_fill; intro X
  refine' enterM X T hk [(hp, listOf #[.ref t0, .ref t1, .ref t2] nn)] ?hh ?k6 ?k7 ?k8 ?k9 ?kB ?_ ?c2 ?c3 ?c4 ?c5
  case hh => intro q hq; simp only [List.mem_singleton] at hq; subst hq; exact ⟨hl, hn⟩
  case k6 => k_is
  case k7 => k_is
  case k8 => omega
  case k9 => exact BindsTo.of_eq rfl
  case kB => exact locs rfl
  case c5 => decide
  case c2 => rfl
  case c3 => rfl
  case c4 => rfl
  intro g L' h₁ hg hkg X' T' F' N' hL
  have hg' : But hp s.heap g := fun b o e n => hg b o e (by intro q hq; simp only [List.mem_singleton] at hq; subst hq; exact n)
  have U0 := T0.but hl hg'
  have U1 := T1.but hl hg'
  have U2 := T2.but hl hg'
  have Un := Tn.but hl hg'
  have hS' := hS.keeps hkg
  clear T0 T1 T2 Tn hg hL hl hn X T hS hk hkg
  (try dsimp only)
  k_steps
  all_goals (refine hR _ _ (fun b o e n => Fr.keep (by assumption) b o (hg' b o e n)) ?_)
  · exact News.get (by assumption) (List.Mem.head _)
set_option maxHeartbeats 8000000 in
theorem heapify2 {w : World} {A : Around} {s : Shared} {R : Result → Shared → Prop} {h₀ : Heap} {p : Program} {loose : List Str} {mean : ExcName → Option Value} {mg mb : Str → Option Value}
   {hp t0 t1 : Addr} {nn : Nat} {k0 k1 : Ky}
   (X : (Mine.hd.heap_39 w.params).In h₀) (T : Top p loose mean mg mb h₀) (hS : NoShare h₀) (hk : Keeps h₀ s.heap) (hroom : A.depth + 18 < recursionLimit) (hun : A.units + 80 < cLine) (hh : A.handled = none)
   (hl : s.heap.get? hp = some (listOf #[.ref t0, .ref t1] nn)) (hn : h₀.get? hp = none) (T0 : TK s.heap t0 k0) (T1 : TK s.heap t1 k1) (D01 : Dis k0 k1)
   (hR : ∀ h' tk', But hp s.heap h' → h'.get? hp = some (listOf (if k0.lt k1 then #[.ref t0, .ref t1] else #[.ref t1, .ref t0]) nn) → R (.ok (.ret .none)) { s with heap := h', toks := tk' }) :
   codeAny (model PySem.Challenge.rw_op0141_01.row.prog w) A (.call (.ref 56) ⟨[.ref hp], []⟩) R s := by
  k_with "exec For Name Call cons nil" => (k_here; (with_reducible show wpAny _ _ (exec (Stmt.For _ _ _ _ _) _) _ _ _); (k_dflt (refine wpAny_For ?_)); walk_say "MINE for")
  k_with "call ref" => (k_here; (with_reducible show wpAny _ _ (call (Value.ref 84) _) _ _ _); (with_unfolding_all refine' wpAny_call (siftup2 ?X ?T ?S ?hk ?hr ?hu ?hl ?hn ?T0 ?T1 ?D01 ?_)); (case X => assumption); (case T => assumption); (case S => assumption); (case hk => exact Fr.keep (by assumption)); (case hr => (first | omega | (simp only [depth_deeper, units_deeper, depth_in1, units_in1] at *; omega))); (case hu => (first | omega | (simp only [depth_deeper, units_deeper, depth_in1, units_in1] at *; omega))); (case hl => exact News.get (by assumption) (by k_mem)); (case hn => exact News.fresh (by assumption) (by k_mem)); (case T0 => exact TK.keeps (by assumption) (Fr.keep (by assumption))); (case T1 => exact TK.keeps (by assumption) (Fr.keep (by assumption))); (case D01 => first | assumption | exact Dis.symm (by assumption)); (intro h' tk' hb' hq'; (first | (have hFN := led_set (pre := []) (by assumption) (by assumption) hb' hq' (by k_all) (by k_all)) | (have hFN := led_set (pre := [_]) (by assumption) (by assumption) hb' hq' (by k_all) (by k_all)) | (have hFN := led_set (pre := [_, _]) (by assumption) (by assumption) hb' hq' (by k_all) (by k_all)) | (have hFN := led_set (pre := [_, _, _]) (by assumption) (by assumption) hb' hq' (by k_all) (by k_all)) | (have hFN := led_set (pre := [_, _, _, _]) (by assumption) (by assumption) hb' hq' (by k_all) (by k_all)) | (have hFN := led_set (pre := [_, _, _, _, _]) (by assumption) (by assumption) hb' hq' (by k_all) (by k_all))); (obtain ⟨F', N'⟩ := hFN); (try dsimp only [List.cons_append, List.nil_append] at N'); clear hb' hq'; (try dsimp only); walk_say "MINE siftup2"))
  revert X; k_fill; intro X
  refine' enterM X T hk [(hp, listOf #[.ref t0, .ref t1] nn)] ?hh ?k6 ?k7 ?k8 ?k9 ?kB ?_ ?c2 ?c3 ?c4 ?c5
  case hh => intro q hq; simp only [List.mem_singleton] at hq; subst hq; exact ⟨hl, hn⟩
  case k6 => k_is
  case k7 => k_is
  case k8 => omega
  case k9 => exact BindsTo.of_eq rfl
  case kB => exact locs rfl
  case c5 => decide
  case c2 => rfl
  case c3 => rfl
  case c4 => rfl
  intro g L' h₁ hg hkg X' T' F' N' hL
  have hg' : But hp s.heap g := fun b o e n => hg b o e (by intro q hq; simp only [List.mem_singleton] at hq; subst hq; exact n)
  have U0 := T0.but hl hg'
  have U1 := T1.but hl hg'
  have hS' := hS.keeps hkg
  clear T0 T1 hg hL hl hn X T hS hk hkg
  (try dsimp only)
  k_steps
  refine rev_K (by assumption) (by assumption) (by assumption) ?_
  intro it h2 F2 N2 l2
  have l3 := ltN (l2 _ (.head _))
  dsimp only at l3
  clear l2
  refine iter_rit_K N2 (.head _) ?_
  refine for_unroll ?_
  refine next_rit_K (pre := []) F2 N2 (by k_all) (by k_all) (by decide) ?_
  intro h3 F3 N3
  clear F2 N2
  dsimp only [List.nil_append] at N3
  dsimp only
  k_steps
  refine for_unroll ?_
  refine next_rit_end_K (pre := []) (by first | exact hh | rfl) (by assumption) (by assumption) (by k_all) (by k_all) (by decide) ?_
  intro h5 F5 N5
  dsimp only [List.nil_append] at N5
  refine wpAny_execs_nil ?_
  dsimp only
  k_steps
  all_goals (refine hR _ _ (fun b o e n => Fr.keep (by assumption) b o (hg' b o e n)) ?_)
  · exact News.get (by assumption) (List.Mem.head _)
set_option maxHeartbeats 8000000 in
theorem heapify3 {w : World} {A : Around} {s : Shared} {R : Result → Shared → Prop} {h₀ : Heap} {p : Program} {loose : List Str} {mean : ExcName → Option Value} {mg mb : Str → Option Value}
   {hp t0 t1 t2 : Addr} {nn : Nat} {k0 k1 k2 : Ky}
   (X : (Mine.hd.heap_39 w.params).In h₀) (T : Top p loose mean mg mb h₀) (hS : NoShare h₀) (hk : Keeps h₀ s.heap) (hroom : A.depth + 18 < recursionLimit) (hun : A.units + 80 < cLine) (hh : A.handled = none)
   (hl : s.heap.get? hp = some (listOf #[.ref t0, .ref t1, .ref t2] nn)) (hn : h₀.get? hp = none) (T0 : TK s.heap t0 k0) (T1 : TK s.heap t1 k1) (T2 : TK s.heap t2 k2) (D01 : Dis k0 k1) (D02 : Dis k0 k2) (D12 : Dis k1 k2)
   (hR : ∀ h' tk', But hp s.heap h' → h'.get? hp = some (listOf (if k1.lt k2 then (if k0.lt k1 then #[.ref t0, .ref t1, .ref t2] else #[.ref t1, .ref t0, .ref t2]) else (if k0.lt k2 then #[.ref t0, .ref t1, .ref t2] else #[.ref t2, .ref t1, .ref t0])) nn) → R (.ok (.ret .none)) { s with heap := h', toks := tk' }) :
   codeAny (model PySem.Challenge.rw_op0141_01.row.prog w) A (.call (.ref 56) ⟨[.ref hp], []⟩) R s := by
  k_with "call ref" => (k_here; (with_reducible show wpAny _ _ (call (Value.ref 84) _) _ _ _); (with_unfolding_all refine' wpAny_call (siftup3 ?X ?T ?S ?hk ?hr ?hu ?hl ?hn ?T0 ?T1 ?T2 ?D01 ?D02 ?D12 ?_)); (case X => assumption); (case T => assumption); (case S => assumption); (case hk => exact Fr.keep (by assumption)); (case hr => (first | omega | (simp only [depth_deeper, units_deeper, depth_in1, units_in1] at *; omega))); (case hu => (first | omega | (simp only [depth_deeper, units_deeper, depth_in1, units_in1] at *; omega))); (case hl => exact News.get (by assumption) (by k_mem)); (case hn => exact News.fresh (by assumption) (by k_mem)); (case T0 => exact TK.keeps (by assumption) (Fr.keep (by assumption))); (case T1 => exact TK.keeps (by assumption) (Fr.keep (by assumption))); (case T2 => exact TK.keeps (by assumption) (Fr.keep (by assumption))); (case D01 => first | assumption | exact Dis.symm (by assumption)); (case D02 => first | assumption | exact Dis.symm (by assumption)); (case D12 => first | assumption | exact Dis.symm (by assumption)); (intro h' tk' hb' hq'; (first | (have hFN := led_set (pre := []) (by assumption) (by assumption) hb' hq' (by k_all) (by k_all)) | (have hFN := led_set (pre := [_]) (by assumption) (by assumption) hb' hq' (by k_all) (by k_all)) | (have hFN := led_set (pre := [_, _]) (by assumption) (by assumption) hb' hq' (by k_all) (by k_all)) | (have hFN := led_set (pre := [_, _, _]) (by assumption) (by assumption) hb' hq' (by k_all) (by k_all)) | (have hFN := led_set (pre := [_, _, _, _]) (by assumption) (by assumption) hb' hq' (by k_all) (by k_all)) | (have hFN := led_set (pre := [_, _, _, _, _]) (by assumption) (by assumption) hb' hq' (by k_all) (by k_all))); (obtain ⟨F', N'⟩ := hFN); (try dsimp only [List.cons_append, List.nil_append] at N'); clear hb' hq'; (try dsimp only); walk_say "MINE siftup3"))
  revert X; k_fill; intro X
  refine' enterM X T hk [(hp, listOf #[.ref t0, .ref t1, .ref t2] nn)] ?hh ?k6 ?k7 ?k8 ?k9 ?kB ?_ ?c2 ?c3 ?c4 ?c5
  case hh => intro q hq; simp only [List.mem_singleton] at hq; subst hq; exact ⟨hl, hn⟩
  case k6 => k_is
  case k7 => k_is
  case k8 => omega
  case k9 => exact BindsTo.of_eq rfl
  case kB => exact locs rfl
  case c5 => decide
  case c2 => rfl
  case c3 => rfl
  case c4 => rfl
  intro g L' h₁ hg hkg X' T' F' N' hL
  have hg' : But hp s.heap g := fun b o e n => hg b o e (by intro q hq; simp only [List.mem_singleton] at hq; subst hq; exact n)
  have U0 := T0.but hl hg'
  have U1 := T1.but hl hg'
  have U2 := T2.but hl hg'
  have hS' := hS.keeps hkg
  clear T0 T1 T2 hg hL hl hn X T hS hk hkg
  (try dsimp only)
  k_steps
  refine rev_K (by assumption) (by assumption) (by assumption) ?_
  intro it h2 F2 N2 l2
  have l3 := ltN (l2 _ (.head _))
  dsimp only at l3
  clear l2
  refine iter_rit_K N2 (.head _) ?_
  refine for_unroll ?_
  refine next_rit_K (pre := []) F2 N2 (by k_all) (by k_all) (by decide) ?_
  intro h3 F3 N3
  clear F2 N2
  dsimp only [List.nil_append] at N3
  dsimp only
  k_steps
  refine for_unroll ?_
  refine next_rit_end_K (pre := []) (by first | exact hh | rfl) (by assumption) (by assumption) (by k_all) (by k_all) (by decide) ?_
  intro h5 F5 N5
  dsimp only [List.nil_append] at N5
  refine wpAny_execs_nil ?_
  dsimp only
  k_steps
  all_goals (refine hR _ _ (fun b o e n => Fr.keep (by assumption) b o (hg' b o e n)) ?_)
  · exact News.get (by assumption) (List.Mem.head _)
set_option maxHeartbeats 8000000 in
theorem heapify_max2 {w : World} {A : Around} {s : Shared} {R : Result → Shared → Prop} {h₀ : Heap} {p : Program} {loose : List Str} {mean : ExcName → Option Value} {mg mb : Str → Option Value}
   {hp t0 t1 : Addr} {nn : Nat} {k0 k1 : Ky}
   (X : (Mine.hd.heap_39 w.params).In h₀) (T : Top p loose mean mg mb h₀) (hS : NoShare h₀) (hk : Keeps h₀ s.heap) (hroom : A.depth + 18 < recursionLimit) (hun : A.units + 80 < cLine) (hh : A.handled = none)
   (hl : s.heap.get? hp = some (listOf #[.ref t0, .ref t1] nn)) (hn : h₀.get? hp = none) (T0 : TK s.heap t0 k0) (T1 : TK s.heap t1 k1) (D01 : Dis k0 k1)
   (hR : ∀ h' tk', But hp s.heap h' → h'.get? hp = some (listOf (if k1.lt k0 then #[.ref t0, .ref t1] else #[.ref t1, .ref t0]) nn) → R (.ok (.ret .none)) { s with heap := h', toks := tk' }) :
   codeAny (model PySem.Challenge.rw_op0141_01.row.prog w) A (.call (.ref 70) ⟨[.ref hp], []⟩) R s := by
  k_with "call ref" => (k_here; (with_reducible show wpAny _ _ (call (Value.ref 98) _) _ _ _); (with_unfolding_all refine' wpAny_call (siftup_max2 ?X ?T ?S ?hk ?hr ?hu ?hl ?hn ?T0 ?T1 ?D01 ?_)); (case X => assumption); (case T => assumption); (case S => assumption); (case hk => exact Fr.keep (by assumption)); (case hr => (first | omega | (simp only [depth_deeper, units_deeper, depth_in1, units_in1] at *; omega))); (case hu => (first | omega | (simp only [depth_deeper, units_deeper, depth_in1, units_in1] at *; omega))); (case hl => exact News.get (by assumption) (by k_mem)); (case hn => exact News.fresh (by assumption) (by k_mem)); (case T0 => exact TK.keeps (by assumption) (Fr.keep (by assumption))); (case T1 => exact TK.keeps (by assumption) (Fr.keep (by assumption))); (case D01 => first | assumption | exact Dis.symm (by assumption)); (intro h' tk' hb' hq'; (first | (have hFN := led_set (pre := []) (by assumption) (by assumption) hb' hq' (by k_all) (by k_all)) | (have hFN := led_set (pre := [_]) (by assumption) (by assumption) hb' hq' (by k_all) (by k_all)) | (have hFN := led_set (pre := [_, _]) (by assumption) (by assumption) hb' hq' (by k_all) (by k_all)) | (have hFN := led_set (pre := [_, _, _]) (by assumption) (by assumption) hb' hq' (by k_all) (by k_all)) | (have hFN := led_set (pre := [_, _, _, _]) (by assumption) (by assumption) hb' hq' (by k_all) (by k_all)) | (have hFN := led_set (pre := [_, _, _, _, _]) (by assumption) (by assumption) hb' hq' (by k_all) (by k_all))); (obtain ⟨F', N'⟩ := hFN); (try dsimp only [List.cons_append, List.nil_append] at N'); clear hb' hq'; (try dsimp only); walk_say "MINE siftup_max2"))
  revert X; k_fill; intro X
  refine' enterM X T hk [(hp, listOf #[.ref t0, .ref t1] nn)] ?hh ?k6 ?k7 ?k8 ?k9 ?kB ?_ ?c2 ?c3 ?c4 ?c5
  case hh => intro q hq; simp only [List.mem_singleton] at hq; subst hq; exact ⟨hl, hn⟩
  case k6 => k_is
  case k7 => k_is
  case k8 => omega
  case k9 => exact BindsTo.of_eq rfl
  case kB => exact locs rfl
  case c5 => decide
  case c2 => rfl
  case c3 => rfl
  case c4 => rfl
  intro g L' h₁ hg hkg X' T' F' N' hL
  have hg' : But hp s.heap g := fun b o e n => hg b o e (by intro q hq; simp only [List.mem_singleton] at hq; subst hq; exact n)
  have U0 := T0.but hl hg'
  have U1 := T1.but hl hg'
  have hS' := hS.keeps hkg
  clear T0 T1 hg hL hl hn X T hS hk hkg
  (try dsimp only)
  k_steps
  refine rev_K (by assumption) (by assumption) (by assumption) ?_
  intro it h2 F2 N2 l2
  have l3 := ltN (l2 _ (.head _))
  dsimp only at l3
  clear l2
  refine iter_rit_K N2 (.head _) ?_
  refine for_unroll ?_
  refine next_rit_K (pre := []) F2 N2 (by k_all) (by k_all) (by decide) ?_
  intro h3 F3 N3
  clear F2 N2
  dsimp only [List.nil_append] at N3
  dsimp only
  k_steps
  refine for_unroll ?_
  refine next_rit_end_K (pre := []) (by first | exact hh | rfl) (by assumption) (by assumption) (by k_all) (by k_all) (by decide) ?_
  intro h5 F5 N5
  dsimp only [List.nil_append] at N5
  refine wpAny_execs_nil ?_
  dsimp only
  k_steps
  all_goals (refine hR _ _ (fun b o e n => Fr.keep (by assumption) b o (hg' b o e n)) ?_)
  · exact News.get (by assumption) (List.Mem.head _)
set_option maxHeartbeats 8000000 in
theorem heapify_max3 {w : World} {A : Around} {s : Shared} {R : Result → Shared → Prop} {h₀ : Heap} {p : Program} {loose : List Str} {mean : ExcName → Option Value} {mg mb : Str → Option Value}
   {hp t0 t1 t2 : Addr} {nn : Nat} {k0 k1 k2 : Ky}
   (X : (Mine.hd.heap_39 w.params).In h₀) (T : Top p loose mean mg mb h₀) (hS : NoShare h₀) (hk : Keeps h₀ s.heap) (hroom : A.depth + 18 < recursionLimit) (hun : A.units + 80 < cLine) (hh : A.handled = none)
   (hl : s.heap.get? hp = some (listOf #[.ref t0, .ref t1, .ref t2] nn)) (hn : h₀.get? hp = none) (T0 : TK s.heap t0 k0) (T1 : TK s.heap t1 k1) (T2 : TK s.heap t2 k2) (D01 : Dis k0 k1) (D02 : Dis k0 k2) (D12 : Dis k1 k2)
   (hR : ∀ h' tk', But hp s.heap h' → h'.get? hp = some (listOf (if k2.lt k1 then (if k1.lt k0 then #[.ref t0, .ref t1, .ref t2] else #[.ref t1, .ref t0, .ref t2]) else (if k2.lt k0 then #[.ref t0, .ref t1, .ref t2] else #[.ref t2, .ref t1, .ref t0])) nn) → R (.ok (.ret .none)) { s with heap := h', toks := tk' }) :
   codeAny (model PySem.Challenge.rw_op0141_01.row.prog w) A (.call (.ref 70) ⟨[.ref hp], []⟩) R s := by
  k_with "call ref" => (k_here; (with_reducible show wpAny _ _ (call (Value.ref 98) _) _ _ _); (with_unfolding_all refine' wpAny_call (siftup_max3 ?X ?T ?S ?hk ?hr ?hu ?hl ?hn ?T0 ?T1 ?T2 ?D01 ?D02 ?D12 ?_)); (case X => assumption); (case T => assumption); (case S => assumption); (case hk => exact Fr.keep (by assumption)); (case hr => (first | omega | (simp only [depth_deeper, units_deeper, depth_in1, units_in1] at *; omega))); (case hu => (first | omega | (simp only [depth_deeper, units_deeper, depth_in1, units_in1] at *; omega))); (case hl => exact News.get (by assumption) (by k_mem)); (case hn => exact News.fresh (by assumption) (by k_mem)); (case T0 => exact TK.keeps (by assumption) (Fr.keep (by assumption))); (case T1 => exact TK.keeps (by assumption) (Fr.keep (by assumption))); (case T2 => exact TK.keeps (by assumption) (Fr.keep (by assumption))); (case D01 => first | assumption | exact Dis.symm (by assumption)); (case D02 => first | assumption | exact Dis.symm (by assumption)); (case D12 => first | assumption | exact Dis.symm (by assumption)); (intro h' tk' hb' hq'; (first | (have hFN := led_set (pre := []) (by assumption) (by assumption) hb' hq' (by k_all) (by k_all)) | (have hFN := led_set (pre := [_]) (by assumption) (by assumption) hb' hq' (by k_all) (by k_all)) | (have hFN := led_set (pre := [_, _]) (by assumption) (by assumption) hb' hq' (by k_all) (by k_all)) | (have hFN := led_set (pre := [_, _, _]) (by assumption) (by assumption) hb' hq' (by k_all) (by k_all)) | (have hFN := led_set (pre := [_, _, _, _]) (by assumption) (by assumption) hb' hq' (by k_all) (by k_all)) | (have hFN := led_set (pre := [_, _, _, _, _]) (by assumption) (by assumption) hb' hq' (by k_all) (by k_all))); (obtain ⟨F', N'⟩ := hFN); (try dsimp only [List.cons_append, List.nil_append] at N'); clear hb' hq'; (try dsimp only); walk_say "MINE siftup_max3"))
  revert X; k_fill; intro X
  refine' enterM X T hk [(hp, listOf #[.ref t0, .ref t1, .ref t2] nn)] ?hh ?k6 ?k7 ?k8 ?k9 ?kB ?_ ?c2 ?c3 ?c4 ?c5
  case hh => intro q hq; simp only [List.mem_singleton] at hq; subst hq; exact ⟨hl, hn⟩
  case k6 => k_is
  case k7 => k_is
  case k8 => omega
  case k9 => exact BindsTo.of_eq rfl
  case kB => exact locs rfl
  case c5 => decide
  case c2 => rfl
  case c3 => rfl
  case c4 => rfl
  intro g L' h₁ hg hkg X' T' F' N' hL
  have hg' : But hp s.heap g := fun b o e n => hg b o e (by intro q hq; simp only [List.mem_singleton] at hq; subst hq; exact n)
  have U0 := T0.but hl hg'
  have U1 := T1.but hl hg'
  have U2 := T2.but hl hg'
  have hS' := hS.keeps hkg
  clear T0 T1 T2 hg hL hl hn X T hS hk hkg
  (try dsimp only)
  k_steps
  refine rev_K (by assumption) (by assumption) (by assumption) ?_
  intro it h2 F2 N2 l2
  have l3 := ltN (l2 _ (.head _))
  dsimp only at l3
  clear l2
  refine iter_rit_K N2 (.head _) ?_
  refine for_unroll ?_
  refine next_rit_K (pre := []) F2 N2 (by k_all) (by k_all) (by decide) ?_
  intro h3 F3 N3
  clear F2 N2
  dsimp only [List.nil_append] at N3
  dsimp only
  k_steps
  refine for_unroll ?_
  refine next_rit_end_K (pre := []) (by first | exact hh | rfl) (by assumption) (by assumption) (by k_all) (by k_all) (by decide) ?_
  intro h5 F5 N5
  dsimp only [List.nil_append] at N5
  refine wpAny_execs_nil ?_
  dsimp only
  k_steps
  all_goals (refine hR _ _ (fun b o e n => Fr.keep (by assumption) b o (hg' b o e n)) ?_)
  · exact News.get (by assumption) (List.Mem.head _)
end Mine
end

section
open PySem PySem.W PySem.Spec PySem.Calls PyProof.Rows
set_option maxRecDepth 100000
namespace Mine
theorem enterC {w : World} {A : Around} {s : Shared} {R : Result → Shared → Prop} {K : Frag} {h₀ : Heap} {p : Program} {loose : List Str} {mean : ExcName → Option Value} {mg mb : Str → Option Value}
    {name qual : Str} {params : Arguments} {body : List Stmt} {scope : Scope} {dV kV doc pm cdv ct oc : Value} {an od : Option Addr} {osl : Array (Option Value)} {f : Addr} {args : Args} {binds : List (Str × Value)}
    (X : K.In h₀) (T : Top p loose mean mg mb h₀) (hk : Keeps h₀ s.heap) (hid : List (Addr × Obj)) (hhid : ∀ q ∈ hid, s.heap.get? q.1 = some q.2 ∧ h₀.get? q.1 = none)
    (ho : K.lookup f = some ⟨oc, od, .func (fnOf name qual params body scope dV kV doc pm an cdv ct), osl⟩) (hcd : codeIn K cdv qual = true) (hroom : A.depth < recursionLimit)
    (hbind : BindsTo s (fnOf name qual params body scope dV kV doc pm an cdv ct) args binds)
    (hkind : (binds.all fun y => scope.names.lookup y.1 == some .local || scope.names.lookup y.1 == some .cell) = true)
    (hnd : ((cellsFrom 0 scope.names []).map (·.1)).Nodup)
    (h : ∀ g L' h₁ tk cells, (∀ b o, s.heap.get? b = some o → (∀ q ∈ hid, b ≠ q.1) → g.get? b = some o) → Keeps h₀ g → K.In g → Top p loose mean mg mb g →
      Fr g L' h₁ (bindL (envOfC qual scope L' f cdv).kindOf binds fun _ => none) → News g L' h₁ (cells ++ hid) → CellsAre (bindC (envOfC qual scope L' f cdv).kindOf binds fun _ => none) (cellsFrom (L' + 1) scope.names []) cells → (∀ q ∈ hid, q.1 < L') →
      wpAny (model PySem.Challenge.rw_op0141_01.row.prog w) (A.deeper (envOfC qual scope L' f cdv)) (execs body (envOfC qual scope L' f cdv)) (fun fl s' => R (.ok (.ret (match fl with | .ret v => v | _ => .none))) s') (fun _ _ => False)
        { s with heap := h₁, toks := tk })
    (hco : scope.isCoroutine = false) (hgen : scope.isGenerator = false) (hkd : scope.kind = .function) : codeAny (model PySem.Challenge.rw_op0141_01.row.prog w) A (.call (.ref f) args) R s := by
  have Xs : K.In s.heap := fun a o e => hk _ _ (X a o e)
  have st : Keeps h₀ (hideAll s.heap (hid.map (·.1))) := fun b o e => hideAll_get _ (hk b o e) (fun q => by
    obtain ⟨p, hp, rfl⟩ := List.mem_map.mp q
    rw [(hhid p hp).2] at e; cases e)
  refine codeAny_call_function hroom (Xs _ _ ho) rfl hco hgen rfl (codeRec_of Xs hcd) (hbind _ _ _ _ ?_)
  refine wpAny_newFunctionEnv_cells hkd (kindsX hkind _) fun env' he s' x => ?_
  subst he
  refine ⟨(T.nolimit.keeps hk).keeps x.toInCall.keep, codeAny_func ?_⟩
  obtain ⟨h₁, tk, rfl, _⟩ := x.done
  have hk₁ := x.toInCall.keep
  obtain ⟨cells, NC, Y⟩ := Cl.news (h₀ := s.heap) (Nat.le_refl _) fun n c hm => ⟨x.cell n c (lookup_of_mem_nodup (cellsFrom_names scope.names 0 (s.heap.objs.size + 1) [] [] rfl ▸ hnd) hm), x.above n c hm⟩
  refine wpAny_mono (h (hideAll s.heap (hid.map (·.1))) s.heap.objs.size h₁ tk cells (fun b o e n => hideAll_get _ e (fun q => by
      obtain ⟨p, hp, rfl⟩ := List.mem_map.mp q
      exact n p hp rfl)) st (fun a o e => st _ _ (X a o e)) (T.keeps st) ⟨x.toInCall.ns, fun b o e => hk₁ b o (of_hideAll _ e), Nat.le_of_eq (hideAll_size _ _)⟩ (fun p hp => ?_) Y (fun p hp => Heap.lt_size (hhid p hp).1)) (fun fl s' hl => hl) (fun _ _ x => x.elim)
  rcases List.mem_append.mp hp with hp | hp
  · refine ⟨(NC p hp).1, (NC p hp).2.1, ?_⟩
    cases q : (hideAll s.heap (hid.map (·.1))).get? p.1 with
    | none => rfl
    | some o => have := of_hideAll _ q; rw [(NC p hp).2.2] at this; cases this
  · exact ⟨hk₁ _ _ (hhid p hp).1, Nat.ne_of_lt (Heap.lt_size (hhid p hp).1), hideAll_none _ (List.mem_map_of_mem hp)⟩
end Mine
end

section
open PySem PySem.W PySem.Spec PySem.Calls PyProof.Rows
set_option maxRecDepth 100000
namespace Mine
abbrev lsto (vs : List Value) (n : Nat) : Obj := listOf vs.toArray n
/-- the end of a list comprehension: back in the frame outside -/
def CEnd (g : Heap) (L : Addr) (m : Str → Option Value) (g2 : Heap) (C D : Addr) (Q : Value → Shared → Prop) (r : Result) (s' : Shared) : Prop :=
  r = .ok .next ∧ ∃ mC o news', Fr g2 C s'.heap mC ∧ News g2 C s'.heap ((D, o) :: news') ∧ ∀ h', Fr g L h' m → News g L h' ((D, o) :: news') → Q (.ref D) { s' with heap := h' }
section
variable {prog : Program} {w : World} {A : Around} {E : Value → Shared → Prop} {s : Shared} {env : Env} {g : Heap} {L : Addr} {m : Str → Option Value}
theorem comp_enter {elt target iter : Expr} {ifs : List Expr} {scope : Scope} {cl : List (Str × Addr)} {pos : Pos} {Q : Value → Shared → Prop}
    (hclos : closureFor scope env = pure cl) (hcell : ∀ y ∈ scope.names, y.2 ≠ .cell) (hkind : scope.kind = .function)
    (hnames : ∀ y ∈ scope.names, y.2 = .local → scope.names.lookup y.1 = some .local) (hs : ∀ x, foldedSetIterable iter env x = pure x)
    (h : wpAny (model prog w) A (eval iter env) (fun xv s₁ => wpAny (model prog w) A (pyIter xv) (fun itv s₂ => ∃ news, Fr g L s₂.heap m ∧ News g L s₂.heap news ∧
      ∀ g2 C D h₁ tk, Keeps g g2 → (∀ b o, s₂.heap.get? b = some o → (∀ q ∈ news, b ≠ q.1) → g2.get? b = some o) → Fr g2 C h₁ (fun _ => none) → News g2 C h₁ ((D, lsto [] 0) :: news) → (∀ q ∈ news, q.1 < D) →
        (∀ Q' : Value → Shared → Prop, Q' itv { s₂ with heap := h₁, toks := tk } → wpAny (model prog w) A (pyIter itv) Q' (fun _ _ => False) { s₂ with heap := h₁, toks := tk }) ∧
        codeAny (model prog w) A (.compLoop (.ListComp elt [⟨target, iter, ifs, 0⟩] scope pos) 0 itv (.ref D) (compEnvC scope cl C env)) (CEnd g L m g2 C D Q) { s₂ with heap := h₁, toks := tk }) E s₁) E s) :
    wpAny (model prog w) A (eval (.ListComp elt [⟨target, iter, ifs, 0⟩] scope pos) env) Q E s := by
  rw [eval_ListComp]
  refine wpAny_comprehension_free (use := none) rfl hs hclos hkind hnames (wpAny_mono h (fun xv s₁ h₁ => wpAny_mono h₁ (fun itv s₂ h₂ => ?_) fun _ _ e => e) fun _ _ e => e)
  obtain ⟨news, F, N, R⟩ := h₂
  refine wpAny_newObj_type (wpAny_newFunctionEnv hcell (by intro y hy; simp at hy) (fun h₁ hns₁ hsb₁ => ?_) hkind)
  dsimp only at hns₁ hsb₁ ⊢
  generalize hH2 : s₂.heap.push { cls := .type "list", dict := none, data := .seq ([] : List Value).toArray } = H2 at hns₁ hsb₁ ⊢
  have hC : H2.objs.size = s₂.heap.objs.size + 1 := by rw [← hH2, Heap.size_push]
  have up : ∀ b o, s₂.heap.get? b = some o → H2.get? b = some o := fun b o e => by rw [← hH2]; exact Heap.get?_push_of_some _ e
  have up1 : ∀ b o, H2.get? b = some o → h₁.get? b = some o := fun b o e => hsb₁.extBut b o (Nat.ne_of_lt (Heap.lt_size e)) (Heap.get?_push_of_some _ e)
  have hD : H2.get? s₂.heap.objs.size = some (lsto [] 0) := by rw [← hH2]; exact Heap.get?_push_size _ rfl
  -- the ground of the block: all but the ledger and the new list
  let hidden : List Addr := s₂.heap.objs.size :: news.map (·.1)
  let g2 := hideAll H2 hidden
  have gk : Keeps g g2 := fun b o e => hideAll_get _ (up _ _ (F.keep b o e)) (fun q => by
    rcases List.mem_cons.mp q with q | q
    · have := Heap.lt_size (F.keep b o e); rw [q] at this; exact Nat.lt_irrefl _ this
    · obtain ⟨p, hp, rfl⟩ := List.mem_map.mp q; rw [(N p hp).2.2] at e; cases e)
  have gs : ∀ b o, s₂.heap.get? b = some o → (∀ q ∈ news, b ≠ q.1) → g2.get? b = some o := fun b o e n => hideAll_get _ (up _ _ e) (fun q => by
    rcases List.mem_cons.mp q with q | q
    · have := Heap.lt_size e; rw [q] at this; exact Nat.lt_irrefl _ this
    · obtain ⟨p, hp, rfl⟩ := List.mem_map.mp q; exact n p hp rfl)
  have F2 : Fr g2 H2.objs.size h₁ (fun _ => none) := ⟨by simpa using hns₁, fun b o e => up1 _ _ (of_hideAll _ e), Nat.le_of_eq (hideAll_size _ _)⟩
  have N2 : News g2 H2.objs.size h₁ ((s₂.heap.objs.size, lsto [] 0) :: news) := fun p hp => by
    rcases List.mem_cons.mp hp with rfl | hp
    · exact ⟨up1 _ _ hD, by show s₂.heap.objs.size ≠ H2.objs.size; omega, hideAll_none _ (.head _)⟩
    · have z := (N p hp).1
      exact ⟨up1 _ _ (up _ _ z), Nat.ne_of_lt (by rw [hC]; exact Nat.lt_succ_of_lt (Heap.lt_size z)), hideAll_none _ (.tail _ (List.mem_map_of_mem hp))⟩
  obtain ⟨hpi, hco⟩ := R g2 H2.objs.size s₂.heap.objs.size h₁ (s₂.toks + ([] : List (Str × Value)).length) gk gs F2 N2 (fun q hq => Heap.lt_size (N q hq).1)
  have key : codeAny (model prog w) A (.compLoop (.ListComp elt [⟨target, iter, ifs, 0⟩] scope pos) 0 itv (.ref s₂.heap.objs.size) (compEnvC scope cl H2.objs.size env)) (compPost (model prog w) A E none Q (.ref s₂.heap.objs.size) H2.objs.size) { s₂ with heap := h₁, toks := s₂.toks + ([] : List (Str × Value)).length } := by
    refine codeAny_mono hco fun r s' hr => ?_
    obtain ⟨rfl, mC, o, news', F', N', k⟩ := hr
    refine ⟨mC, F'.ns, fun h' hsb => k h' ?_ ?_⟩
    · obtain ⟨oL, es, ep, hL, r⟩ := F.ns
      have hLg : g2.get? L = some oL := gs L oL hL (fun q hq e => (N q hq).2.1 e.symm)
      have ne : ∀ b o, g2.get? b = some o → b ≠ H2.objs.size := fun b o e => Nat.ne_of_lt (Nat.lt_of_lt_of_le (Heap.lt_size e) (Nat.le_of_eq (hideAll_size _ _)))
      refine ⟨⟨oL, es, ep, (hsb.2 _ (ne _ _ hLg)).trans (F'.keep _ _ hLg), r⟩, fun b o e => (hsb.2 _ (ne _ _ (gk _ _ e))).trans (F'.keep _ _ (gk _ _ e)), F.above⟩
    · intro p hp
      obtain ⟨z1, z2, z3⟩ := N' p hp
      refine ⟨(hsb.2 _ z2).trans z1, fun e => ?_, ?_⟩
      · obtain ⟨oL, es, ep, hL, r⟩ := F.ns
        have hLg : g2.get? L = some oL := gs L oL hL (fun q hq e => (N q hq).2.1 e.symm)
        rw [e, hLg] at z3; cases z3
      · cases q : g.get? p.1 with
        | none => rfl
        | some o' => rw [gk _ _ q] at z3; cases z3
  exact codeAny_compStart_list key (wpAny_mono (hpi _ key) (fun _ _ x => x) fun _ _ x => x.elim)
/-- one turn of a list comprehension -/
theorem comp_unroll {elt target iter : Expr} {scope : Scope} {pos : Pos} {it acc : Value} {env : Env} {R : Result → Shared → Prop}
    (h : wpAny (model prog w) A (pyNext it) (fun r s₁ => match r with
      | none => R (.ok .next) s₁
      | some v => wpAny (model prog w) A (letOwnedTupleGo target it v) (fun _ s₀ => wpAny (model prog w) A (assign target env v) (fun _ s₂ =>
          wpAny (model prog w) A (eval elt env) (fun x s₄ =>
            wpAny (model prog w) A (call (.builtin "list.append") [acc, x]) (fun _ s₅ => codeAny (model prog w) A (.compLoop (.ListComp elt [⟨target, iter, [], 0⟩] scope pos) 0 it acc env) R s₅) (fun _ _ => False) s₄) (fun _ _ => False) s₂)
          (fun _ _ => False) s₀) (fun _ _ => False) s₁) (fun _ _ => False) s) :
    codeAny (model prog w) A (.compLoop (.ListComp elt [⟨target, iter, [], 0⟩] scope pos) 0 it acc env) R s := by
  refine codeAny_of_tree ?_
  rw [Around.under_of_weight rfl rfl]
  show wpAny _ A ((compTurn (.ListComp elt [⟨target, iter, [], 0⟩] scope pos) 0 it acc env).onRaise (fun x => do noteFrame x env; theTreesLotGoes x)) _ _ s
  refine wpAny_noted ?_
  rw [compTurn_list]
  refine wpAny_bind (wpAny_standAt (wpAny_bind (wpAny_mono h (fun r s₁ h₁ => ?_) fun _ _ h' => h'.elim)))
  cases r with
  | none => exact wpAny_pure h₁
  | some v =>
    refine wpAny_bind (wpAny_mono h₁ (fun _ s₀ h₀' => ?_) fun _ _ h' => h'.elim)
    refine wpAny_bind (wpAny_mono h₀' (fun _ s₂ h₂ => ?_) fun _ _ h' => h'.elim)
    refine wpAny_bind (wpAny_tests_nil ?_)
    exact wpAny_bind (wpAny_bind (wpAny_mono h₂ (fun x s₄ h₄ => wpAny_bind (wpAny_mono h₄ (fun _ s₅ h₅ => wpAny_pure (wpAny_pure ⟨rfl, h₅⟩)) fun _ _ h' => h'.elim)) fun _ _ h' => h'.elim))
end
end Mine
end

section
open PySem PySem.W PySem.Spec PySem.Calls PyProof.Rows
set_option maxRecDepth 100000
namespace Mine
section
variable {prog : Program} {w : World} {A : Around} {E : Value → Shared → Prop} {s : Shared}
theorem nextOf_rit {it : Addr} {x left step : Int} {Q : Value → Shared → Prop} (hit : IsRangeIter s.heap it x left step) (hleft : 0 < left)
    (hQ : ∀ h', IsRangeIter h' it (x + step) (left - 1) step → Heap.SameBut it s.heap h' → Q (.int x s.toks) { s with heap := h', toks := s.toks + 1 }) :
    wpAny (model prog w) A (Builtin.SmallTypes.nextOf (.ref it)) Q E s := by
  have hT : s.TypeIs (.ref it) "range_iterator" := ⟨_, hit, rfl⟩
  unfold Builtin.SmallTypes.nextOf
  refine wpAny_bind (wpAny_callSpecial?_slot (name := Str.ofString "__next__") hT F.slot_range_iterator_next
    (call_meets F.slot_range_iterator_next hT F.entry_range_iterator_next (F.args_range_iterator_next_1 _) (AutoRange.range_iterator___next___range_iterator_1 it x left step (by omega)) ⟨hit, ?_⟩))
  exact wpAny_pure (hQ _ (Heap.get?_update_self _ (Heap.get?_update_self _ hit rfl) rfl) ((Heap.SameBut.update ..).trans (Heap.SameBut.update ..)))
theorem nextOf_rit_end {it : Addr} {x left step : Int} {Q : Value → Shared → Prop} (hh : A.handled = none) (hit : IsRangeIter s.heap it x left step) (hleft : left ≤ 0)
    (hE : ∀ h' e, Heap.ExtBut it s.heap h' → (∃ o, h'.get? e = some o ∧ o.cls = .type "StopIteration") → E (.ref e) { s with heap := h' }) :
    wpAny (model prog w) A (Builtin.SmallTypes.nextOf (.ref it)) Q E s := by
  have hT : s.TypeIs (.ref it) "range_iterator" := ⟨_, hit, rfl⟩
  unfold Builtin.SmallTypes.nextOf
  refine wpAny_bind (wpAny_callSpecial?_slot (name := Str.ofString "__next__") hT F.slot_range_iterator_next
    (wpAny_call_entry F.slot_range_iterator_next hT F.entry_range_iterator_next ?_ (F.args_range_iterator_next_1 _)))
  show wpAny _ _ (field (.ref it) 0 >>= _) _ _ s
  refine wpAny_bind (wpAny_field hit rfl (x := rawInt x) rfl ?_)
  show wpAny _ _ (field (.ref it) 1 >>= _) _ _ s
  refine wpAny_bind (wpAny_field hit rfl (x := rawInt left) rfl ?_)
  show wpAny _ _ (field (.ref it) 2 >>= _) _ _ s
  refine wpAny_bind (wpAny_field hit rfl (x := rawInt step) rfl ?_)
  show wpAny _ _ (if left ≤ 0 then _ else _) _ _ s
  rw [if_pos hleft]
  refine wpAny_bind (wpAny_rule ?_)
  refine wpAny_bind ?_
  show wpAny _ _ (newExc (.type "StopIteration") [] >>= _) _ _ _
  refine wpAny_bind ?_
  simp only [newExc, newTuple]
  refine wpAny_bind (wpAny_newObj_type ?_ (by size_fits))
  refine wpAny_bind (m := firstArgMember _ _) (wpAny_of_eq (a := Value.none) (by first | rfl | (simp only [firstArgMember]; rfl)) ?_)
  refine wpAny_newObj_type ?_ (by size_fits)
  simp only [raiseNew]
  refine wpAny_bind (wpAny_handled ?_)
  rw [show A.in1.handled = none from hh]
  refine wpAny_bind (wpAny_pure (wpAny_throw ?_))
  exact hE _ _ (((Heap.ExtBut.refl it s.heap).push _).push _) ⟨_, Heap.get?_push_size _ rfl, rfl⟩
structure Apart (z TI TO i1 i2 : Addr) : Prop where
  TIz : TI ≠ z
  TOz : TO ≠ z
  i1z : i1 ≠ z
  i2z : i2 ≠ z
  TITO : TI ≠ TO
  TOi1 : TO ≠ i1
  TOi2 : TO ≠ i2
  i12 : i1 ≠ i2
theorem zipr_next_item {z TI TO i1 i2 : Addr} {a b : Value} {x1 l1 s1 x2 l2 s2 : Int} {Q : Value → Shared → Prop} (D : Apart z TI TO i1 i2)
    (hz : IsZip s.heap z TI TO .none) (hTI : IsPair s.heap TI (.ref i1) (.ref i2)) (hTO : IsPair s.heap TO a b)
    (h1 : IsRangeIter s.heap i1 x1 l1 s1) (h2 : IsRangeIter s.heap i2 x2 l2 s2) (p1 : 0 < l1) (p2 : 0 < l2)
    (hQ : ∀ h', IsZip h' z TI TO (rawInt s.heap.objs.size) → IsPair h' TO (.int x1 s.toks) (.int x2 (s.toks + 1)) → IsRangeIter h' i1 (x1 + s1) (l1 - 1) s1 → IsRangeIter h' i2 (x2 + s2) (l2 - 1) s2 → IsPair h' s.heap.objs.size (.int x1 s.toks) (.int x2 (s.toks + 1)) →
      (∀ c o, c ≠ z → c ≠ TO → c ≠ i1 → c ≠ i2 → s.heap.get? c = some o → h'.get? c = some o) → Q (.ref s.heap.objs.size) { s with heap := h', toks := s.toks + 1 + 1 }) :
    wpAny (model prog w) A (Builtin.«zip.__next__» ⟨[.ref z], []⟩) (fun fin s' => ∃ v, fin = .done (.ret v) ∧ Q v s') E s := by
  show wpAny _ _ (field (.ref z) 2 >>= _) _ _ _
  refine wpAny_bind (wpAny_field hz rfl (x := .bool false) rfl ?_)
  show wpAny _ _ (field (.ref z) 3 >>= _) _ _ _
  refine wpAny_bind (wpAny_field hz rfl (x := .ref TI) rfl ?_)
  refine wpAny_bind (wpAny_seqItems hTI rfl ?_)
  show wpAny _ _ (Builtin.SmallTypes.ownedTupleIsFree (.ref z) >>= _) _ _ _
  refine wpAny_bind ?_
  unfold Builtin.SmallTypes.ownedTupleIsFree
  refine wpAny_bind (wpAny_field hz rfl (x := .none) rfl (wpAny_pure ?_))
  simp only [if_true]
  refine wpAny_bind (wpAny_rule ?_)
  refine wpAny_bind (wpAny_field hz rfl (x := .ref TO) rfl ?_)
  refine wpAny_bind (wpAny_setField_rec hz (by simp) fun h₁ hz₁ hs₁ => ?_)
  replace hz₁ : IsZip h₁ z TI TO .ellipsis := hz₁
  refine wpAny_bind ?_
  simp only [List.zipIdx_cons, List.zipIdx_nil, List.forIn_cons, List.forIn_nil]
  refine wpAny_bind (wpAny_bind (wpAny_onRaise ?_))
  show wpAny _ _ (Builtin.SmallTypes.nextOf (.ref i1) >>= _) _ _ _
  refine wpAny_bind (nextOf_rit (hs₁.extBut _ _ D.i1z h1) p1 fun h₂ h1₂ hs₂ => wpAny_pure ?_)
  have hTO₂ : IsPair h₂ TO a b := hs₂.extBut _ _ D.TOi1 (hs₁.extBut _ _ D.TOz hTO)
  refine wpAny_bind (wpAny_seqItems hTO₂ rfl ?_)
  refine wpAny_bind (wpAny_updateSeq_pair hTO₂ fun h₃ hTO₃ hs₃ => ?_)
  replace hTO₃ : IsPair h₃ TO (.int x1 s.toks) b := hTO₃
  refine wpAny_bind (wpAny_letGo (wpAny_pure ?_))
  refine wpAny_bind (wpAny_bind (wpAny_onRaise ?_))
  show wpAny _ _ (Builtin.SmallTypes.nextOf (.ref i2) >>= _) _ _ _
  refine wpAny_bind (nextOf_rit (hs₃.extBut _ _ D.TOi2.symm (hs₂.extBut _ _ D.i12.symm (hs₁.extBut _ _ D.i2z h2))) p2 fun h₄ h2₄ hs₄ => wpAny_pure ?_)
  have hTO₄ : IsPair h₄ TO (.int x1 s.toks) b := hs₄.extBut _ _ D.TOi2 hTO₃
  refine wpAny_bind (wpAny_seqItems hTO₄ rfl ?_)
  refine wpAny_bind (wpAny_updateSeq_pair hTO₄ fun h₅ hTO₅ hs₅ => ?_)
  replace hTO₅ : IsPair h₅ TO (.int x1 s.toks) (.int x2 (s.toks + 1)) := hTO₅
  refine wpAny_bind (wpAny_letGo (wpAny_pure (wpAny_pure ?_)))
  refine wpAny_bind (wpAny_seqItems hTO₅ rfl ?_)
  refine wpAny_bind (wpAny_newTuple ?_)
  have hsz : h₅.objs.size = s.heap.objs.size := by rw [hs₅.1, hs₄.1, hs₃.1, hs₂.1, hs₁.1]
  have hz₅ : IsZip h₅ z TI TO .ellipsis := hs₅.extBut _ _ D.TOz.symm (hs₄.extBut _ _ D.i2z.symm (hs₃.extBut _ _ D.TOz.symm (hs₂.extBut _ _ D.i1z.symm hz₁)))
  have hk₅ : ∀ c o, c ≠ z → c ≠ TO → c ≠ i1 → c ≠ i2 → s.heap.get? c = some o → h₅.get? c = some o := fun c o c1 c2 c3 c4 e =>
    hs₅.extBut _ _ c2 (hs₄.extBut _ _ c4 (hs₃.extBut _ _ c2 (hs₂.extBut _ _ c3 (hs₁.extBut _ _ c1 e))))
  have h1₅ : IsRangeIter h₅ i1 (x1 + s1) (l1 - 1) s1 := hs₅.extBut _ _ D.TOi1.symm (hs₄.extBut _ _ D.i12 (hs₃.extBut _ _ D.TOi1.symm h1₂))
  have h2₅ : IsRangeIter h₅ i2 (x2 + s2) (l2 - 1) s2 := hs₅.extBut _ _ D.TOi2.symm h2₄
  have hzlt : z < h₅.objs.size := Heap.lt_size hz₅
  show wpAny _ _ (Builtin.SmallTypes.ownedTupleHandOut (.ref z) (.ref h₅.objs.size) >>= _) _ _ _
  refine wpAny_bind ?_
  unfold Builtin.SmallTypes.ownedTupleHandOut
  have hz₆ : IsZip (h₅.push { cls := .type "tuple", data := .seq #[.int x1 s.toks, .int x2 (s.toks + 1)] }) z TI TO .ellipsis := Heap.get?_push_of_some _ hz₅
  refine wpAny_bind (wpAny_setField_rec hz₆ (by simp) fun h₇ hz₇ hs₇ => ?_)
  replace hz₇ : IsZip h₇ z TI TO (rawInt h₅.objs.size) := hz₇
  refine wpAny_setField_rec hz₇ (by simp) fun h₈ hz₈ hs₈ => ?_
  replace hz₈ : IsZip h₈ z TI TO (rawInt h₅.objs.size) := hz₈
  have up : ∀ c o, c ≠ z → h₅.get? c = some o → h₈.get? c = some o := fun c o c1 e => hs₈.extBut _ _ c1 (hs₇.extBut _ _ c1 (Heap.get?_push_of_some _ e))
  have hT₈ : IsPair h₈ h₅.objs.size (.int x1 s.toks) (.int x2 (s.toks + 1)) := hs₈.extBut _ _ (Nat.ne_of_gt hzlt) (hs₇.extBut _ _ (Nat.ne_of_gt hzlt) (Heap.get?_push_size _ rfl))
  rw [hsz] at hz₈ hT₈
  refine wpAny_pure ⟨_, rfl, ?_⟩
  show Q (.ref h₅.objs.size) _
  rw [hsz]
  exact hQ h₈ hz₈ (up _ _ D.TOz hTO₅) (up _ _ D.i1z h1₅) (up _ _ D.i2z h2₅) hT₈ fun c o c1 c2 c3 c4 e => up c o c1 (hk₅ c o c1 c2 c3 c4 e)
/-- the first of the two is at its end: the second is not drawn from -/
theorem zipr_next_end {z TI TO i1 i2 : Addr} {a b : Value} {x1 l1 s1 : Int} {Q : PySem.Fin → Shared → Prop} (hh : A.handled = none) (D : Apart z TI TO i1 i2)
    (hz : IsZip s.heap z TI TO .none) (hTI : IsPair s.heap TI (.ref i1) (.ref i2)) (hTO : IsPair s.heap TO a b) (h1 : IsRangeIter s.heap i1 x1 l1 s1) (p1 : l1 ≤ 0)
    (hE : ∀ h' e, (∀ c o, c ≠ z → c ≠ i1 → s.heap.get? c = some o → h'.get? c = some o) → (∃ o, h'.get? e = some o ∧ o.cls = .type "StopIteration") → E (.ref e) { s with heap := h' }) :
    wpAny (model prog w) A (Builtin.«zip.__next__» ⟨[.ref z], []⟩) Q E s := by
  show wpAny _ _ (field (.ref z) 2 >>= _) _ _ _
  refine wpAny_bind (wpAny_field hz rfl (x := .bool false) rfl ?_)
  show wpAny _ _ (field (.ref z) 3 >>= _) _ _ _
  refine wpAny_bind (wpAny_field hz rfl (x := .ref TI) rfl ?_)
  refine wpAny_bind (wpAny_seqItems hTI rfl ?_)
  show wpAny _ _ (Builtin.SmallTypes.ownedTupleIsFree (.ref z) >>= _) _ _ _
  refine wpAny_bind ?_
  unfold Builtin.SmallTypes.ownedTupleIsFree
  refine wpAny_bind (wpAny_field hz rfl (x := .none) rfl (wpAny_pure ?_))
  simp only [if_true]
  refine wpAny_bind (wpAny_rule ?_)
  refine wpAny_bind (wpAny_field hz rfl (x := .ref TO) rfl ?_)
  refine wpAny_bind (wpAny_setField_rec hz (by simp) fun h₁ hz₁ hs₁ => ?_)
  replace hz₁ : IsZip h₁ z TI TO .ellipsis := hz₁
  refine wpAny_bind ?_
  simp only [List.zipIdx_cons, List.zipIdx_nil, List.forIn_cons, List.forIn_nil]
  refine wpAny_bind (wpAny_bind (wpAny_onRaise ?_))
  show wpAny _ _ (Builtin.SmallTypes.nextOf (.ref i1) >>= _) _ _ _
  refine wpAny_bind (nextOf_rit_end hh (hs₁.extBut _ _ D.i1z h1) p1 fun h₂ e hs₂ he => ?_)
  obtain ⟨oe, hoe, hce⟩ := he
  have hz₂ : IsZip h₂ z TI TO .ellipsis := hs₂ _ _ D.i1z.symm hz₁
  have hez : e ≠ z := fun x => by subst x; rw [hz₂] at hoe; cases hoe; simp at hce
  exact wpAny_setField_rec hz₂ (by simp) fun h₃ _ hs₃ => hE h₃ e (fun c o c1 c3 x => hs₃.extBut _ _ c1 (hs₂ _ _ c3 (hs₁.extBut _ _ c1 x))) ⟨oe, hs₃.extBut _ _ hez hoe, hce⟩
theorem pyNext_zipr {z TI TO i1 i2 : Addr} {a b : Value} {x1 l1 s1 x2 l2 s2 : Int} {Q : Option Value → Shared → Prop} (D : Apart z TI TO i1 i2)
    (hz : IsZip s.heap z TI TO .none) (hTI : IsPair s.heap TI (.ref i1) (.ref i2)) (hTO : IsPair s.heap TO a b)
    (h1 : IsRangeIter s.heap i1 x1 l1 s1) (h2 : IsRangeIter s.heap i2 x2 l2 s2) (p1 : 0 < l1) (p2 : 0 < l2)
    (hQ : ∀ h', IsZip h' z TI TO (rawInt s.heap.objs.size) → IsPair h' TO (.int x1 s.toks) (.int x2 (s.toks + 1)) → IsRangeIter h' i1 (x1 + s1) (l1 - 1) s1 → IsRangeIter h' i2 (x2 + s2) (l2 - 1) s2 → IsPair h' s.heap.objs.size (.int x1 s.toks) (.int x2 (s.toks + 1)) →
      (∀ c o, c ≠ z → c ≠ TO → c ≠ i1 → c ≠ i2 → s.heap.get? c = some o → h'.get? c = some o) → Q (some (.ref s.heap.objs.size)) { s with heap := h', toks := s.toks + 1 + 1 }) :
    wpAny (model prog w) A (pyNext (.ref z)) Q E s := by
  have hT : s.TypeIs (.ref z) "zip" := ⟨_, hz, rfl⟩
  unfold pyNext
  exact wpAny_bind (wpAny_attempt (wpAny_callSpecial?_slot (name := Str.ofString "__next__") hT F.slot_zip_next
    (wpAny_call_entry F.slot_zip_next hT F.entry_zip_next
      (zipr_next_item D hz hTI hTO h1 h2 p1 p2 fun h' a1 a2 a3 a4 a5 a6 => wpAny_pure (hQ h' a1 a2 a3 a4 a5 a6)) (F.args_zip_next_1 _))))
theorem pyNext_zipr_end {z TI TO i1 i2 : Addr} {a b : Value} {x1 l1 s1 : Int} {Q : Option Value → Shared → Prop} (hh : A.handled = none) (D : Apart z TI TO i1 i2)
    (hz : IsZip s.heap z TI TO .none) (hTI : IsPair s.heap TI (.ref i1) (.ref i2)) (hTO : IsPair s.heap TO a b) (h1 : IsRangeIter s.heap i1 x1 l1 s1) (p1 : l1 ≤ 0)
    (hQ : ∀ h', (∀ c o, c ≠ z → c ≠ i1 → s.heap.get? c = some o → h'.get? c = some o) → Q none { s with heap := h' }) : wpAny (model prog w) A (pyNext (.ref z)) Q E s := by
  have hT : s.TypeIs (.ref z) "zip" := ⟨_, hz, rfl⟩
  unfold pyNext
  refine wpAny_bind (wpAny_attempt (wpAny_callSpecial?_slot (name := Str.ofString "__next__") hT F.slot_zip_next
    (wpAny_call_entry F.slot_zip_next hT F.entry_zip_next (zipr_next_end hh D hz hTI hTO h1 p1 fun h' e hk he => ?_) (F.args_zip_next_1 _))))
  obtain ⟨o, ho, hc⟩ := he
  refine wpAny_bind (wpAny_isInstance (T := "StopIteration") (b := true) ⟨o, ho, hc⟩ isSubtype_stop ?_)
  exact wpAny_pure (hQ _ hk)
end
end Mine
end

section
open PySem PySem.W PySem.Spec PySem.Calls PyProof.Rows
set_option maxRecDepth 100000
namespace Mine
abbrev zr1 (h : Heap) (a n c : Int) : Heap := h.push (rit a n c)
abbrev zr2 (h : Heap) (a n c : Int) (it : Addr) : Heap := (zr1 h a n c).push { cls := .type "tuple", data := .seq #[.ref h.objs.size, .ref it] }
abbrev zr3 (h : Heap) (a n c : Int) (it : Addr) : Heap := (zr2 h a n c it).push { cls := .type "tuple", data := .seq #[.none, .none] }
abbrev zr4 (h : Heap) (a n c : Int) (it : Addr) : Heap := (zr3 h a n c it).push { cls := .type "zip", data := .fields #[.none, .bool false, .bool false, .ref (zr1 h a n c).objs.size, .ref (zr2 h a n c it).objs.size] }
theorem meets_zipr_new (r it : Addr) (a b c x left step : Int) (t u v : Tok) (hsm : Builtin.Range.small a b c = true) :
    Meets (Builtin.«zip.__new__» ⟨[.type "zip", .ref r, .ref it], []⟩) (fun _ R s => IsRange s.heap r a b c t u v ∧ IsRangeIter s.heap it x left step ∧
      R (.ok (.ret (.ref (zr3 s.heap a (Builtin.Range.rangeSize a b c) c it).objs.size))) { s with heap := zr4 s.heap a (Builtin.Range.rangeSize a b c) c it }) :=
  .of_wp fun prog w A R s h => by
    obtain ⟨hp, g, d, tk, os⟩ := s; obtain ⟨hr, hit, h⟩ := h
    have hsub := sub_zip
    have hL1 : IsRange (Shared.heap ⟨hp, g, d, tk, os⟩) r a b c t u v := hr
    have hL2 : IsRangeIter (Shared.heap ⟨hp.push { cls := .type "range_iterator", data := .fields #[rawInt a, rawInt (Builtin.Range.rangeSize a b c), rawInt c] }, g, d, tk, os⟩) it x left step := Heap.get?_push_of_some _ hit
    wp_walk using wpAny_pyIter_range hL1 hsm, wpAny_pyIter_rangeiter hL2
    exact ⟨_, rfl, h⟩
section
variable {prog : Program} {w : World} {A : Around} {E : Value → Shared → Prop} {s : Shared}
theorem call_zipr {r it : Addr} {a b c x left step : Int} {t u v : Tok} {n : Int} {Q : Value → Shared → Prop} (hr : IsRange s.heap r a b c t u v) (hsm : Builtin.Range.small a b c = true) (hn : Builtin.Range.rangeSize a b c = n) (hit : IsRangeIter s.heap it x left step)
    (h : ∀ h' z TI TO i1, IsZip h' z TI TO .none → IsPair h' TI (.ref i1) (.ref it) → IsPair h' TO .none .none → IsRangeIter h' i1 a n c → s.heap.objs.size ≤ i1 → i1 < TI → TI < TO → TO < z → (∀ q o, s.heap.get? q = some o → h'.get? q = some o) → Q (.ref z) { s with heap := h' }) :
    wpAny (model prog w) A (call (.type "zip") [.ref r, .ref it]) Q E s := by
  refine callType_new F.called_zip (by decide) (F.typeCall_zip_2 _ _) (F.newCall_zip_2 _ _) (fun obj => F.args_object_init_3 obj _ _) F.entry_zip_new
    (meets_zipr_new r it a b c x left step t u v hsm) ⟨hr, hit, ?_⟩
  subst hn
  generalize hN : Builtin.Range.rangeSize a b c = n
  have z1 : (zr1 s.heap a n c).objs.size = s.heap.objs.size + 1 := Heap.size_push ..
  have z2 : (zr2 s.heap a n c it).objs.size = s.heap.objs.size + 2 := by rw [Heap.size_push, z1]
  have z3 : (zr3 s.heap a n c it).objs.size = s.heap.objs.size + 3 := by rw [Heap.size_push, z2]
  have g4 : (zr4 s.heap a n c it).get? (zr3 s.heap a n c it).objs.size = some _ := Heap.get?_push_size _ rfl
  have g3 : (zr4 s.heap a n c it).get? (zr2 s.heap a n c it).objs.size = some _ := Heap.get?_push_of_some _ (Heap.get?_push_size _ rfl)
  have g2 : (zr4 s.heap a n c it).get? (zr1 s.heap a n c).objs.size = some _ := Heap.get?_push_of_some _ (Heap.get?_push_of_some _ (Heap.get?_push_size _ rfl))
  have g1 : (zr4 s.heap a n c it).get? s.heap.objs.size = some _ := Heap.get?_push_of_some _ (Heap.get?_push_of_some _ (Heap.get?_push_of_some _ (Heap.get?_push_size _ rfl)))
  show _ ∧ _
  refine ⟨⟨_, g4, rfl⟩, h _ _ _ _ _ g4 g2 g3 (by rw [← hN] at g1 ⊢; exact g1) (Nat.le_refl _) (by rw [z1]; exact Nat.lt_succ_self _) (by rw [z1, z2]; exact Nat.lt_succ_self _) (by rw [z2, z3]; exact Nat.lt_succ_self _) fun q o x =>
    Heap.get?_push_of_some _ (Heap.get?_push_of_some _ (Heap.get?_push_of_some _ (Heap.get?_push_of_some _ x)))⟩
/-- iter(range(..)) -/
theorem iter_range_K {g : Heap} {L r : Addr} {m : Str → Option Value} {news : List (Addr × Obj)} {t u v : Tok} {Q : Value → Shared → Prop} (F : Fr g L s.heap m) (N : News g L s.heap news) (hr : IsRange s.heap r 0 6 1 t u v)
    (h : ∀ it h', Fr g L h' m → News g L h' ((it, rit 0 6 1) :: news) → (∀ q ∈ news, q.1 < it) → Q (.ref it) { s with heap := h' }) : wpAny (model prog w) A (call (.builtin "iter") [.ref r]) Q E s := by
  obtain ⟨F2, N2, l2⟩ := led_push F N (rit 0 6 1)
  refine call_function_entry (by decide +kernel) (by decide +kernel) kdk_entry_iter (kdk_args_iter _) ?_
  unfold Builtin.«iter»
  refine wpAny_bind (m := someArgs "iter" 1 2 _) (wpAny_of_eq (a := [Value.ref r]) (by first | rfl | kernel_rfl) ?_)
  show wpAny _ _ (pyIter (.ref r) >>= _) _ _ _
  refine wpAny_bind (wpAny_pyIter_range hr (by decide +kernel) ?_)
  exact wpAny_pure ⟨_, rfl, h _ _ F2 N2 l2⟩
end
end Mine
end

section
open PySem PySem.W PySem.Spec PySem.Calls PyProof.Rows
set_option maxRecDepth 100000
namespace Mine
/-- the key function at fl: i -> the float x i -/
structure KeyCall (w : World) (g : Heap) (fl : Addr) (x : Int → UInt64) (t : Int → Tok) : Prop where
  fn : ∃ o fd, g.get? fl = some o ∧ o.data = .func fd
  call : ∀ (A : Around) (s : Shared) (i : Int) (ti : Tok) (Q E : Value → Shared → Prop), Keeps g s.heap → A.depth + 5 < recursionLimit → A.units + 20 < cLine → 0 ≤ i → i < 6 →
    (∀ h' tk', Keeps s.heap h' → Q (.float (x i) (t i)) { s with heap := h', toks := tk' }) →
    wpAny (model PySem.Challenge.rw_op0141_01.row.prog w) A (call (.ref fl) [.int i ti]) Q E s
theorem KeyCall.keeps {w : World} {g g' : Heap} {fl : Addr} {x : Int → UInt64} {t : Int → Tok} (k : KeyCall w g fl x t) (q : Keeps g g') : KeyCall w g' fl x t :=
  ⟨let ⟨o, fd, e, d⟩ := k.fn; ⟨o, fd, q _ _ e, d⟩, fun A s i ti Q E hk => k.call A s i ti Q E (fun b o e => hk _ _ (q _ _ e))⟩
abbrev zipO (f0 : Value) (TI TO : Addr) : Obj := { cls := .type "zip", dict := none, data := .fields #[f0, .bool false, .bool false, .ref TI, .ref TO], slots := #[] }
abbrev pairO (a b : Value) : Obj := { cls := .type "tuple", data := .seq #[a, b] }
abbrev tup3 (x : UInt64) (t : Tok) (o : Int) (to : Tok) (e : Int) (te : Tok) : Obj := { cls := .type "tuple", data := .seq #[.float x t, .int o to, .int e te] }
theorem fr_chg {g h h' : Heap} {L : Addr} {m : Str → Option Value} (F : Fr g L h m) (W : List Addr) (hW : ∀ c ∈ W, g.get? c = none ∧ c ≠ L) (hk : ∀ c o, c ∉ W → h.get? c = some o → h'.get? c = some o) : Fr g L h' m := by
  obtain ⟨oL, es, ep, hL, r⟩ := F.ns
  refine ⟨⟨oL, es, ep, hk _ _ (fun q => (hW _ q).2 rfl) hL, r⟩, fun b o e => hk _ _ (fun q => ?_) (F.keep b o e), F.above⟩
  rw [(hW _ q).1] at e; cases e
theorem news_chg {g h h' : Heap} {L : Addr} {news news' : List (Addr × Obj)} (N : News g L h news) (h1 : ∀ p ∈ news', h'.get? p.1 = some p.2) (h2 : ∀ p ∈ news', ∃ o, (p.1, o) ∈ news) : News g L h' news' := fun p hp =>
  let ⟨o, ho⟩ := h2 p hp; ⟨h1 p hp, (N _ ho).2⟩
theorem led_keeps {g h h' : Heap} {L : Addr} {m : Str → Option Value} {news : List (Addr × Obj)} (F : Fr g L h m) (N : News g L h news) (k : Keeps h h') : Fr g L h' m ∧ News g L h' news := by
  obtain ⟨oL, es, ep, hL, r⟩ := F.ns
  exact ⟨⟨⟨oL, es, ep, k _ _ hL, r⟩, fun b o e => k _ _ (F.keep b o e), F.above⟩, fun p hp => ⟨k _ _ (N p hp).1, (N p hp).2⟩⟩
/-- the ledger of the comprehension over zip(range, it) -/
abbrev zled (D : Addr) (vs : List Value) (n : Nat) (z TI TO : Addr) (a b : Value) (i1 : Addr) (x1 l1 s1 : Int) (it : Addr) (x2 l2 s2 : Int) (rest : List (Addr × Obj)) : List (Addr × Obj) :=
  (D, lsto vs n) :: (z, zipO .none TI TO) :: (TO, pairO a b) :: (TI, pairO (.ref i1) (.ref it)) :: (i1, rit x1 l1 s1) :: (it, rit x2 l2 s2) :: rest
structure Ord (it i1 TI TO z D : Addr) (rest : List (Addr × Obj)) : Prop where
  a : @LT.lt Nat _ it i1
  b : @LT.lt Nat _ i1 TI
  c : @LT.lt Nat _ TI TO
  d : @LT.lt Nat _ TO z
  e : @LT.lt Nat _ z D
  r : ∀ q ∈ rest, @LT.lt Nat _ q.1 it ∨ @LT.lt Nat _ D q.1
theorem Ord.apart {it i1 TI TO z D : Addr} {rest : List (Addr × Obj)} (o : Ord it i1 TI TO z D rest) : Apart z TI TO i1 it := by
  obtain ⟨a, b, c, d, e, _⟩ := o
  constructor <;> (refine neN ?_; omega)
section
variable {w : World} {A : Around} {s : Shared} {g2 : Heap} {C : Addr} {mC : Str → Option Value}
theorem nlc_turn {env : Env} {pk pe1 pi pe2 pc pt ti te tt pos : Pos} {k1 k2 : Nat} {iter : Expr} {scope : Scope} {cl : List (Str × Addr)} {R : Result → Shared → Prop}
    {D z TI TO i1 it fl c : Addr} {vs : List Value} {n : Nat} {a b : Value} {x1 l1 s1 x2 l2 s2 : Int} {rest : List (Addr × Obj)} {x : Int → UInt64} {t : Int → Tok} {oc : Obj}
    (hh : A.handled = none) (hd : A.depth + 5 < recursionLimit) (hu : A.units + 20 < cLine) (hsz : vs.length < 100)
    (hkd : scope.kind = .function)
    (hki : (compEnvC scope cl C env).kindOf (Str.ofString "i") = some .local) (hke : (compEnvC scope cl C env).kindOf (Str.ofString "elem") = some .local) (hkk : (compEnvC scope cl C env).kindOf (Str.ofString "key") = some .cell)
    (hc : cl.lookup (Str.ofString "key") = some c) (hcell : (c, oc) ∈ rest) (hoc : oc.data = .cell (some (.ref fl))) (hkey : KeyCall w g2 fl x t)
    (O : Ord it i1 TI TO z D rest) (p1 : 0 < l1) (p2 : 0 < l2) (q1 : 0 ≤ x2) (q2 : x2 < 6) {x1' l1' x2' l2' : Int} (e1 : x1 + s1 = x1') (e2 : l1 - 1 = l1') (e3 : x2 + s2 = x2') (e4 : l2 - 1 = l2')
    (F : Fr g2 C s.heap mC) (N : News g2 C s.heap (zled D vs n z TI TO a b i1 x1 l1 s1 it x2 l2 s2 rest))
    (h : ∀ h' tk' mC' T a' b' to te', Fr g2 C h' mC' → News g2 C h' (zled D (vs ++ [.ref T]) (n + 1) z TI TO a' b' i1 x1' l1' s1 it x2' l2' s2 ((T, tup3 (x x2) (t x2) x1 to x2 te') :: rest)) → @LT.lt Nat _ D T →
      codeAny (model PySem.Challenge.rw_op0141_01.row.prog w) A (.compLoop (.ListComp (.Tuple [.Call (.Name (Str.ofString "key") pk) [.Name (Str.ofString "elem") pe1] [] pc, .Name (Str.ofString "i") pi, .Name (Str.ofString "elem") pe2] k1 pt) [⟨.Tuple [.Name (Str.ofString "i") ti, .Name (Str.ofString "elem") te] k2 tt, iter, [], 0⟩] scope pos) 0 (.ref z) (.ref D) (compEnvC scope cl C env)) R { s with heap := h', toks := tk' }) :
    codeAny (model PySem.Challenge.rw_op0141_01.row.prog w) A (.compLoop (.ListComp (.Tuple [.Call (.Name (Str.ofString "key") pk) [.Name (Str.ofString "elem") pe1] [] pc, .Name (Str.ofString "i") pi, .Name (Str.ofString "elem") pe2] k1 pt) [⟨.Tuple [.Name (Str.ofString "i") ti, .Name (Str.ofString "elem") te] k2 tt, iter, [], 0⟩] scope pos) 0 (.ref z) (.ref D) (compEnvC scope cl C env)) R s := by
  subst e1 e2 e3 e4
  have hD := N (D, lsto vs n) (.head _)
  have hz := N (z, zipO .none TI TO) (.tail _ (.head _))
  have hTO := N (TO, pairO a b) (.tail _ (.tail _ (.head _)))
  have hTI := N (TI, pairO (.ref i1) (.ref it)) (.tail _ (.tail _ (.tail _ (.head _))))
  have hi1 := N (i1, rit x1 l1 s1) (.tail _ (.tail _ (.tail _ (.tail _ (.head _)))))
  have hit := N (it, rit x2 l2 s2) (.tail _ (.tail _ (.tail _ (.tail _ (.tail _ (.head _))))))
  obtain ⟨oa, ob, ocd, od, oe, orr⟩ := id O
  refine comp_unroll ?_
  refine pyNext_zipr O.apart hz.1 hTI.1 hTO.1 hi1.1 hit.1 p1 p2 fun h1 z1 t1 j1 j2 T1 hk1 => ?_
  dsimp only
  -- back into the ledger
  have W1 : ∀ c ∈ [z, TO, i1, it], g2.get? c = none ∧ c ≠ C := by
    intro c hc
    simp only [List.mem_cons, List.not_mem_nil, or_false] at hc
    rcases hc with rfl | rfl | rfl | rfl
    · exact ⟨hz.2.2, hz.2.1⟩
    · exact ⟨hTO.2.2, hTO.2.1⟩
    · exact ⟨hi1.2.2, hi1.2.1⟩
    · exact ⟨hit.2.2, hit.2.1⟩
  have k1' : ∀ c o, c ∉ [z, TO, i1, it] → s.heap.get? c = some o → h1.get? c = some o := fun c o hc e => by
    simp only [List.mem_cons, List.not_mem_nil, or_false, not_or] at hc
    exact hk1 c o hc.1 hc.2.1 hc.2.2.1 hc.2.2.2 e
  have F1 := fr_chg F _ W1 k1'
  have rest1 : ∀ p ∈ rest, h1.get? p.1 = some p.2 := fun p hp => k1' _ _ (by
      have := orr p hp
      simp only [List.mem_cons, List.not_mem_nil, or_false, not_or]
      refine ⟨neN ?_, neN ?_, neN ?_, neN ?_⟩ <;> omega) (N p (.tail _ (.tail _ (.tail _ (.tail _ (.tail _ (.tail _ hp))))))).1
  refine wpAny_letOwnedTupleGo_zip z1 fun h2 z2 s2' => ?_
  have F2 : Fr g2 C h2 mC := fr_chg F1 [z] (fun c hc => by simp only [List.mem_singleton] at hc; subst hc; exact ⟨hz.2.2, hz.2.1⟩) (fun c o hc e => s2'.extBut _ _ (by simpa using hc) e)
  have hTne : ∀ q o, s.heap.get? q = some o → q ≠ s.heap.objs.size := fun q o e => Nat.ne_of_lt (Heap.lt_size e)
  have T2 : h2.get? s.heap.objs.size = some (pairO (.int x1 s.toks) (.int x2 (s.toks + 1))) := s2'.extBut _ _ (hTne _ _ hz.1).symm T1
  have ne2 : ∀ q, q ≠ z → ∀ o, h1.get? q = some o → h2.get? q = some o := fun q hq o e => s2'.extBut _ _ hq e
  refine kcp_assign hh (m := mC) ⟨_, T2, rfl, _, rfl⟩ hki hke (by show ((relabel scope env).kind == .class || _) = false; show (scope.kind == .class || (scope.kind == .module && _)) = false; rw [hkd]; rfl) F2.ns fun h3 tk3 n3 k3 => ?_
  have F3 : Fr g2 C h3 (fun y => if y = Str.ofString "elem" then some (.int x2 (s.toks + 1)) else if y = Str.ofString "i" then some (.int x1 s.toks) else mC y) :=
    ⟨n3, fun b o e => k3 _ _ (fun q => by rw [q] at e; have z1 := Heap.lt_size e; have z2 := F2.above; exact absurd (Nat.lt_of_lt_of_le z1 z2) (Nat.lt_irrefl _)) (F2.keep b o e), F2.above⟩
  have N3 : News g2 C h3 (zled D vs n z TI TO (.int x1 s.toks) (.int x2 (s.toks + 1)) i1 (x1 + s1) (l1 - 1) s1 it (x2 + s2) (l2 - 1) s2 rest) := by
    refine news_chg N (fun p hp => ?_) (fun p hp => ?_)
    · simp only [List.mem_cons] at hp
      rcases hp with rfl | rfl | rfl | rfl | rfl | rfl | hp
      · exact k3 _ _ hD.2.1 (ne2 _ (neN (by omega)) _ (hk1 _ _ (neN (by omega)) (neN (by omega)) (neN (by omega)) (neN (by omega)) hD.1))
      · exact k3 _ _ hz.2.1 z2
      · exact k3 _ _ hTO.2.1 (ne2 _ (neN (by omega)) _ t1)
      · exact k3 _ _ hTI.2.1 (ne2 _ (neN (by omega)) _ (hk1 _ _ (neN (by omega)) (neN (by omega)) (neN (by omega)) (neN (by omega)) hTI.1))
      · exact k3 _ _ hi1.2.1 (ne2 _ (neN (by omega)) _ j1)
      · exact k3 _ _ hit.2.1 (ne2 _ (neN (by omega)) _ j2)
      · have z := N p (.tail _ (.tail _ (.tail _ (.tail _ (.tail _ (.tail _ hp))))))
        have := orr p hp
        exact k3 _ _ z.2.1 (ne2 _ (neN (by omega)) _ (rest1 p hp))
    · simp only [List.mem_cons] at hp
      rcases hp with rfl | rfl | rfl | rfl | rfl | rfl | hp
      · exact ⟨_, .head _⟩
      · exact ⟨_, .tail _ (.head _)⟩
      · exact ⟨_, .tail _ (.tail _ (.head _))⟩
      · exact ⟨_, .tail _ (.tail _ (.tail _ (.head _)))⟩
      · exact ⟨_, .tail _ (.tail _ (.tail _ (.tail _ (.head _))))⟩
      · exact ⟨_, .tail _ (.tail _ (.tail _ (.tail _ (.tail _ (.head _)))))⟩
      · exact ⟨_, .tail _ (.tail _ (.tail _ (.tail _ (.tail _ (.tail _ hp)))))⟩
  dsimp only
  clear hz hTO hTI hi1 hit z1 t1 j1 j2 T1 hk1 W1 k1' F1 rest1 z2 s2' F2 hTne T2 ne2 n3 k3
  have hks : (compEnvC scope cl C env).scope.kind = .function := hkd
  -- the element
  refine Tuple_ ?_
  refine spliced_more ?_
  refine Call_Name1 ?_
  refine wpAny_Name (wpAny_loadName_cell hks hkk hc ⟨oc, N3.get (.tail _ (.tail _ (.tail _ (.tail _ (.tail _ (.tail _ hcell)))))), hoc⟩ ?_)
  obtain ⟨ofn, fd, hfn, hfd⟩ := hkey.fn
  refine callWith_function (o := ofn) (fd := fd) (evalArgs_plain (spliced_cons ?_))
  refine wpAny_Name (wpAny_loadName_local (v := .int x2 (s.toks + 1)) hks hke F3.ns (if_pos rfl) ?_)
  refine spliced_nil ⟨⟨F3.keep _ _ hfn, hfd⟩, ?_⟩
  refine hkey.call _ _ x2 _ _ _ F3.keep (by omega) (by omega) q1 q2 fun h4 tk4 k4 => ?_
  obtain ⟨F4, N4⟩ := led_keeps F3 N3 k4
  refine spliced_more ?_
  refine wpAny_Name (wpAny_loadName_local (v := .int x1 s.toks) hks hki F4.ns (by rw [if_neg (by decide), if_pos rfl]) ?_)
  refine spliced_more ?_
  refine wpAny_Name (wpAny_loadName_local (v := .int x2 (s.toks + 1)) hks hke F4.ns (if_pos rfl) ?_)
  refine spliced_none ?_
  refine newTuple_N F4 N4 fun h5 F5 N5 => ?_
  have hT5 : @LT.lt Nat _ D h4.objs.size := Heap.lt_size (N4.get (.head _))
  refine append_at (N5.get (.tail _ (.head _))) (fun h6 s6 d6 => ?_) (by show vs.toArray.size ≤ sizeLine; rw [List.size_toArray, sizeLine_eq]; omega)
  have n5 := N5 (D, lsto vs n) (.tail _ (.head _))
  have k6 : ∀ c o, c ∉ [D] → h5.get? c = some o → h6.get? c = some o := fun c o hc e => s6.extBut _ _ (by simpa using hc) e
  have F6 := fr_chg F5 [D] (fun c hc => by simp only [List.mem_singleton] at hc; subst hc; exact ⟨n5.2.2, n5.2.1⟩) k6
  refine h h6 tk4 _ h4.objs.size (.int x1 s.toks) (.int x2 (s.toks + 1)) s.toks (s.toks + 1) F6 ?_ hT5
  refine news_chg N5 (fun p hp => ?_) (fun p hp => ?_)
  · simp only [List.mem_cons] at hp
    rcases hp with rfl | rfl | rfl | rfl | rfl | rfl | rfl | hp
    · rw [d6]; simp [lsto]
    · exact k6 _ _ (by simp only [List.mem_singleton]; exact neN (by omega)) (N5.get (.tail _ (.tail _ (.head _))))
    · exact k6 _ _ (by simp only [List.mem_singleton]; exact neN (by omega)) (N5.get (.tail _ (.tail _ (.tail _ (.head _)))))
    · exact k6 _ _ (by simp only [List.mem_singleton]; exact neN (by omega)) (N5.get (.tail _ (.tail _ (.tail _ (.tail _ (.head _))))))
    · exact k6 _ _ (by simp only [List.mem_singleton]; exact neN (by omega)) (N5.get (.tail _ (.tail _ (.tail _ (.tail _ (.tail _ (.head _)))))))
    · exact k6 _ _ (by simp only [List.mem_singleton]; exact neN (by omega)) (N5.get (.tail _ (.tail _ (.tail _ (.tail _ (.tail _ (.tail _ (.head _))))))))
    · exact k6 _ _ (by simp only [List.mem_singleton]; exact neN (by omega)) (N5.get (.head _))
    · have := orr p hp
      exact k6 _ _ (by simp only [List.mem_singleton]; exact neN (by omega)) (N5.get (.tail _ (.tail _ (.tail _ (.tail _ (.tail _ (.tail _ (.tail _ hp))))))))
  · simp only [List.mem_cons] at hp
    rcases hp with rfl | rfl | rfl | rfl | rfl | rfl | rfl | hp
    · exact ⟨_, .tail _ (.head _)⟩
    · exact ⟨_, .tail _ (.tail _ (.head _))⟩
    · exact ⟨_, .tail _ (.tail _ (.tail _ (.head _)))⟩
    · exact ⟨_, .tail _ (.tail _ (.tail _ (.tail _ (.head _))))⟩
    · exact ⟨_, .tail _ (.tail _ (.tail _ (.tail _ (.tail _ (.head _)))))⟩
    · exact ⟨_, .tail _ (.tail _ (.tail _ (.tail _ (.tail _ (.tail _ (.head _))))))⟩
    · exact ⟨_, .head _⟩
    · exact ⟨_, .tail _ (.tail _ (.tail _ (.tail _ (.tail _ (.tail _ (.tail _ hp))))))⟩
end
end Mine
end

section
open PySem PySem.W PySem.Spec PySem.Calls PyProof.Rows
set_option maxRecDepth 100000
namespace Mine
section
variable {w : World} {A : Around} {s : Shared} {g2 : Heap} {C : Addr} {mC : Str → Option Value}
theorem nlc_end {elt target iter : Expr} {scope : Scope} {pos : Pos} {env : Env} {R : Result → Shared → Prop}
    {D z TI TO i1 it : Addr} {vs : List Value} {n : Nat} {a b : Value} {x1 l1 s1 x2 l2 s2 : Int} {rest : List (Addr × Obj)}
    (hh : A.handled = none) (O : Ord it i1 TI TO z D rest) (p1 : l1 ≤ 0)
    (F : Fr g2 C s.heap mC) (N : News g2 C s.heap (zled D vs n z TI TO a b i1 x1 l1 s1 it x2 l2 s2 rest))
    (h : ∀ h', Fr g2 C h' mC → News g2 C h' ((D, lsto vs n) :: (it, rit x2 l2 s2) :: rest) → R (.ok .next) { s with heap := h' }) :
    codeAny (model PySem.Challenge.rw_op0141_01.row.prog w) A (.compLoop (.ListComp elt [⟨target, iter, [], 0⟩] scope pos) 0 (.ref z) (.ref D) env) R s := by
  have hz := N (z, zipO .none TI TO) (.tail _ (.head _))
  have hTO := N (TO, pairO a b) (.tail _ (.tail _ (.head _)))
  have hTI := N (TI, pairO (.ref i1) (.ref it)) (.tail _ (.tail _ (.tail _ (.head _))))
  have hi1 := N (i1, rit x1 l1 s1) (.tail _ (.tail _ (.tail _ (.tail _ (.head _)))))
  obtain ⟨oa, ob, ocd, od, oe, orr⟩ := id O
  refine comp_unroll ?_
  refine pyNext_zipr_end hh O.apart hz.1 hTI.1 hTO.1 hi1.1 p1 fun h1 hk1 => ?_
  dsimp only
  have W1 : ∀ c ∈ [z, i1], g2.get? c = none ∧ c ≠ C := by
    intro c hc
    simp only [List.mem_cons, List.not_mem_nil, or_false] at hc
    rcases hc with rfl | rfl
    · exact ⟨hz.2.2, hz.2.1⟩
    · exact ⟨hi1.2.2, hi1.2.1⟩
  have k1' : ∀ c o, c ∉ [z, i1] → s.heap.get? c = some o → h1.get? c = some o := fun c o hc e => by
    simp only [List.mem_cons, List.not_mem_nil, or_false, not_or] at hc
    exact hk1 c o hc.1 hc.2 e
  refine h h1 (fr_chg F _ W1 k1') (news_chg N (fun p hp => ?_) (fun p hp => ?_))
  · simp only [List.mem_cons] at hp
    rcases hp with rfl | rfl | hp
    · exact hk1 _ _ (neN (by omega)) (neN (by omega)) (N.get (.head _))
    · exact hk1 _ _ (neN (by omega)) (neN (by omega)) (N.get (.tail _ (.tail _ (.tail _ (.tail _ (.tail _ (.head _)))))))
    · have := orr p hp
      exact hk1 _ _ (neN (by omega)) (neN (by omega)) (N.get (.tail _ (.tail _ (.tail _ (.tail _ (.tail _ (.tail _ hp)))))))
  · simp only [List.mem_cons] at hp
    rcases hp with rfl | rfl | hp
    · exact ⟨_, .head _⟩
    · exact ⟨_, .tail _ (.tail _ (.tail _ (.tail _ (.tail _ (.head _)))))⟩
    · exact ⟨_, .tail _ (.tail _ (.tail _ (.tail _ (.tail _ (.tail _ hp)))))⟩
end
section
variable {prog : Program} {w : World} {A : Around} {E : Value → Shared → Prop} {s : Shared} {env : Env} {g : Heap} {L : Addr} {m : Str → Option Value} {news : List (Addr × Obj)}
theorem zip_K {r it : Addr} {a b c x left step n : Int} {t u v : Tok} {Q : Value → Shared → Prop} (F : Fr g L s.heap m) (N : News g L s.heap news) (hr : IsRange s.heap r a b c t u v) (hsm : Builtin.Range.small a b c = true) (hn : Builtin.Range.rangeSize a b c = n)
    (hm : (it, rit x left step) ∈ news)
    (h : ∀ h' z TI TO i1, Fr g L h' m → News g L h' ((z, zipO .none TI TO) :: (TO, pairO .none .none) :: (TI, pairO (.ref i1) (.ref it)) :: (i1, rit a n c) :: news) → (∀ q ∈ news, @LT.lt Nat _ q.1 i1) → @LT.lt Nat _ i1 TI → @LT.lt Nat _ TI TO → @LT.lt Nat _ TO z → Q (.ref z) { s with heap := h' }) :
    wpAny (model prog w) A (call (.type "zip") [.ref r, .ref it]) Q E s := by
  refine call_zipr hr hsm hn (N.get hm) fun h' z TI TO i1 h1 h2 h3 h4 l0 l1 l2 l3 hk => ?_
  obtain ⟨F', N'⟩ := led_keeps F N hk
  have fresh : ∀ q, s.heap.objs.size ≤ q → g.get? q = none ∧ q ≠ L := fun q hq => by
    refine ⟨?_, fun e => ?_⟩
    · cases e : g.get? q with
      | none => rfl
      | some o => exact absurd (Heap.lt_size (F.keep _ _ e)) (Nat.not_lt.mpr hq)
    · have := F.ns.lt; rw [e] at hq; exact absurd this (Nat.not_lt.mpr hq)
  have l1' := ltN l1; have l2' := ltN l2; have l3' := ltN l3
  refine h h' z TI TO i1 F' (fun p hp => ?_) (fun q hq => Nat.lt_of_lt_of_le (Heap.lt_size (N.get hq)) l0) l1 l2 l3
  simp only [List.mem_cons] at hp
  rcases hp with rfl | rfl | rfl | rfl | hp
  · have := fresh z (by omega); exact ⟨h1, this.2, this.1⟩
  · have := fresh TO (by omega); exact ⟨h3, this.2, this.1⟩
  · have := fresh TI (by omega); exact ⟨h2, this.2, this.1⟩
  · have := fresh i1 l0; exact ⟨h4, this.2, this.1⟩
  · exact N' p hp
theorem iter_zip_K {z TI TO : Addr} {f0 : Value} {Q : Value → Shared → Prop} (N : News g L s.heap news) (hm : (z, zipO f0 TI TO) ∈ news) (h : Q (.ref z) s) : wpAny (model prog w) A (pyIter (.ref z)) Q E s :=
  wpAny_pyIter_zip (N.get hm) h
/-- a list comprehension, its frame outside named -/
theorem comp_enterF {elt target iter : Expr} {ifs : List Expr} {scope : Scope} {cl : List (Str × Addr)} {pos : Pos} {Q : Value → Shared → Prop} (F₀ : Fr g L s.heap m)
    (hclos : closureFor scope env = pure cl) (hcell : ∀ y ∈ scope.names, y.2 ≠ .cell) (hkind : scope.kind = .function)
    (hnames : ∀ y ∈ scope.names, y.2 = .local → scope.names.lookup y.1 = some .local) (hs : ∀ x, foldedSetIterable iter env x = pure x)
    (h : wpAny (model prog w) A (eval iter env) (fun xv s₁ => wpAny (model prog w) A (pyIter xv) (fun itv s₂ => ∃ news, Fr g L s₂.heap m ∧ News g L s₂.heap news ∧
      ∀ g2 C D h₁ tk, Keeps g g2 → (∀ b o, s₂.heap.get? b = some o → (∀ q ∈ news, b ≠ q.1) → g2.get? b = some o) → Fr g2 C h₁ (fun _ => none) → News g2 C h₁ ((D, lsto [] 0) :: news) → (∀ q ∈ news, q.1 < D) →
        (∀ Q' : Value → Shared → Prop, Q' itv { s₂ with heap := h₁, toks := tk } → wpAny (model prog w) A (pyIter itv) Q' (fun _ _ => False) { s₂ with heap := h₁, toks := tk }) ∧
        codeAny (model prog w) A (.compLoop (.ListComp elt [⟨target, iter, ifs, 0⟩] scope pos) 0 itv (.ref D) (compEnvC scope cl C env)) (CEnd g L m g2 C D Q) { s₂ with heap := h₁, toks := tk }) E s₁) E s) :
    wpAny (model prog w) A (eval (.ListComp elt [⟨target, iter, ifs, 0⟩] scope pos) env) Q E s := comp_enter hclos hcell hkind hnames hs h
end
end Mine
end

section
open PySem PySem.W PySem.Spec PySem.Calls PyProof.Rows
set_option maxRecDepth 100000
namespace Mine
/-- the end of a list comprehension that is bound to a name of the frame's -/
def CEndA (g : Heap) (L : Addr) (m : Str → Option Value) (g2 : Heap) (C D : Addr) (y : Str) (Q : Flow → Shared → Prop) (r : Result) (s' : Shared) : Prop :=
  r = .ok .next ∧ ∃ mC o news', Fr g2 C s'.heap mC ∧ News g2 C s'.heap ((D, o) :: news') ∧ ∀ h' tk', Fr g L h' (fun z => if z = y then some (.ref D) else m z) → News g L h' ((D, o) :: news') → Q .next { s' with heap := h', toks := tk' }
section
variable {prog : Program} {w : World} {A : Around} {E : Value → Shared → Prop} {s : Shared} {env : Env} {g : Heap} {L : Addr} {m : Str → Option Value}
theorem comp_assign {elt target iter : Expr} {ifs : List Expr} {scope : Scope} {cl : List (Str × Addr)} {pos spos py : Pos} {y : Str} {Q : Flow → Shared → Prop} (F₀ : Fr g L s.heap m) (hLe : env.locals = L)
    (hsw : swapsWith (.ListComp elt [⟨target, iter, ifs, 0⟩] scope pos) (some (.Name y py)) spos.line env = pure true)
    (hy : env.kindOf y = some .local) (hp : (env.scope.kind == .class || (env.scope.kind == .module && env.locals != env.globals)) = false)
    (hclos : closureFor scope env = pure cl) (hcell : ∀ y ∈ scope.names, y.2 ≠ .cell) (hkind : scope.kind = .function)
    (hnames : ∀ y ∈ scope.names, y.2 = .local → scope.names.lookup y.1 = some .local) (hs : ∀ x, foldedSetIterable iter env x = pure x)
    (h : wpAny (model prog w) A (eval iter env) (fun xv s₁ => wpAny (model prog w) A (pyIter xv) (fun itv s₂ => ∃ news, Fr g L s₂.heap m ∧ News g L s₂.heap news ∧
      ∀ g2 C D h₁ tk, Keeps g g2 → (∀ b o, s₂.heap.get? b = some o → (∀ q ∈ news, b ≠ q.1) → g2.get? b = some o) → Fr g2 C h₁ (fun _ => none) → News g2 C h₁ ((D, lsto [] 0) :: news) → (∀ q ∈ news, q.1 < D) →
        (∀ Q' : Value → Shared → Prop, Q' itv { s₂ with heap := h₁, toks := tk } → wpAny (model prog w) A (pyIter itv) Q' (fun _ _ => False) { s₂ with heap := h₁, toks := tk }) ∧
        codeAny (model prog w) A (.compLoop (.ListComp elt [⟨target, iter, ifs, 0⟩] scope pos) 0 itv (.ref D) (compEnvC scope cl C env)) (CEndA g L m g2 C D y Q) { s₂ with heap := h₁, toks := tk }) E s₁) E s) :
    wpAny (model prog w) A (exec (.Assign [.Name y py] (.ListComp elt [⟨target, iter, ifs, 0⟩] scope pos) spos) env) Q E s := by
  subst hLe
  rw [exec_Assign_Name_used _ _ _ _ hsw]
  refine wpAny_bind (wpAny_standAt (wpAny_bind ?_))
  show wpAny _ A (do let _ ← comprehension (.ListComp elt [⟨target, iter, ifs, 0⟩] scope pos) scope env _ (newList []) false (eval iter env) (some (assign (.Name y py) env))) _ _ s
  refine wpAny_bind (wpAny_mono (wpAny_comprehension_free (use := some (assign (.Name y py) env)) (Q := fun _ s' => Q .next s') rfl hs hclos hkind hnames
    (wpAny_mono h (fun xv s₁ h₁ => wpAny_mono h₁ (fun itv s₂ h₂ => ?_) fun _ _ e => e) fun _ _ e => e)) (fun _ s' hq => wpAny_pure (wpAny_pure hq)) fun _ _ e => e)
  obtain ⟨news, F, N, R⟩ := h₂
  refine wpAny_newObj_type (wpAny_newFunctionEnv hcell (by intro y hy; simp at hy) (fun h₁ hns₁ hsb₁ => ?_) hkind)
  dsimp only at hns₁ hsb₁ ⊢
  generalize hH2 : s₂.heap.push { cls := .type "list", dict := none, data := .seq ([] : List Value).toArray } = H2 at hns₁ hsb₁ ⊢
  have hC : H2.objs.size = s₂.heap.objs.size + 1 := by rw [← hH2, Heap.size_push]
  have up : ∀ b o, s₂.heap.get? b = some o → H2.get? b = some o := fun b o e => by rw [← hH2]; exact Heap.get?_push_of_some _ e
  have up1 : ∀ b o, H2.get? b = some o → h₁.get? b = some o := fun b o e => hsb₁.extBut b o (Nat.ne_of_lt (Heap.lt_size e)) (Heap.get?_push_of_some _ e)
  have hD : H2.get? s₂.heap.objs.size = some (lsto [] 0) := by rw [← hH2]; exact Heap.get?_push_size _ rfl
  -- the ground of the block: all but the ledger and the new list
  let hidden : List Addr := s₂.heap.objs.size :: news.map (·.1)
  let g2 := hideAll H2 hidden
  have gk : Keeps g g2 := fun b o e => hideAll_get _ (up _ _ (F.keep b o e)) (fun q => by
    rcases List.mem_cons.mp q with q | q
    · have := Heap.lt_size (F.keep b o e); rw [q] at this; exact Nat.lt_irrefl _ this
    · obtain ⟨p, hp, rfl⟩ := List.mem_map.mp q; rw [(N p hp).2.2] at e; cases e)
  have gs : ∀ b o, s₂.heap.get? b = some o → (∀ q ∈ news, b ≠ q.1) → g2.get? b = some o := fun b o e n => hideAll_get _ (up _ _ e) (fun q => by
    rcases List.mem_cons.mp q with q | q
    · have := Heap.lt_size e; rw [q] at this; exact Nat.lt_irrefl _ this
    · obtain ⟨p, hp, rfl⟩ := List.mem_map.mp q; exact n p hp rfl)
  have F2 : Fr g2 H2.objs.size h₁ (fun _ => none) := ⟨by simpa using hns₁, fun b o e => up1 _ _ (of_hideAll _ e), Nat.le_of_eq (hideAll_size _ _)⟩
  have N2 : News g2 H2.objs.size h₁ ((s₂.heap.objs.size, lsto [] 0) :: news) := fun p hp => by
    rcases List.mem_cons.mp hp with rfl | hp
    · exact ⟨up1 _ _ hD, by show s₂.heap.objs.size ≠ H2.objs.size; omega, hideAll_none _ (.head _)⟩
    · have z := (N p hp).1
      exact ⟨up1 _ _ (up _ _ z), Nat.ne_of_lt (by rw [hC]; exact Nat.lt_succ_of_lt (Heap.lt_size z)), hideAll_none _ (.tail _ (List.mem_map_of_mem hp))⟩
  obtain ⟨hpi, hco⟩ := R g2 H2.objs.size s₂.heap.objs.size h₁ (s₂.toks + ([] : List (Str × Value)).length) gk gs F2 N2 (fun q hq => Heap.lt_size (N q hq).1)
  have key : codeAny (model prog w) A (.compLoop (.ListComp elt [⟨target, iter, ifs, 0⟩] scope pos) 0 itv (.ref s₂.heap.objs.size) (compEnvC scope cl H2.objs.size env)) (compPost (model prog w) A E (some (assign (.Name y py) env)) (fun _ s' => Q .next s') (.ref s₂.heap.objs.size) H2.objs.size) { s₂ with heap := h₁, toks := s₂.toks + ([] : List (Str × Value)).length } := by
    refine codeAny_mono hco fun r s' hr => ?_
    obtain ⟨rfl, mC, o, news', F', N', k⟩ := hr
    obtain ⟨oL, es, ep, hL, r⟩ := F.ns
    have hLg : g2.get? env.locals = some oL := gs env.locals oL hL (fun q hq e => (N q hq).2.1 e.symm)
    have ne : ∀ b o, g2.get? b = some o → b ≠ H2.objs.size := fun b o e => Nat.ne_of_lt (Nat.lt_of_lt_of_le (Heap.lt_size e) (Nat.le_of_eq (hideAll_size _ _)))
    have neN' : ∀ p ∈ (s₂.heap.objs.size, o) :: news', p.1 ≠ env.locals := fun p hp e => by
      have z3 := (N' p hp).2.2
      rw [e, hLg] at z3; cases z3
    have Fo : Fr g env.locals s'.heap m := ⟨⟨oL, es, ep, F'.keep _ _ hLg, r⟩, fun b o e => F'.keep _ _ (gk _ _ e), F.above⟩
    show wpAny _ A (assign (.Name y py) env (.ref s₂.heap.objs.size)) _ _ s'
    refine wpAny_assign_Name (wpAny_storeName_local hy Fo.ns (fun h3 hn3 hs3 => ?_) hp)
    refine ⟨mC, F'.ns.sameBut hs3 (ne _ _ hLg).symm, fun h' hsb => k h' _ ?_ ?_⟩
    · have F3 := Fo.set hn3 hs3
      obtain ⟨o3, es3, ep3, hL3, r3⟩ := F3.ns
      refine ⟨⟨o3, es3, ep3, (hsb.2 _ (ne _ _ hLg)).trans hL3, r3⟩, fun b o e => (hsb.2 _ (ne _ _ (gk _ _ e))).trans (F3.keep _ _ e), F.above⟩
    · intro p hp
      obtain ⟨z1, z2, z3⟩ := N' p hp
      refine ⟨(hsb.2 _ z2).trans ((hs3.2 _ (neN' p hp)).trans z1), neN' p hp, ?_⟩
      cases q : g.get? p.1 with
      | none => rfl
      | some o' => rw [gk _ _ q] at z3; cases z3
  exact codeAny_compStart_list key (wpAny_mono (hpi _ key) (fun _ _ x => x) fun _ _ x => x.elim)
end
/-- here the walk stops -/
def Hold (P : Prop) : Prop := P
theorem Hold.out {P : Prop} (h : Hold P) : P := h
theorem Hold.intro {P : Prop} (h : P) : Hold P := h
end Mine
end

section
open PySem PySem.W PySem.Spec PySem.Calls PyProof.Rows
set_option maxRecDepth 100000
namespace Mine
theorem Ky.lt_iff {a b : Ky} : a.lt b = true ↔ a.v < b.v ∨ a.v = b.v ∧ a.o < b.o := by simp [Ky.lt]
theorem Ky.lt_asymm {a b : Ky} (h : a.lt b = true) : b.lt a = false := by
  rw [Ky.lt_iff] at h
  cases q : b.lt a with
  | false => rfl
  | true => rw [Ky.lt_iff] at q; omega
theorem Ky.lt_trans {a b c : Ky} (h : a.lt b = true) (k : b.lt c = true) : a.lt c = true := by rw [Ky.lt_iff] at *; omega
theorem Ky.lt_of_not {a b : Ky} (d : Dis a b) (h : a.lt b = false) : b.lt a = true := by
  have o := d.o
  have q : ¬ (a.v < b.v ∨ a.v = b.v ∧ a.o < b.o) := by rw [← Ky.lt_iff]; simp [h]
  rw [Ky.lt_iff]; omega
theorem Ky.lt_total (a b : Ky) (d : Dis a b) : a.lt b = true ∨ b.lt a = true := by
  cases q : a.lt b with
  | true => exact .inl rfl
  | false => exact .inr (Ky.lt_of_not d q)
theorem perm_rev3 {α : Type} (a b c : α) : [c, b, a].Perm [a, b, c] := by
  have h : [a, b, c].reverse = [c, b, a] := rfl
  rw [← h]; exact List.reverse_perm _
/-- the object of a tuple that holds k -/
structure KO (o : Obj) (k : Ky) : Prop where
  ob : ∃ to te n, o = { cls := .type "tuple", data := .seq #[.float k.x k.t, .int k.o to, .int k.e te] n }
  isI : IsI k.x k.v
  tok : k.t ≠ 0
theorem KO.tk {o : Obj} {k : Ky} {g h : Heap} {L a : Addr} {news : List (Addr × Obj)} (q : KO o k) (N : News g L h news) (hm : (a, o) ∈ news) : TK h a k := by
  obtain ⟨⟨to, te, n, e⟩, i, t⟩ := q
  exact ⟨⟨to, te, n, e ▸ N.get hm⟩, i, t⟩
/-- a cell of the heap: its address, its object, what it holds -/
abbrev Cel := Addr × Obj × Ky
abbrev Cel.c (p : Cel) : Addr × Obj := (p.1, p.2.1)
theorem news_put {g h h' : Heap} {L hp : Addr} {m : Str → Option Value} {o o' : Obj} {cs cs' rest : List (Addr × Obj)} (F : Fr g L h m) (N : News g L h ((hp, o) :: (cs ++ rest))) (hb : But hp h h') (hq : h'.get? hp = some o')
    (hne : ∀ q ∈ cs ++ rest, q.1 ≠ hp) (hs : ∀ q ∈ cs', q ∈ cs) : Fr g L h' m ∧ News g L h' ((hp, o') :: (cs' ++ rest)) := by
  obtain ⟨F', N'⟩ := led_set (pre := []) F N hb hq (fun q hq => by cases hq) hne
  refine ⟨F', fun p hp' => ?_⟩
  rcases List.mem_cons.mp hp' with rfl | hp'
  · exact N' _ (.head _)
  · rcases List.mem_append.mp hp' with z | z
    · exact N' _ (.tail _ (List.mem_append_left _ (hs _ z)))
    · exact N' _ (.tail _ (List.mem_append_right _ z))
section
variable {w : World} {A : Around} {E : Value → Shared → Prop} {s : Shared} {g : Heap} {L hp : Addr} {m : Str → Option Value} {p : Program} {loose : List Str} {mean : ExcName → Option Value} {mg mb : Str → Option Value} {rest : List (Addr × Obj)} {nn : Nat}
theorem heapify2_K {c0 c1 : Cel} {Q : Value → Shared → Prop} (X : (Mine.hd.heap_39 w.params).In g) (T : Top p loose mean mg mb g) (hS : NoShare g) (hroom : A.depth + 18 < recursionLimit) (hun : A.units + 80 < cLine) (hh : A.handled = none) 
    (F : Fr g L s.heap m) (N : News g L s.heap ((hp, listOf #[.ref c0.1, .ref c1.1] nn) :: ([c0.c, c1.c] ++ rest))) (hne : ∀ q ∈ [c0.c, c1.c] ++ rest, q.1 ≠ hp) (K_c0 : KO c0.2.1 c0.2.2) (K_c1 : KO c1.2.1 c1.2.2) (D_c0_c1 : Dis c0.2.2 c1.2.2)
    (h : ∀ h' tk' d0 d1, [d0, d1].Perm [c0, c1] → d1.2.2.lt d0.2.2 = false → Fr g L h' m → News g L h' ((hp, listOf #[.ref d0.1, .ref d1.1] nn) :: ([d0.c, d1.c] ++ rest)) → Q .none { s with heap := h', toks := tk' }) :
    wpAny (model PySem.Challenge.rw_op0141_01.row.prog w) A (call (.ref 56) [.ref hp]) Q E s := by
  have hm : ∀ c ∈ [c0.c, c1.c], c ∈ (hp, listOf #[.ref c0.1, .ref c1.1] nn) :: ([c0.c, c1.c] ++ rest) := fun c hc => .tail _ (List.mem_append_left _ hc)
  refine wpAny_call (heapify2 (k0 := c0.2.2) (k1 := c1.2.2) X T hS F.keep hroom hun hh (N.get (.head _)) (N.fresh (.head _)) (K_c0.tk N (hm _ (by simp))) (K_c1.tk N (hm _ (by simp))) D_c0_c1 ?_)
  intro h' tk' hb hq
  have back : ∀ d0 d1 : Cel, [d0, d1].Perm [c0, c1] → d1.2.2.lt d0.2.2 = false → h'.get? hp = some (listOf #[.ref d0.1, .ref d1.1] nn) → Q .none { s with heap := h', toks := tk' } := by
    intro d0 d1 hperm e1 hq'
    obtain ⟨F', N'⟩ := news_put (cs' := [d0.c, d1.c]) F N hb hq' hne (fun q hq => by
      have hq2 : q ∈ ([d0, d1] : List Cel).map Cel.c := hq
      obtain ⟨c, hc, rfl⟩ := List.mem_map.mp hq2
      have := hperm.mem_iff.mp hc
      simp only [List.mem_cons, List.not_mem_nil, or_false] at this ⊢
      rcases this with rfl | rfl <;> simp)
    exact h h' tk' d0 d1 hperm e1 F' N'

  have tot := Ky.lt_total c0.2.2 c1.2.2 D_c0_c1
  by_cases q1 : c0.2.2.lt c1.2.2 = true
  · rw [if_pos q1] at hq
    exact back c0 c1 (List.Perm.refl _) (by first | exact Ky.lt_asymm q1) hq
  · have q1' : c0.2.2.lt c1.2.2 = false := by simpa using q1
    rw [if_neg q1] at hq
    exact back c1 c0 (List.Perm.swap ..) q1' hq
theorem heapify3_K {c0 c1 c2 : Cel} {Q : Value → Shared → Prop} (X : (Mine.hd.heap_39 w.params).In g) (T : Top p loose mean mg mb g) (hS : NoShare g) (hroom : A.depth + 18 < recursionLimit) (hun : A.units + 80 < cLine) (hh : A.handled = none) 
    (F : Fr g L s.heap m) (N : News g L s.heap ((hp, listOf #[.ref c0.1, .ref c1.1, .ref c2.1] nn) :: ([c0.c, c1.c, c2.c] ++ rest))) (hne : ∀ q ∈ [c0.c, c1.c, c2.c] ++ rest, q.1 ≠ hp) (K_c0 : KO c0.2.1 c0.2.2) (K_c1 : KO c1.2.1 c1.2.2) (K_c2 : KO c2.2.1 c2.2.2) (D_c0_c1 : Dis c0.2.2 c1.2.2) (D_c0_c2 : Dis c0.2.2 c2.2.2) (D_c1_c2 : Dis c1.2.2 c2.2.2)
    (h : ∀ h' tk' d0 d1 d2, [d0, d1, d2].Perm [c0, c1, c2] → d1.2.2.lt d0.2.2 = false → d2.2.2.lt d0.2.2 = false → Fr g L h' m → News g L h' ((hp, listOf #[.ref d0.1, .ref d1.1, .ref d2.1] nn) :: ([d0.c, d1.c, d2.c] ++ rest)) → Q .none { s with heap := h', toks := tk' }) :
    wpAny (model PySem.Challenge.rw_op0141_01.row.prog w) A (call (.ref 56) [.ref hp]) Q E s := by
  have hm : ∀ c ∈ [c0.c, c1.c, c2.c], c ∈ (hp, listOf #[.ref c0.1, .ref c1.1, .ref c2.1] nn) :: ([c0.c, c1.c, c2.c] ++ rest) := fun c hc => .tail _ (List.mem_append_left _ hc)
  refine wpAny_call (heapify3 (k0 := c0.2.2) (k1 := c1.2.2) (k2 := c2.2.2) X T hS F.keep hroom hun hh (N.get (.head _)) (N.fresh (.head _)) (K_c0.tk N (hm _ (by simp))) (K_c1.tk N (hm _ (by simp))) (K_c2.tk N (hm _ (by simp))) D_c0_c1 D_c0_c2 D_c1_c2 ?_)
  intro h' tk' hb hq
  have back : ∀ d0 d1 d2 : Cel, [d0, d1, d2].Perm [c0, c1, c2] → d1.2.2.lt d0.2.2 = false → d2.2.2.lt d0.2.2 = false → h'.get? hp = some (listOf #[.ref d0.1, .ref d1.1, .ref d2.1] nn) → Q .none { s with heap := h', toks := tk' } := by
    intro d0 d1 d2 hperm e1 e2 hq'
    obtain ⟨F', N'⟩ := news_put (cs' := [d0.c, d1.c, d2.c]) F N hb hq' hne (fun q hq => by
      have hq2 : q ∈ ([d0, d1, d2] : List Cel).map Cel.c := hq
      obtain ⟨c, hc, rfl⟩ := List.mem_map.mp hq2
      have := hperm.mem_iff.mp hc
      simp only [List.mem_cons, List.not_mem_nil, or_false] at this ⊢
      rcases this with rfl | rfl | rfl <;> simp)
    exact h h' tk' d0 d1 d2 hperm e1 e2 F' N'

  by_cases q12 : c1.2.2.lt c2.2.2 = true
  · rw [if_pos q12] at hq
    by_cases q1 : c0.2.2.lt c1.2.2 = true
    · rw [if_pos q1] at hq
      exact back c0 c1 c2 (List.Perm.refl _) (Ky.lt_asymm q1) (Ky.lt_asymm (Ky.lt_trans q1 q12)) hq
    · rw [if_neg q1] at hq
      exact back c1 c0 c2 (List.Perm.swap ..) (by simpa using q1) (Ky.lt_asymm q12) hq
  · rw [if_neg q12] at hq
    have q12' : c1.2.2.lt c2.2.2 = false := by simpa using q12
    have r12 : c2.2.2.lt c1.2.2 = true := Ky.lt_of_not D_c1_c2 q12'
    by_cases q2 : c0.2.2.lt c2.2.2 = true
    · rw [if_pos q2] at hq
      exact back c0 c1 c2 (List.Perm.refl _) (Ky.lt_asymm (Ky.lt_trans q2 r12)) (Ky.lt_asymm q2) hq
    · rw [if_neg q2] at hq
      exact back c2 c1 c0 (perm_rev3 ..) (Ky.lt_asymm r12) (by simpa using q2) hq
theorem heapify_max2_K {c0 c1 : Cel} {Q : Value → Shared → Prop} (X : (Mine.hd.heap_39 w.params).In g) (T : Top p loose mean mg mb g) (hS : NoShare g) (hroom : A.depth + 18 < recursionLimit) (hun : A.units + 80 < cLine) (hh : A.handled = none) 
    (F : Fr g L s.heap m) (N : News g L s.heap ((hp, listOf #[.ref c0.1, .ref c1.1] nn) :: ([c0.c, c1.c] ++ rest))) (hne : ∀ q ∈ [c0.c, c1.c] ++ rest, q.1 ≠ hp) (K_c0 : KO c0.2.1 c0.2.2) (K_c1 : KO c1.2.1 c1.2.2) (D_c0_c1 : Dis c0.2.2 c1.2.2)
    (h : ∀ h' tk' d0 d1, [d0, d1].Perm [c0, c1] → d0.2.2.lt d1.2.2 = false → Fr g L h' m → News g L h' ((hp, listOf #[.ref d0.1, .ref d1.1] nn) :: ([d0.c, d1.c] ++ rest)) → Q .none { s with heap := h', toks := tk' }) :
    wpAny (model PySem.Challenge.rw_op0141_01.row.prog w) A (call (.ref 70) [.ref hp]) Q E s := by
  have hm : ∀ c ∈ [c0.c, c1.c], c ∈ (hp, listOf #[.ref c0.1, .ref c1.1] nn) :: ([c0.c, c1.c] ++ rest) := fun c hc => .tail _ (List.mem_append_left _ hc)
  refine wpAny_call (heapify_max2 (k0 := c0.2.2) (k1 := c1.2.2) X T hS F.keep hroom hun hh (N.get (.head _)) (N.fresh (.head _)) (K_c0.tk N (hm _ (by simp))) (K_c1.tk N (hm _ (by simp))) D_c0_c1 ?_)
  intro h' tk' hb hq
  have back : ∀ d0 d1 : Cel, [d0, d1].Perm [c0, c1] → d0.2.2.lt d1.2.2 = false → h'.get? hp = some (listOf #[.ref d0.1, .ref d1.1] nn) → Q .none { s with heap := h', toks := tk' } := by
    intro d0 d1 hperm e1 hq'
    obtain ⟨F', N'⟩ := news_put (cs' := [d0.c, d1.c]) F N hb hq' hne (fun q hq => by
      have hq2 : q ∈ ([d0, d1] : List Cel).map Cel.c := hq
      obtain ⟨c, hc, rfl⟩ := List.mem_map.mp hq2
      have := hperm.mem_iff.mp hc
      simp only [List.mem_cons, List.not_mem_nil, or_false] at this ⊢
      rcases this with rfl | rfl <;> simp)
    exact h h' tk' d0 d1 hperm e1 F' N'

  have tot := Ky.lt_total c0.2.2 c1.2.2 D_c0_c1
  by_cases q1 : c1.2.2.lt c0.2.2 = true
  · rw [if_pos q1] at hq
    exact back c0 c1 (List.Perm.refl _) (by first | exact Ky.lt_asymm q1) hq
  · have q1' : c1.2.2.lt c0.2.2 = false := by simpa using q1
    rw [if_neg q1] at hq
    exact back c1 c0 (List.Perm.swap ..) q1' hq
theorem heapify_max3_K {c0 c1 c2 : Cel} {Q : Value → Shared → Prop} (X : (Mine.hd.heap_39 w.params).In g) (T : Top p loose mean mg mb g) (hS : NoShare g) (hroom : A.depth + 18 < recursionLimit) (hun : A.units + 80 < cLine) (hh : A.handled = none) 
    (F : Fr g L s.heap m) (N : News g L s.heap ((hp, listOf #[.ref c0.1, .ref c1.1, .ref c2.1] nn) :: ([c0.c, c1.c, c2.c] ++ rest))) (hne : ∀ q ∈ [c0.c, c1.c, c2.c] ++ rest, q.1 ≠ hp) (K_c0 : KO c0.2.1 c0.2.2) (K_c1 : KO c1.2.1 c1.2.2) (K_c2 : KO c2.2.1 c2.2.2) (D_c0_c1 : Dis c0.2.2 c1.2.2) (D_c0_c2 : Dis c0.2.2 c2.2.2) (D_c1_c2 : Dis c1.2.2 c2.2.2)
    (h : ∀ h' tk' d0 d1 d2, [d0, d1, d2].Perm [c0, c1, c2] → d0.2.2.lt d1.2.2 = false → d0.2.2.lt d2.2.2 = false → Fr g L h' m → News g L h' ((hp, listOf #[.ref d0.1, .ref d1.1, .ref d2.1] nn) :: ([d0.c, d1.c, d2.c] ++ rest)) → Q .none { s with heap := h', toks := tk' }) :
    wpAny (model PySem.Challenge.rw_op0141_01.row.prog w) A (call (.ref 70) [.ref hp]) Q E s := by
  have hm : ∀ c ∈ [c0.c, c1.c, c2.c], c ∈ (hp, listOf #[.ref c0.1, .ref c1.1, .ref c2.1] nn) :: ([c0.c, c1.c, c2.c] ++ rest) := fun c hc => .tail _ (List.mem_append_left _ hc)
  refine wpAny_call (heapify_max3 (k0 := c0.2.2) (k1 := c1.2.2) (k2 := c2.2.2) X T hS F.keep hroom hun hh (N.get (.head _)) (N.fresh (.head _)) (K_c0.tk N (hm _ (by simp))) (K_c1.tk N (hm _ (by simp))) (K_c2.tk N (hm _ (by simp))) D_c0_c1 D_c0_c2 D_c1_c2 ?_)
  intro h' tk' hb hq
  have back : ∀ d0 d1 d2 : Cel, [d0, d1, d2].Perm [c0, c1, c2] → d0.2.2.lt d1.2.2 = false → d0.2.2.lt d2.2.2 = false → h'.get? hp = some (listOf #[.ref d0.1, .ref d1.1, .ref d2.1] nn) → Q .none { s with heap := h', toks := tk' } := by
    intro d0 d1 d2 hperm e1 e2 hq'
    obtain ⟨F', N'⟩ := news_put (cs' := [d0.c, d1.c, d2.c]) F N hb hq' hne (fun q hq => by
      have hq2 : q ∈ ([d0, d1, d2] : List Cel).map Cel.c := hq
      obtain ⟨c, hc, rfl⟩ := List.mem_map.mp hq2
      have := hperm.mem_iff.mp hc
      simp only [List.mem_cons, List.not_mem_nil, or_false] at this ⊢
      rcases this with rfl | rfl | rfl <;> simp)
    exact h h' tk' d0 d1 d2 hperm e1 e2 F' N'

  by_cases q12 : c2.2.2.lt c1.2.2 = true
  · rw [if_pos q12] at hq
    by_cases q1 : c1.2.2.lt c0.2.2 = true
    · rw [if_pos q1] at hq
      exact back c0 c1 c2 (List.Perm.refl _) (Ky.lt_asymm q1) (Ky.lt_asymm (Ky.lt_trans q12 q1)) hq
    · rw [if_neg q1] at hq
      exact back c1 c0 c2 (List.Perm.swap ..) (by simpa using q1) (Ky.lt_asymm q12) hq
  · rw [if_neg q12] at hq
    have q12' : c2.2.2.lt c1.2.2 = false := by simpa using q12
    have r12 : c1.2.2.lt c2.2.2 = true := Ky.lt_of_not D_c1_c2.symm q12'
    by_cases q2 : c2.2.2.lt c0.2.2 = true
    · rw [if_pos q2] at hq
      exact back c0 c1 c2 (List.Perm.refl _) (Ky.lt_asymm (Ky.lt_trans r12 q2)) (Ky.lt_asymm q2) hq
    · rw [if_neg q2] at hq
      exact back c2 c1 c0 (perm_rev3 ..) (Ky.lt_asymm r12) (by simpa using q2) hq
theorem heapreplace2_K {c0 c1 cn : Cel} {Q : Value → Shared → Prop} (X : (Mine.hd.heap_39 w.params).In g) (T : Top p loose mean mg mb g) (hS : NoShare g) (hroom : A.depth + 18 < recursionLimit) (hun : A.units + 80 < cLine) 
    (F : Fr g L s.heap m) (N : News g L s.heap ((hp, listOf #[.ref c0.1, .ref c1.1] nn) :: ([c0.c, c1.c, cn.c] ++ rest))) (hne : ∀ q ∈ [c0.c, c1.c, cn.c] ++ rest, q.1 ≠ hp) (K_c0 : KO c0.2.1 c0.2.2) (K_c1 : KO c1.2.1 c1.2.2) (K_cn : KO cn.2.1 cn.2.2) (D_cn_c1 : Dis cn.2.2 c1.2.2)
    (h : ∀ h' tk' d0 d1, [d0, d1].Perm [cn, c1] → d1.2.2.lt d0.2.2 = false → Fr g L h' m → News g L h' ((hp, listOf #[.ref d0.1, .ref d1.1] nn) :: ([d0.c, d1.c] ++ rest)) → Q (.ref c0.1) { s with heap := h', toks := tk' }) :
    wpAny (model PySem.Challenge.rw_op0141_01.row.prog w) A (call (.ref 49) [.ref hp, .ref cn.1]) Q E s := by
  have hm : ∀ c ∈ [c0.c, c1.c, cn.c], c ∈ (hp, listOf #[.ref c0.1, .ref c1.1] nn) :: ([c0.c, c1.c, cn.c] ++ rest) := fun c hc => .tail _ (List.mem_append_left _ hc)
  refine wpAny_call (heapreplace2 (k0 := c0.2.2) (k1 := c1.2.2) (kn := cn.2.2) X T hS F.keep hroom hun (N.get (.head _)) (N.fresh (.head _)) (K_c0.tk N (hm _ (by simp))) (K_c1.tk N (hm _ (by simp))) (K_cn.tk N (hm _ (by simp)))  D_cn_c1 ?_)
  intro h' tk' hb hq
  have back : ∀ d0 d1 : Cel, [d0, d1].Perm [cn, c1] → d1.2.2.lt d0.2.2 = false → h'.get? hp = some (listOf #[.ref d0.1, .ref d1.1] nn) → Q (.ref c0.1) { s with heap := h', toks := tk' } := by
    intro d0 d1 hperm e1 hq'
    obtain ⟨F', N'⟩ := news_put (cs' := [d0.c, d1.c]) F N hb hq' hne (fun q hq => by
      have hq2 : q ∈ ([d0, d1] : List Cel).map Cel.c := hq
      obtain ⟨c, hc, rfl⟩ := List.mem_map.mp hq2
      have := hperm.mem_iff.mp hc
      simp only [List.mem_cons, List.not_mem_nil, or_false] at this ⊢
      rcases this with rfl | rfl <;> simp)
    exact h h' tk' d0 d1 hperm e1 F' N'

  have tot := Ky.lt_total cn.2.2 c1.2.2 D_cn_c1
  by_cases q1 : cn.2.2.lt c1.2.2 = true
  · rw [if_pos q1] at hq
    exact back cn c1 (List.Perm.refl _) (by first | exact Ky.lt_asymm q1) hq
  · have q1' : cn.2.2.lt c1.2.2 = false := by simpa using q1
    rw [if_neg q1] at hq
    exact back c1 cn (List.Perm.swap ..) q1' hq
theorem heapreplace3_K {c0 c1 c2 cn : Cel} {Q : Value → Shared → Prop} (X : (Mine.hd.heap_39 w.params).In g) (T : Top p loose mean mg mb g) (hS : NoShare g) (hroom : A.depth + 18 < recursionLimit) (hun : A.units + 80 < cLine) 
    (F : Fr g L s.heap m) (N : News g L s.heap ((hp, listOf #[.ref c0.1, .ref c1.1, .ref c2.1] nn) :: ([c0.c, c1.c, c2.c, cn.c] ++ rest))) (hne : ∀ q ∈ [c0.c, c1.c, c2.c, cn.c] ++ rest, q.1 ≠ hp) (K_c0 : KO c0.2.1 c0.2.2) (K_c1 : KO c1.2.1 c1.2.2) (K_c2 : KO c2.2.1 c2.2.2) (K_cn : KO cn.2.1 cn.2.2) (D_cn_c1 : Dis cn.2.2 c1.2.2) (D_cn_c2 : Dis cn.2.2 c2.2.2) (D_c1_c2 : Dis c1.2.2 c2.2.2)
    (h : ∀ h' tk' d0 d1 d2, [d0, d1, d2].Perm [cn, c1, c2] → d1.2.2.lt d0.2.2 = false → d2.2.2.lt d0.2.2 = false → Fr g L h' m → News g L h' ((hp, listOf #[.ref d0.1, .ref d1.1, .ref d2.1] nn) :: ([d0.c, d1.c, d2.c] ++ rest)) → Q (.ref c0.1) { s with heap := h', toks := tk' }) :
    wpAny (model PySem.Challenge.rw_op0141_01.row.prog w) A (call (.ref 49) [.ref hp, .ref cn.1]) Q E s := by
  have hm : ∀ c ∈ [c0.c, c1.c, c2.c, cn.c], c ∈ (hp, listOf #[.ref c0.1, .ref c1.1, .ref c2.1] nn) :: ([c0.c, c1.c, c2.c, cn.c] ++ rest) := fun c hc => .tail _ (List.mem_append_left _ hc)
  refine wpAny_call (heapreplace3 (k0 := c0.2.2) (k1 := c1.2.2) (k2 := c2.2.2) (kn := cn.2.2) X T hS F.keep hroom hun (N.get (.head _)) (N.fresh (.head _)) (K_c0.tk N (hm _ (by simp))) (K_c1.tk N (hm _ (by simp))) (K_c2.tk N (hm _ (by simp))) (K_cn.tk N (hm _ (by simp))) D_c1_c2 D_cn_c1 D_cn_c2 ?_)
  intro h' tk' hb hq
  have back : ∀ d0 d1 d2 : Cel, [d0, d1, d2].Perm [cn, c1, c2] → d1.2.2.lt d0.2.2 = false → d2.2.2.lt d0.2.2 = false → h'.get? hp = some (listOf #[.ref d0.1, .ref d1.1, .ref d2.1] nn) → Q (.ref c0.1) { s with heap := h', toks := tk' } := by
    intro d0 d1 d2 hperm e1 e2 hq'
    obtain ⟨F', N'⟩ := news_put (cs' := [d0.c, d1.c, d2.c]) F N hb hq' hne (fun q hq => by
      have hq2 : q ∈ ([d0, d1, d2] : List Cel).map Cel.c := hq
      obtain ⟨c, hc, rfl⟩ := List.mem_map.mp hq2
      have := hperm.mem_iff.mp hc
      simp only [List.mem_cons, List.not_mem_nil, or_false] at this ⊢
      rcases this with rfl | rfl | rfl <;> simp)
    exact h h' tk' d0 d1 d2 hperm e1 e2 F' N'

  by_cases q12 : c1.2.2.lt c2.2.2 = true
  · rw [if_pos q12] at hq
    by_cases q1 : cn.2.2.lt c1.2.2 = true
    · rw [if_pos q1] at hq
      exact back cn c1 c2 (List.Perm.refl _) (Ky.lt_asymm q1) (Ky.lt_asymm (Ky.lt_trans q1 q12)) hq
    · rw [if_neg q1] at hq
      exact back c1 cn c2 (List.Perm.swap ..) (by simpa using q1) (Ky.lt_asymm q12) hq
  · rw [if_neg q12] at hq
    have q12' : c1.2.2.lt c2.2.2 = false := by simpa using q12
    have r12 : c2.2.2.lt c1.2.2 = true := Ky.lt_of_not D_c1_c2 q12'
    by_cases q2 : cn.2.2.lt c2.2.2 = true
    · rw [if_pos q2] at hq
      exact back cn c1 c2 (List.Perm.refl _) (Ky.lt_asymm (Ky.lt_trans q2 r12)) (Ky.lt_asymm q2) hq
    · rw [if_neg q2] at hq
      exact back c2 c1 cn (perm_rev3 ..) (Ky.lt_asymm r12) (by simpa using q2) hq
theorem heapreplace_max2_K {c0 c1 cn : Cel} {Q : Value → Shared → Prop} (X : (Mine.hd.heap_39 w.params).In g) (T : Top p loose mean mg mb g) (hS : NoShare g) (hroom : A.depth + 18 < recursionLimit) (hun : A.units + 80 < cLine) 
    (F : Fr g L s.heap m) (N : News g L s.heap ((hp, listOf #[.ref c0.1, .ref c1.1] nn) :: ([c0.c, c1.c, cn.c] ++ rest))) (hne : ∀ q ∈ [c0.c, c1.c, cn.c] ++ rest, q.1 ≠ hp) (K_c0 : KO c0.2.1 c0.2.2) (K_c1 : KO c1.2.1 c1.2.2) (K_cn : KO cn.2.1 cn.2.2) (D_cn_c1 : Dis cn.2.2 c1.2.2)
    (h : ∀ h' tk' d0 d1, [d0, d1].Perm [cn, c1] → d0.2.2.lt d1.2.2 = false → Fr g L h' m → News g L h' ((hp, listOf #[.ref d0.1, .ref d1.1] nn) :: ([d0.c, d1.c] ++ rest)) → Q (.ref c0.1) { s with heap := h', toks := tk' }) :
    wpAny (model PySem.Challenge.rw_op0141_01.row.prog w) A (call (.ref 63) [.ref hp, .ref cn.1]) Q E s := by
  have hm : ∀ c ∈ [c0.c, c1.c, cn.c], c ∈ (hp, listOf #[.ref c0.1, .ref c1.1] nn) :: ([c0.c, c1.c, cn.c] ++ rest) := fun c hc => .tail _ (List.mem_append_left _ hc)
  refine wpAny_call (heapreplace_max2 (k0 := c0.2.2) (k1 := c1.2.2) (kn := cn.2.2) X T hS F.keep hroom hun (N.get (.head _)) (N.fresh (.head _)) (K_c0.tk N (hm _ (by simp))) (K_c1.tk N (hm _ (by simp))) (K_cn.tk N (hm _ (by simp)))  D_cn_c1 ?_)
  intro h' tk' hb hq
  have back : ∀ d0 d1 : Cel, [d0, d1].Perm [cn, c1] → d0.2.2.lt d1.2.2 = false → h'.get? hp = some (listOf #[.ref d0.1, .ref d1.1] nn) → Q (.ref c0.1) { s with heap := h', toks := tk' } := by
    intro d0 d1 hperm e1 hq'
    obtain ⟨F', N'⟩ := news_put (cs' := [d0.c, d1.c]) F N hb hq' hne (fun q hq => by
      have hq2 : q ∈ ([d0, d1] : List Cel).map Cel.c := hq
      obtain ⟨c, hc, rfl⟩ := List.mem_map.mp hq2
      have := hperm.mem_iff.mp hc
      simp only [List.mem_cons, List.not_mem_nil, or_false] at this ⊢
      rcases this with rfl | rfl <;> simp)
    exact h h' tk' d0 d1 hperm e1 F' N'

  have tot := Ky.lt_total cn.2.2 c1.2.2 D_cn_c1
  by_cases q1 : c1.2.2.lt cn.2.2 = true
  · rw [if_pos q1] at hq
    exact back cn c1 (List.Perm.refl _) (by first | exact Ky.lt_asymm q1) hq
  · have q1' : c1.2.2.lt cn.2.2 = false := by simpa using q1
    rw [if_neg q1] at hq
    exact back c1 cn (List.Perm.swap ..) q1' hq
theorem heapreplace_max3_K {c0 c1 c2 cn : Cel} {Q : Value → Shared → Prop} (X : (Mine.hd.heap_39 w.params).In g) (T : Top p loose mean mg mb g) (hS : NoShare g) (hroom : A.depth + 18 < recursionLimit) (hun : A.units + 80 < cLine) 
    (F : Fr g L s.heap m) (N : News g L s.heap ((hp, listOf #[.ref c0.1, .ref c1.1, .ref c2.1] nn) :: ([c0.c, c1.c, c2.c, cn.c] ++ rest))) (hne : ∀ q ∈ [c0.c, c1.c, c2.c, cn.c] ++ rest, q.1 ≠ hp) (K_c0 : KO c0.2.1 c0.2.2) (K_c1 : KO c1.2.1 c1.2.2) (K_c2 : KO c2.2.1 c2.2.2) (K_cn : KO cn.2.1 cn.2.2) (D_cn_c1 : Dis cn.2.2 c1.2.2) (D_cn_c2 : Dis cn.2.2 c2.2.2) (D_c1_c2 : Dis c1.2.2 c2.2.2)
    (h : ∀ h' tk' d0 d1 d2, [d0, d1, d2].Perm [cn, c1, c2] → d0.2.2.lt d1.2.2 = false → d0.2.2.lt d2.2.2 = false → Fr g L h' m → News g L h' ((hp, listOf #[.ref d0.1, .ref d1.1, .ref d2.1] nn) :: ([d0.c, d1.c, d2.c] ++ rest)) → Q (.ref c0.1) { s with heap := h', toks := tk' }) :
    wpAny (model PySem.Challenge.rw_op0141_01.row.prog w) A (call (.ref 63) [.ref hp, .ref cn.1]) Q E s := by
  have hm : ∀ c ∈ [c0.c, c1.c, c2.c, cn.c], c ∈ (hp, listOf #[.ref c0.1, .ref c1.1, .ref c2.1] nn) :: ([c0.c, c1.c, c2.c, cn.c] ++ rest) := fun c hc => .tail _ (List.mem_append_left _ hc)
  refine wpAny_call (heapreplace_max3 (k0 := c0.2.2) (k1 := c1.2.2) (k2 := c2.2.2) (kn := cn.2.2) X T hS F.keep hroom hun (N.get (.head _)) (N.fresh (.head _)) (K_c0.tk N (hm _ (by simp))) (K_c1.tk N (hm _ (by simp))) (K_c2.tk N (hm _ (by simp))) (K_cn.tk N (hm _ (by simp))) D_c1_c2 D_cn_c1 D_cn_c2 ?_)
  intro h' tk' hb hq
  have back : ∀ d0 d1 d2 : Cel, [d0, d1, d2].Perm [cn, c1, c2] → d0.2.2.lt d1.2.2 = false → d0.2.2.lt d2.2.2 = false → h'.get? hp = some (listOf #[.ref d0.1, .ref d1.1, .ref d2.1] nn) → Q (.ref c0.1) { s with heap := h', toks := tk' } := by
    intro d0 d1 d2 hperm e1 e2 hq'
    obtain ⟨F', N'⟩ := news_put (cs' := [d0.c, d1.c, d2.c]) F N hb hq' hne (fun q hq => by
      have hq2 : q ∈ ([d0, d1, d2] : List Cel).map Cel.c := hq
      obtain ⟨c, hc, rfl⟩ := List.mem_map.mp hq2
      have := hperm.mem_iff.mp hc
      simp only [List.mem_cons, List.not_mem_nil, or_false] at this ⊢
      rcases this with rfl | rfl | rfl <;> simp)
    exact h h' tk' d0 d1 d2 hperm e1 e2 F' N'

  by_cases q12 : c2.2.2.lt c1.2.2 = true
  · rw [if_pos q12] at hq
    by_cases q1 : c1.2.2.lt cn.2.2 = true
    · rw [if_pos q1] at hq
      exact back cn c1 c2 (List.Perm.refl _) (Ky.lt_asymm q1) (Ky.lt_asymm (Ky.lt_trans q12 q1)) hq
    · rw [if_neg q1] at hq
      exact back c1 cn c2 (List.Perm.swap ..) (by simpa using q1) (Ky.lt_asymm q12) hq
  · rw [if_neg q12] at hq
    have q12' : c2.2.2.lt c1.2.2 = false := by simpa using q12
    have r12 : c1.2.2.lt c2.2.2 = true := Ky.lt_of_not D_c1_c2.symm q12'
    by_cases q2 : c2.2.2.lt cn.2.2 = true
    · rw [if_pos q2] at hq
      exact back cn c1 c2 (List.Perm.refl _) (Ky.lt_asymm (Ky.lt_trans r12 q2)) (Ky.lt_asymm q2) hq
    · rw [if_neg q2] at hq
      exact back c2 c1 cn (perm_rev3 ..) (Ky.lt_asymm r12) (by simpa using q2) hq
end
end Mine
end

section
open PySem PySem.W PySem.Spec PySem.Calls PyProof.Rows
set_option maxRecDepth 100000
namespace Mine
/-- what the picking loop keeps: ks holds the picked ones of 0 .. e - 1; order o is below all theirs; what is not picked is no better (σ = 1: nlargest) -/
structure Inv (x : Int → UInt64) (t : Int → Tok) (v : Int → Int) (e o : Int) (ks : List Ky) : Prop where
  is : ∀ k ∈ ks, k.x = x k.e ∧ k.t = t k.e ∧ k.v = v k.e ∧ 0 ≤ k.e ∧ k.e < e ∧ o < k.o
  apart : ks.Pairwise fun a b => a.e ≠ b.e ∧ a.o ≠ b.o
  best : ∀ j, 0 ≤ j → j < e → (∀ k ∈ ks, k.e ≠ j) → ∀ k ∈ ks, v j ≤ k.v
theorem Inv.perm {x : Int → UInt64} {t : Int → Tok} {v : Int → Int} {e o : Int} {ks ks' : List Ky} (I : Inv x t v e o ks) (p : ks'.Perm ks) : Inv x t v e o ks' :=
  ⟨fun k hk => I.is k (p.mem_iff.mp hk), (p.pairwise_iff fun {a b} h => ⟨Ne.symm h.1, Ne.symm h.2⟩).mpr I.apart,
   fun j h0 h1 hn k hk => I.best j h0 h1 (fun k' hk' => hn k' (p.mem_iff.mpr hk')) k (p.mem_iff.mp hk)⟩
theorem Inv.skip {x : Int → UInt64} {t : Int → Tok} {v : Int → Int} {e o : Int} {k0 : Ky} {ks : List Ky} (I : Inv x t v e o (k0 :: ks)) (hm : ∀ k ∈ ks, k.lt k0 = false) (h : ¬ k0.v < v e) : Inv x t v (e + 1) o (k0 :: ks) := by
  have least : ∀ k ∈ k0 :: ks, k0.v ≤ k.v := fun k hk => by
    rcases List.mem_cons.mp hk with rfl | hk
    · exact Int.le_refl _
    · have := hm k hk
      have q : ¬ (k.v < k0.v ∨ k.v = k0.v ∧ k.o < k0.o) := by rw [← Ky.lt_iff]; simp [this]
      omega
  refine ⟨fun k hk => ?_, I.apart, fun j h0 h1 hn k hk => ?_⟩
  · obtain ⟨a, b, c, d, f, g⟩ := I.is k hk
    exact ⟨a, b, c, d, by omega, g⟩
  · by_cases hj : j < e
    · exact I.best j h0 hj hn k hk
    · have : j = e := by omega
      subst this
      have := least k hk
      omega
theorem Inv.put {x : Int → UInt64} {t : Int → Tok} {v : Int → Int} {e o : Int} {k0 : Ky} {ks : List Ky} (I : Inv x t v e o (k0 :: ks)) (hm : ∀ k ∈ ks, k.lt k0 = false) (h : k0.v < v e) (he : 0 ≤ e) : Inv x t v (e + 1) (o - 1) (⟨x e, t e, v e, o, e⟩ :: ks) := by
  have least : ∀ k ∈ ks, k0.v ≤ k.v := fun k hk => by
    have := hm k hk
    have q : ¬ (k.v < k0.v ∨ k.v = k0.v ∧ k.o < k0.o) := by rw [← Ky.lt_iff]; simp [this]
    omega
  have ap := List.pairwise_cons.mp I.apart
  refine ⟨fun k hk => ?_, List.pairwise_cons.mpr ⟨fun k hk => ?_, ap.2⟩, fun j h0 h1 hn k hk => ?_⟩
  · rcases List.mem_cons.mp hk with rfl | hk
    · exact ⟨rfl, rfl, rfl, he, by show e < e + 1; omega, by show o - 1 < o; omega⟩
    · obtain ⟨a, b, c, d, f, g⟩ := I.is k (.tail _ hk)
      exact ⟨a, b, c, d, by omega, by omega⟩
  · obtain ⟨a, b, c, d, f, g⟩ := I.is k (.tail _ hk)
    exact ⟨by show e ≠ k.e; omega, by show o ≠ k.o; omega⟩
  · have hje : j < e := by
      have := hn _ (.head _)
      have : e ≠ j := this
      omega
    have hks : ∀ k ∈ ks, k.e ≠ j := fun k hk => hn k (.tail _ hk)
    have hv : v j ≤ k0.v := by
      by_cases hj : k0.e = j
      · have := (I.is k0 (.head _)).2.2.1
        rw [← hj, this]; exact Int.le_refl _
      · exact I.best j h0 hje (fun k' hk' => by
          rcases List.mem_cons.mp hk' with rfl | hk'
          · exact hj
          · exact hks k' hk') k0 (.head _)
    rcases List.mem_cons.mp hk with rfl | hk
    · show v j ≤ v e; omega
    · have := least k hk; omega
theorem Inv.dis {x : Int → UInt64} {t : Int → Tok} {v : Int → Int} {e o : Int} {ks : List Ky} (I : Inv x t v e o ks) (he : e ≤ 6) (hd : ∀ i j, 0 ≤ i → i < 6 → 0 ≤ j → j < 6 → t i = t j → v i = v j) : ks.Pairwise Dis :=
  I.apart.imp_of_mem fun {a b} ha hb h => by
    obtain ⟨_, a2, a3, a4, a5, _⟩ := I.is a ha
    obtain ⟨_, b2, b3, b4, b5, _⟩ := I.is b hb
    refine ⟨fun q => ?_, h.2⟩
    rw [a3, b3]
    exact hd _ _ a4 (by omega) b4 (by omega) (by rw [← a2, ← b2]; exact q)
/-- the k best, by their places: apart, within 0 .. 5, no other is better -/
structure Picked (v : Int → Int) (es : List Int) : Prop where
  inn : ∀ i ∈ es, 0 ≤ i ∧ i < 6
  apart : es.Nodup
  best : ∀ j, 0 ≤ j → j < 6 → j ∉ es → ∀ i ∈ es, v j ≤ v i
theorem Inv.picked {x : Int → UInt64} {t : Int → Tok} {v : Int → Int} {o : Int} {ks : List Ky} (I : Inv x t v 6 o ks) : Picked v (ks.map (·.e)) := by
  refine ⟨fun i hi => ?_, ?_, fun j h0 h1 hn i hi => ?_⟩
  · obtain ⟨k, hk, rfl⟩ := List.mem_map.mp hi
    have := I.is k hk; exact ⟨this.2.2.2.1, this.2.2.2.2.1⟩
  · exact List.Pairwise.map _ (fun a b h => h.1) I.apart
  · obtain ⟨k, hk, rfl⟩ := List.mem_map.mp hi
    rw [← (I.is k hk).2.2.1]
    exact I.best j h0 h1 (fun k' hk' e => hn (List.mem_map.mpr ⟨k', hk', e⟩)) k hk
theorem Picked.perm {v : Int → Int} {es es' : List Int} (P : Picked v es) (p : es'.Perm es) : Picked v es' :=
  ⟨fun i hi => P.inn i (p.mem_iff.mp hi), (p.nodup_iff).mpr P.apart, fun j h0 h1 hn i hi => P.best j h0 h1 (fun q => hn (p.mem_iff.mpr q)) i (p.mem_iff.mp hi)⟩
section
variable {prog : Program} {w : World} {A : Around} {E : Value → Shared → Prop} {s : Shared}
/-- a for by what holds at each turn -/
theorem for_inv {R : Result → Shared → Prop} {target : Expr} {it : Value} {body orelse : List Stmt} {env : Env} (I : Nat → Shared → Prop)
    (turn : ∀ n s, I n s → wpAny (model prog w) A (pyNext it) (fun r s₁ => match r with
      | none => wpAny (model prog w) A (execs orelse env) (fun f s₃ => R (.ok f) s₃) (fun _ _ => False) s₁
      | some v => wpAny (model prog w) A (assign target env v) (fun _ s₂ => wpAny (model prog w) A (execs body env) (fun f s₃ => match f with
          | .next | .cont => ∃ m, m < n ∧ I m s₃
          | .brk => R (.ok .next) s₃
          | .ret v => R (.ok (.ret v)) s₃) (fun _ _ => False) s₂) (fun _ _ => False) s₁) (fun _ _ => False) s)
    (n : Nat) (h : I n s) (ht : ∀ v, letOwnedTupleGo target it v = pure () := by intro _; rfl) : codeAny (model prog w) A (.forLoop target it body orelse env) R s := by
  induction n using Nat.strongRecOn generalizing s with
  | ind n ih =>
    refine for_unroll (wpAny_mono (turn n s h) (fun r s₁ h₁ => ?_) fun _ _ h' => h') ht
    cases r with
    | none => exact h₁
    | some v =>
      refine wpAny_mono h₁ (fun _ s₂ h₂ => wpAny_mono h₂ (fun f s₃ h₃ => ?_) fun _ _ h' => h') fun _ _ h' => h'
      cases f with
      | next => obtain ⟨m, hm, hI⟩ := h₃; exact ih m hm hI
      | cont => obtain ⟨m, hm, hI⟩ := h₃; exact ih m hm hI
      | brk => exact h₃
      | ret v => exact h₃
end
end Mine
end

section
open PySem PySem.W PySem.Spec PySem.Calls PyProof.Rows
set_option maxRecDepth 100000
namespace Mine
theorem fr_congr {g h : Heap} {L : Addr} {m m' : Str → Option Value} (F : Fr g L h m) (e : ∀ y, m y = m' y) : Fr g L h m' := by
  have : m = m' := funext e
  exact this ▸ F
/-- the names that the picking loop turns, over the rest -/
def CM (vo vt y1 y2 y3 y4 : Option Value) (m₀ : Str → Option Value) : Str → Option Value := fun y =>
  if y = Str.ofString "order" then vo else if y = Str.ofString "top" then vt else if y = Str.ofString "k" then y1 else if y = Str.ofString "elem" then y2 else if y = Str.ofString "_order" then y3 else if y = Str.ofString "_elem" then y4 else m₀ y
theorem cm_start {g h : Heap} {L : Addr} {m : Str → Option Value} {vo vt : Option Value} (F : Fr g L h m) (e1 : m (Str.ofString "order") = vo) (e2 : m (Str.ofString "top") = vt) :
    Fr g L h (CM vo vt (m (Str.ofString "k")) (m (Str.ofString "elem")) (m (Str.ofString "_order")) (m (Str.ofString "_elem")) m) := fr_congr F fun y => by
  unfold CM
  by_cases h1 : y = Str.ofString "order"
  · rw [if_pos h1, h1, e1]
  rw [if_neg h1]
  by_cases h2 : y = Str.ofString "top"
  · rw [if_pos h2, h2, e2]
  rw [if_neg h2]
  by_cases h3 : y = Str.ofString "k"
  · rw [if_pos h3, h3]
  rw [if_neg h3]
  by_cases h4 : y = Str.ofString "elem"
  · rw [if_pos h4, h4]
  rw [if_neg h4]
  by_cases h5 : y = Str.ofString "_order"
  · rw [if_pos h5, h5]
  rw [if_neg h5]
  by_cases h6 : y = Str.ofString "_elem"
  · rw [if_pos h6, h6]
  rw [if_neg h6]
theorem cm_skip {vo vt y1 y2 y3 y4 a b : Option Value} {m₀ : Str → Option Value} (y : Str) : (if y = Str.ofString "k" then a else if y = Str.ofString "elem" then b else CM vo vt y1 y2 y3 y4 m₀ y) = CM vo vt a b y3 y4 m₀ y := by
  unfold CM
  by_cases h3 : y = Str.ofString "k"
  · rw [if_pos h3, h3, if_neg (by decide), if_neg (by decide), if_pos rfl]
  rw [if_neg h3]
  by_cases h4 : y = Str.ofString "elem"
  · rw [if_pos h4, h4, if_neg (by decide), if_neg (by decide), if_neg (by decide), if_pos rfl]
  rw [if_neg h4]
  simp only [if_neg h3, if_neg h4]
theorem cm_put {vo vt y1 y2 y3 y4 a b o' t' b3 b4 : Option Value} {m₀ : Str → Option Value} (y : Str) :
    (if y = Str.ofString "order" then o' else if y = Str.ofString "_elem" then b4 else if y = Str.ofString "_order" then b3 else if y = Str.ofString "top" then t' else if y = Str.ofString "k" then a else if y = Str.ofString "elem" then b else CM vo vt y1 y2 y3 y4 m₀ y) = CM o' t' a b b3 b4 m₀ y := by
  unfold CM
  by_cases h1 : y = Str.ofString "order"
  · rw [if_pos h1, if_pos h1]
  by_cases h6 : y = Str.ofString "_elem"
  · rw [if_neg h1, if_pos h6, if_neg h1, h6, if_neg (by decide), if_neg (by decide), if_neg (by decide), if_neg (by decide), if_pos rfl]
  by_cases h5 : y = Str.ofString "_order"
  · rw [if_neg h1, if_neg h6, if_pos h5, if_neg h1, h5, if_neg (by decide), if_neg (by decide), if_neg (by decide), if_pos rfl]
  by_cases h2 : y = Str.ofString "top"
  · rw [if_neg h1, if_neg h6, if_neg h5, if_pos h2, if_neg h1, if_pos h2]
  by_cases h3 : y = Str.ofString "k"
  · simp only [if_neg h1, if_neg h2, if_neg h5, if_neg h6, if_pos h3]
  by_cases h4 : y = Str.ofString "elem"
  · simp only [if_neg h1, if_neg h2, if_neg h3, if_neg h5, if_neg h6, if_pos h4]
  simp only [if_neg h1, if_neg h2, if_neg h3, if_neg h4, if_neg h5, if_neg h6]
abbrev tupK (k : Ky) (u w : Tok) (n : Nat) : Obj := { cls := .type "tuple", data := .seq #[.float k.x k.t, .int k.o u, .int k.e w] n }
theorem callKey {w : World} {A : Around} {E : Value → Shared → Prop} {s : Shared} {env : Env} {pos : Pos} {e : Expr} {g : Heap} {L fl : Addr} {m : Str → Option Value} {news : List (Addr × Obj)} {x : Int → UInt64} {t : Int → Tok} {i : Int} {ti : Tok} {Q : Value → Shared → Prop}
    (hkey : KeyCall w g fl x t) (F : Fr g L s.heap m) (N : News g L s.heap news) (hd : A.depth + 5 < recursionLimit) (hu : A.units + 20 < cLine) (h0 : 0 ≤ i) (h6 : i < 6)
    (hv : ∀ Q' : Value → Shared → Prop, Q' (.int i ti) s → wpAny (model PySem.Challenge.rw_op0141_01.row.prog w) A (eval e env) Q' E s)
    (h : ∀ h' tk', Fr g L h' m → News g L h' news → Q (.float (x i) (t i)) { s with heap := h', toks := tk' }) (hs : starEach [e] env = [(false, eval e env)] := by rfl) :
    wpAny (model PySem.Challenge.rw_op0141_01.row.prog w) A (callWith pos (.ref fl) [] (backTo pos (starEach [e] env)) []) Q E s := by
  rw [hs]
  obtain ⟨ofn, fd, hfn, hfd⟩ := hkey.fn
  refine callWith_function (o := ofn) (fd := fd) (evalArgs_plain (spliced_cons (hv _ (spliced_nil ⟨⟨F.keep _ _ hfn, hfd⟩, ?_⟩))))
  refine hkey.call _ _ i _ _ _ F.keep hd hu h0 h6 fun h4 tk4 k4 => ?_
  obtain ⟨F4, N4⟩ := led_keeps F N k4
  exact h _ _ F4 N4
/-- floats compared -/
theorem lt_fl {prog : Program} {w : World} {A : Around} {E : Value → Shared → Prop} {s : Shared} {a b : UInt64} {m n : Int} {t u : Tok} {Q : Value → Shared → Prop} (ha : IsI a m) (hb : IsI b n) (h : Q (.bool (decide (m < n))) s) :
    wpAny (model prog w) A (compareOp .Lt (.float a t) (.float b u)) Q E s := AutoFloatOps.lt_0 (by rw [IsI_lt ha hb]; exact h)
theorem gt_fl {prog : Program} {w : World} {A : Around} {E : Value → Shared → Prop} {s : Shared} {a b : UInt64} {m n : Int} {t u : Tok} {Q : Value → Shared → Prop} (ha : IsI a m) (hb : IsI b n) (h : Q (.bool (decide (n < m))) s) :
    wpAny (model prog w) A (compareOp .Gt (.float a t) (.float b u)) Q E s := cmp_ofGt (Flt.gt_num (.float _ _) (.float _ _) (by show Q (.bool (Float64.cmp b a == some .lt)) s; rw [IsI_lt hb ha]; exact h))
theorem d18 {A : Around} {env : Env} (h : A.depth + 40 < recursionLimit) : (A.deeper env).depth + 18 < recursionLimit := by show A.depth + 1 + 18 < _; omega
theorem d5 {A : Around} {env : Env} (h : A.depth + 40 < recursionLimit) : (A.deeper env).depth + 5 < recursionLimit := by show A.depth + 1 + 5 < _; omega
theorem u80 {A : Around} {env : Env} (h : A.units + 150 < cLine) : (A.deeper env).units + 80 < cLine := by show A.units + 3 + 80 < _; omega
theorem u20 {A : Around} {env : Env} (h : A.units + 150 < cLine) : (A.deeper env).units + 20 < cLine := by show A.units + 3 + 20 < _; omega
theorem assign3_K {prog : Program} {w : World} {A : Around} {E : Value → Shared → Prop} {s : Shared} {env : Env} {g : Heap} {L T : Addr} {m : Str → Option Value} {news : List (Addr × Obj)} {k : Ky} {u w' : Tok} {n : Nat} {a b c : Str} {pa pb pc tp : Pos} {kk : Nat} {Q : Unit → Shared → Prop}
    (hh : A.handled = none) (F : Fr g L s.heap m) (N : News g L s.heap news) (hm : (T, tupK k u w' n) ∈ news) (hL : env.locals = L) (ka : env.kindOf a = some .local) (kb : env.kindOf b = some .local) (kc : env.kindOf c = some .local)
    (hp : (env.scope.kind == .class || (env.scope.kind == .module && env.locals != env.globals)) = false)
    (h : ∀ h' tk, Fr g L h' (fun y => if y = c then some (.int k.e w') else if y = b then some (.int k.o u) else if y = a then some (.float k.x k.t) else m y) → News g L h' news → Q () { s with heap := h', toks := tk }) :
    wpAny (model prog w) A (assign (.Tuple [.Name a pa, .Name b pb, .Name c pc] kk tp) env (.ref T)) Q E s := by
  subst hL
  refine wpAny_assign_Tuple hh ⟨_, N.get hm, rfl, _, rfl⟩ rfl rfl fun h₁ he₁ => ?_
  obtain ⟨F1, N1⟩ := led_keeps F N (fun c o e => he₁ c o (Nat.ne_of_lt (Heap.lt_size e)) e)
  show wpAny _ _ (assignInOrder [assign (.Name a pa) env, assign (.Name b pb) env, assign (.Name c pc) env] [.float k.x k.t, .int k.o u, .int k.e w']) _ _ _
  refine assignInOrder_cons ?_
  refine wpAny_assign_Name (wpAny_storeName_local ka F1.ns (fun h₂ hn₂ hs₂ => ?_) hp)
  have F2 := F1.set hn₂ hs₂
  have N2 := N1.set hs₂
  refine assignInOrder_cons ?_
  refine wpAny_assign_Name (wpAny_storeName_local kb F2.ns (fun h₃ hn₃ hs₃ => ?_) hp)
  have F3 := F2.set hn₃ hs₃
  have N3 := N2.set hs₃
  refine assignInOrder_cons ?_
  refine wpAny_assign_Name (wpAny_storeName_local kc F3.ns (fun h₄ hn₄ hs₄ => ?_) hp)
  refine assignInOrder_nil ?_
  exact h _ _ (F3.set hn₄ hs₄) (N3.set hs₄)
end Mine
end

section
open PySem PySem.W PySem.Spec PySem.Calls PyProof.Rows
set_option maxRecDepth 100000
namespace Mine
/-- list.sort with no key: the tree, forward or backward -/
def srtTree (a : Addr) (b : Bool) : Sem PySem.Fin := do
    let items ← Builtin.List.listItems (.ref a)
    Builtin.List.listUpdate (.ref a) fun _ => #[]
    let before ← seqEpoch a
    let held ← newTuple items.toList
    let keyStore ← newList []
    holding [held, keyStore] do
      if b then rule "list.sort.reverse"
      let kind ← if items.size < 2 then pure general' else keyKind' items
      let ((), s) ← (if items.size < 2 then pure () else sortRuns').run (SortSt.mk' kind (if b then (items.zip items).reverse else items.zip items) #[] 7 none)
      let sorted := (arrOf s).map (·.2)
      let touched := (← seqEpoch a) != before
      Builtin.List.listUpdate (.ref a) fun _ => if b then sorted.reverse else sorted
      if let some e := failedOf s then rule "list.sort.comparison-raised"; throw e
      if touched then rule "list.sort.modified"; raiseError "ValueError" "list modified during sort"
      ret .none
theorem srt_fwd (a : Addr) : Builtin.«list.sort» ⟨[.ref a], []⟩ = srtTree a false := rfl
theorem srt_bwd (a : Addr) (b : Bool) : Builtin.«list.sort» ⟨[.ref a], [(Str.ofString "reverse", .bool b)]⟩ = srtTree a b := rfl
/-- every way through the questions ends well -/
def kok {α : Type} (n : Nat) (P : α → Bool) : KasT α → Bool
  | .ret a => P a
  | .ask i j k => decide (i < n) && decide (j < n) && decide (i ≠ j) && kok n P (k true) && kok n P (k false)
theorem kok_wp {α : Type} {n : Nat} {P : α → Bool} {cmp : Nat → Nat → (Bool → Shared → Prop) → Shared → Prop} {Q : α → Shared → Prop} {s : Shared}
    (hc : ∀ i j C, i < n → j < n → i ≠ j → (∀ b, C b s) → cmp i j C s) (hq : ∀ a, P a = true → Q a s) : ∀ t : KasT α, kok n P t = true → t.kasWp cmp Q s
  | .ret a, h => hq a h
  | .ask i j k, h => by
    simp only [kok, Bool.and_eq_true, decide_eq_true_eq] at h
    obtain ⟨⟨⟨⟨h1, h2⟩, h3⟩, h4⟩, h5⟩ := h
    refine hc i j _ h1 h2 h3 fun b => ?_
    cases b with
    | true => exact kok_wp hc hq (k true) h4
    | false => exact kok_wp hc hq (k false) h5
theorem kok2 : kok 2 (fun p => p.toList.isPerm (List.range 2)) (kas_sort 2) = true := by decide +kernel
theorem kok3 : kok 3 (fun p => p.toList.isPerm (List.range 3)) (kas_sort 3) = true := by decide +kernel
section
variable {w : World} {A : Around} {E : Value → Shared → Prop} {s : Shared}
theorem oneLt_fl {prog : Program} {x y : UInt64} {t u : Tok} {Q : Bool → Shared → Prop} (h : ∀ b, Q b s) : wpAny (model prog w) A (oneLt' true (.float x t) (.float y u)) Q E s := by
  rw [oneLt'_eq]
  simp only [if_true]
  refine wpAny_bind (wpAny_cRoomFor_byValue rfl ?_)
  refine wpAny_bind (wpAny_callSpecialIfBound?_slot (AutoFloatOps.typeIs_float s x t) F.slot_float_lt (call_gives F.slot_float_lt (AutoFloatOps.typeIs_float s x t) F.entry_float_lt (F.args_float_lt_2 _ _) (AutoFloatG5.float___lt___float_float_0 x t y u) ?_))
  exact wpAny_truthy_bool (h _)
theorem keyLt_tup {prog : Program} {a b : Addr} {k l : Ky} {Q : Bool → Shared → Prop} (Ta : TK s.heap a k) (Tb : TK s.heap b l) (d : Dis k l) (hS : NoShare s.heap) (h : ∀ c, Q c s) :
    wpAny (model prog w) A (keyLt' (tuples' true) (.ref a) (.ref b)) Q E s := by
  obtain ⟨⟨to, te, n, ha⟩, ia, ta⟩ := Ta
  obtain ⟨⟨uo, ue, n', hb⟩, ib, tb⟩ := Tb
  refine kat_lt ha rfl hb rfl ?_
  show KatLex _ _ _ _ _ _ [(Value.float k.x k.t, Value.float l.x l.t), (Value.int k.o to, Value.int l.o uo), (Value.int k.e te, Value.int l.e ue)] 0 s
  refine kat_cons (eqBool_fl ia ib ta tb d.t hS ?_)
  refine kat_go (fun _ => kat_yes ?_) (fun _ => kat_no (oneLt_fl h))
  refine kat_cons (wpAny_eqBool_int ?_)
  have ho : (k.o == l.o) = false := by simp [d.o]
  rw [ho]
  exact kat_no (kat_one _ _ (cmp_ofLt (Flt.lt_num (.int _ _) (.int _ _) (h _))))
end
end Mine
namespace Mine
theorem perm_map_ex {α β : Type} {f : α → β} {l m : List β} (h : l.Perm m) : ∀ cs : List α, m = cs.map f → ∃ cs' : List α, cs'.Perm cs ∧ l = cs'.map f := by
  induction h with
  | nil =>
    intro cs e
    cases cs with
    | nil => exact ⟨[], .refl _, rfl⟩
    | cons => cases e
  | @cons x l₁ l₂ _ ih =>
    intro cs e
    cases cs with
    | nil => cases e
    | cons c cs =>
      rw [List.map_cons] at e
      injection e with e1 e2
      obtain ⟨cs', h1, h2⟩ := ih cs e2
      exact ⟨c :: cs', h1.cons c, by rw [List.map_cons, ← h2, e1]⟩
  | swap x y l =>
    intro cs e
    cases cs with
    | nil => cases e
    | cons c cs =>
      cases cs with
      | nil => cases e
      | cons d cs =>
        simp only [List.map_cons] at e
        injection e with e1 e2
        injection e2 with e2 e3
        exact ⟨d :: c :: cs, .swap c d cs, by simp [e1, e2, e3]⟩
  | trans _ _ ih1 ih2 =>
    intro cs e
    obtain ⟨c2, p2, e2⟩ := ih2 cs e
    obtain ⟨c1, p1, e1⟩ := ih1 c2 e2
    exact ⟨c1, p1.trans p2, e1⟩
theorem katRev_perm {α : Type} (b : Bool) (l : List α) : (katRev b l).Perm l := by
  unfold katRev
  split
  · exact List.reverse_perm l
  · exact .refl l
theorem map_getD_range (l : List Value) : (List.range l.length).map (fun i => l.getD i Value.none) = l := by
  apply List.ext_getElem (by simp)
  intro i h1 h2
  simp [h2]
/-- what is needed of the cells of the list -/
structure Cells (h : Heap) (cs : List (Addr × Ky)) : Prop where
  tk : ∀ c ∈ cs, TK h c.1 c.2
  dis : ∀ i j, (hi : i < cs.length) → (hj : j < cs.length) → i ≠ j → Dis (cs[i]).2 (cs[j]).2
abbrev refs (cs : List (Addr × Ky)) : List Value := cs.map fun c => Value.ref c.1
abbrev fsts (cs : List (Addr × Ky)) : List Value := cs.map fun c => Value.float c.2.x c.2.t
theorem Cells.tups {h : Heap} : ∀ {cs : List (Addr × Ky)}, (∀ c ∈ cs, TK h c.1 c.2) → KatTups h (refs cs) (fsts cs)
  | [], _ => trivial
  | c :: cs, hc => by
    obtain ⟨⟨to, te, n, ha⟩, _, _⟩ := hc c (.head _)
    exact KatTups.cons ha rfl rfl rfl (Cells.tups fun d hd => hc d (.tail _ hd))
section
variable {w : World} {A : Around} {E : Value → Shared → Prop} {s : Shared}
theorem kind_cells {prog : Program} {h : Heap} {cs : List (Addr × Ky)} {Q : SortKind → Shared → Prop} (hs : s.heap = h) (hc : ∀ c ∈ cs, TK h c.1 c.2) (h0 : 0 < cs.length) (hq : Q (tuples' true) s) :
    wpAny (model prog w) A (keyKind' (refs cs).toArray) Q E s := by
  subst hs
  refine kat_kind (T := .type "float") (Cells.tups hc) (by simpa using h0) (fun v hv => ?_) rfl hq
  obtain ⟨c, _, rfl⟩ := List.mem_map.mp hv
  exact Looks.now
theorem srt_tups {prog : Program} {a : Addr} {b : Bool} {cs : List (Addr × Ky)} {n : Nat} {P : PySem.Fin → Shared → Prop} (ho : s.heap.get? a = some (listOf (refs cs).toArray n)) (hc : Cells s.heap cs) (hS : NoShare s.heap)
    (h2 : 2 ≤ cs.length) (h64 : cs.length < 64) (hok : kok cs.length (fun p => p.toList.isPerm (List.range cs.length)) (kas_sort cs.length) = true)
    (h : ∀ h' cs' e, cs'.Perm cs → But a s.heap h' → h'.get? a = some (listOf (refs cs').toArray e) → P (.done (.ret .none)) { s with heap := h' }) :
    wpAny (model prog w) A (srtTree a b) P E s := by
  have hl : (refs cs).length = cs.length := by simp
  have ha : a < s.heap.objs.size := Heap.lt_size ho
  have s1 := Heap.SameBut.update s.heap a (Obj.mapSeq fun _ => (#[] : Array Value))
  obtain ⟨e1, ho1⟩ : ∃ e1, (s.heap.update a (Obj.mapSeq fun _ => (#[] : Array Value))).get? a = some (seqObj "list" #[] e1) := ⟨_, get?_update_seq ho fun _ => #[]⟩
  generalize hh3 : ((s.heap.update a (Obj.mapSeq fun _ => (#[] : Array Value))).push (seqObj "tuple" (refs cs).toArray 0)).push (seqObj "list" #[] 0) = h3
  have B3 : But a s.heap h3 := fun b' o e ne => by
    subst hh3
    exact Heap.get?_push_of_some _ (Heap.get?_push_of_some _ ((s1.2 b' ne).trans e))
  have ho3 : h3.get? a = some (seqObj "list" #[] e1) := by subst hh3; exact Heap.get?_push_of_some _ (Heap.get?_push_of_some _ ho1)
  have tk3 : ∀ c ∈ cs, TK h3 c.1 c.2 := fun c hm => (hc.tk c hm).but ho B3
  have hS3 : NoShare h3 := by
    obtain ⟨mc, ⟨o, es, ep, q0, q1, r⟩, q2⟩ := hS
    refine ⟨mc, ⟨o, es, ep, B3 _ _ q0 fun e => ?_, q1, r⟩, q2⟩
    rw [e, ho] at q0
    injection q0 with q0
    rw [← q0] at q1
    cases q1
  unfold srtTree
  refine wpAny_bind (listItems_at ho rfl ?_)
  refine wpAny_bind (listUpdate_at ho rfl ?_ (by rw [List.size_toArray, sizeLine_eq]; omega) (Nat.zero_le _))
  refine wpAny_bind (seqEpoch_at ho1 rfl ?_)
  refine wpAny_bind (wpAny_newTuple ?_ (by show (refs cs).length ≤ _; rw [sizeLine_eq]; omega))
  refine wpAny_bind (wpAny_newList ?_ (Nat.zero_le _))
  refine wpAny_holding ?_
  show wpAny (model prog w) A _ P E { s with heap := ((s.heap.update a (Obj.mapSeq fun _ => (#[] : Array Value))).push (seqObj "tuple" (refs cs).toArray 0)).push (seqObj "list" #[] 0) }
  rw [hh3]
  have step : ∀ t : Sem PySem.Fin, wpAny (model prog w) A t P E { s with heap := h3 } → wpAny (model prog w) A (if b = true then (do let _ ← rule "list.sort.reverse"; t) else t) P E { s with heap := h3 } := by
    intro t ht
    split
    · exact wpAny_bind (wpAny_rule ht)
    · exact ht
  dsimp only
  refine step _ ?_
  have hn2 : ¬ (refs cs).toArray.size < 2 := by rw [List.size_toArray, hl]; omega
  rw [if_neg hn2, if_neg hn2]
  refine wpAny_bind (kind_cells (h := h3) rfl tk3 (by omega) ?_)
  rw [kat_pairs b rfl]
  have hrl : (katRev b (refs cs)).length = cs.length := by rw [kat_len, hl]
  have hask : ∀ i j C, i < cs.length → j < cs.length → i ≠ j → (∀ b, C b { s with heap := h3 }) → kas_ask prog w A (tuples' true) (katRev b (refs cs)) i j C { s with heap := h3 } := by
    intro i j C hi hj hij hC
    have get : ∀ i, i < cs.length → ∃ i', ∃ hi' : i' < cs.length, (katRev b (refs cs)).getD i Value.none = .ref (cs[i']).1 ∧ i' = if b = true then cs.length - 1 - i else i := by
      intro i hi
      cases b with
      | false => exact ⟨i, hi, by simp [katRev, hi], by simp⟩
      | true => exact ⟨cs.length - 1 - i, by omega, by simp [katRev, hi], by simp⟩
    obtain ⟨i', hi', e1, e2⟩ := get i hi
    obtain ⟨j', hj', e3, e4⟩ := get j hj
    unfold kas_ask
    rw [e1, e3]
    refine keyLt_tup (tk3 _ (List.getElem_mem hi')) (tk3 _ (List.getElem_mem hj')) (hc.dis _ _ hi' hj' ?_) hS3 hC
    rw [e2, e4]
    split <;> omega
  refine wpAny_bind (wpAny_mono (kat_run (Q := fun st' s' => ∃ p : Array Nat, p.size = cs.length ∧ arrOf st' = p.map (kas_item ((List.toArray (katRev b (refs cs))).zip (List.toArray (katRev b (refs cs))))) ∧ failedOf st' = none ∧ p.toList.isPerm (List.range cs.length) = true ∧ s' = { s with heap := h3 })
    (G := fun p s' => p.toList.isPerm (List.range cs.length) = true ∧ s' = { s with heap := h3 }) rfl (by rw [hrl]; exact h2) (by rw [hrl]; exact h64) (fun p' st' s' a1 a2 a3 a4 => ⟨p', a1.trans hrl, a2, a3, a4.1, a4.2⟩) (by rw [hrl]; exact kok_wp hask (fun p hp => ⟨hp, rfl⟩) _ hok)) ?_ fun _ _ e => e)
  rintro ⟨⟨⟩, st'⟩ s' ⟨p, hp, har, hf, hperm, rfl⟩
  dsimp only
  have hout := kat_snds rfl har
  rw [hout, kat_outs]
  have hPerm : (katRev b (p.toList.map fun i => (katRev b (refs cs)).getD i Value.none)).Perm (refs cs) := by
    refine (katRev_perm b _).trans (((List.isPerm_iff.mp hperm).map _).trans ?_)
    rw [← hrl, map_getD_range]
    exact katRev_perm b _
  obtain ⟨cs', hcs, ecs⟩ := perm_map_ex hPerm cs rfl
  rw [ecs]
  have hsz : (refs cs').toArray.size = cs.length := by rw [List.size_toArray, List.length_map, hcs.length_eq]
  have s2 := Heap.SameBut.update h3 a (Obj.mapSeq fun _ => (refs cs').toArray)
  obtain ⟨c2, hc2⟩ : ∃ c2, (h3.update a (Obj.mapSeq fun _ => (refs cs').toArray)).get? a = some (seqObj "list" (refs cs').toArray c2) := ⟨_, get?_update_seq ho3 fun _ => (refs cs').toArray⟩
  refine wpAny_bind (seqEpoch_at ho3 rfl ?_)
  refine wpAny_bind (listUpdate_at ho3 rfl ?_ (Nat.zero_le _) (Nat.le_trans (Nat.le_of_eq hsz) (by rw [sizeLine_eq]; omega)))
  rw [hf]
  simp only [bne_self_eq_false, Bool.false_eq_true, if_false]
  exact wpAny_pure (h _ cs' c2 hcs (fun b' o e ne => (s2.2 b' ne).trans (B3 b' o e ne)) hc2)
end
end Mine
namespace Mine
theorem args_sort_rev (a : Value) : argsOk "list.sort" ⟨[a], [(Str.ofString "reverse", .bool true)]⟩ := by unfold argsOk; kernel_rfl
abbrev Cel.k (c : Cel) : Addr × Ky := (c.1, c.2.2)
section
variable {prog : Program} {w : World} {A : Around} {E : Value → Shared → Prop} {s : Shared} {g : Heap} {L hp : Addr} {m : Str → Option Value} {rest : List (Addr × Obj)} {nn : Nat}
theorem srt_led {b : Bool} {cs : List Cel} {P : PySem.Fin → Shared → Prop} (hS : NoShare g) (F : Fr g L s.heap m) (N : News g L s.heap ((hp, listOf (cs.map fun c => Value.ref c.1).toArray nn) :: (cs.map Cel.c ++ rest))) (hne : ∀ q ∈ cs.map Cel.c ++ rest, q.1 ≠ hp)
    (hK : ∀ c ∈ cs, KO c.2.1 c.2.2) (hD : cs.Pairwise fun c d => Dis c.2.2 d.2.2)
    (h2 : 2 ≤ cs.length) (h64 : cs.length < 64) (hok : kok cs.length (fun p => p.toList.isPerm (List.range cs.length)) (kas_sort cs.length) = true)
    (h : ∀ h' nn' (ds : List Cel), ds.Perm cs → Fr g L h' m → News g L h' ((hp, listOf (ds.map fun c => Value.ref c.1).toArray nn') :: (ds.map Cel.c ++ rest)) → P (.done (.ret .none)) { s with heap := h' }) :
    wpAny (model prog w) A (srtTree hp b) P E s := by
  have er : ∀ cs : List Cel, refs (cs.map Cel.k) = cs.map fun c => Value.ref c.1 := fun cs => by simp [refs]
  have hlen : (cs.map Cel.k).length = cs.length := List.length_map _
  refine srt_tups (cs := cs.map Cel.k) (n := nn) (by rw [er]; exact N.get (.head _)) ⟨fun c hc => ?_, fun i j hi hj hij => ?_⟩ (hS.keeps F.keep) (by rw [hlen]; exact h2) (by rw [hlen]; exact h64) (by rw [hlen]; exact hok) fun h' cs' e hp' hb hq => ?_
  · obtain ⟨d, hd, rfl⟩ := List.mem_map.mp hc
    exact (hK d hd).tk N (.tail _ (List.mem_append_left _ (List.mem_map.mpr ⟨d, hd, rfl⟩)))
  · have hi' : i < cs.length := hlen ▸ hi
    have hj' : j < cs.length := hlen ▸ hj
    rw [List.getElem_map, List.getElem_map]
    rcases Nat.lt_or_gt_of_ne hij with l | l
    · exact List.pairwise_iff_getElem.mp hD i j hi' hj' l
    · exact (List.pairwise_iff_getElem.mp hD j i hj' hi' l).symm
  · obtain ⟨ds, hds, rfl⟩ := perm_map_ex hp' cs rfl
    rw [er] at hq
    obtain ⟨F', N'⟩ := news_put (cs' := ds.map Cel.c) F N hb hq hne fun q hq => (hds.map Cel.c).mem_iff.mp hq
    exact h h' e ds hds F' N'
theorem srt_bwd_K {cs : List Cel} {its : Array Value} {cells : List (Addr × Obj)} {pos kp : Pos} {e : Expr} {env : Env} {Q : Value → Shared → Prop} (ei : its = (cs.map fun c => Value.ref c.1).toArray) (ec : cells = cs.map Cel.c) (hS : NoShare g) (F : Fr g L s.heap m) (N : News g L s.heap ((hp, listOf its nn) :: (cells ++ rest))) (hne : ∀ q ∈ cells ++ rest, q.1 ≠ hp)
    (hK : ∀ c ∈ cs, KO c.2.1 c.2.2) (hD : cs.Pairwise fun c d => Dis c.2.2 d.2.2)
    (h2 : 2 ≤ cs.length) (h64 : cs.length < 64) (hok : kok cs.length (fun p => p.toList.isPerm (List.range cs.length)) (kas_sort cs.length) = true)
    (hv : ∀ Q' : Value → Shared → Prop, Q' (.bool true) s → wpAny (model prog w) A (eval e env) Q' E s)
    (h : ∀ h' nn' (ds : List Cel), ds.Perm cs → Fr g L h' m → News g L h' ((hp, listOf (ds.map fun c => Value.ref c.1).toArray nn') :: (ds.map Cel.c ++ rest)) → Q .none { s with heap := h' }) :
    wpAny (model prog w) A (callWith pos (.builtin "list.sort") [.ref hp] (backTo pos (starEach [] env)) (backToKw pos (keywordEach [⟨some (Str.ofString "reverse"), e, kp⟩] env))) Q E s := by
  subst ei ec
  refine callWith_builtin_kwB rfl rfl ?_
  refine evalArgs_kw2_nil rfl ?_
  refine kws_cons (hv _ (kws_nil ?_))
  show wpAny _ _ (call (.builtin "list.sort") [.ref hp] [(Str.ofString "reverse", .bool true)]) Q E s
  refine wpAny_call_entry_kw slot_list_sort ⟨_, N.get (.head _), rfl⟩ entry_list_sort ?_ (args_sort_rev _)
  rw [srt_bwd]
  exact srt_led hS F N hne hK hD h2 h64 hok fun h' nn' ds hp F' N' => ⟨_, rfl, h h' nn' ds hp F' N'⟩
theorem srt_fwd_K {cs : List Cel} {its : Array Value} {cells : List (Addr × Obj)} {Q : Value → Shared → Prop} (ei : its = (cs.map fun c => Value.ref c.1).toArray) (ec : cells = cs.map Cel.c) (hS : NoShare g) (F : Fr g L s.heap m) (N : News g L s.heap ((hp, listOf its nn) :: (cells ++ rest))) (hne : ∀ q ∈ cells ++ rest, q.1 ≠ hp)
    (hK : ∀ c ∈ cs, KO c.2.1 c.2.2) (hD : cs.Pairwise fun c d => Dis c.2.2 d.2.2)
    (h2 : 2 ≤ cs.length) (h64 : cs.length < 64) (hok : kok cs.length (fun p => p.toList.isPerm (List.range cs.length)) (kas_sort cs.length) = true)
    (h : ∀ h' nn' (ds : List Cel), ds.Perm cs → Fr g L h' m → News g L h' ((hp, listOf (ds.map fun c => Value.ref c.1).toArray nn') :: (ds.map Cel.c ++ rest)) → Q .none { s with heap := h' }) :
    wpAny (model prog w) A (call (.builtin "list.sort") [.ref hp]) Q E s := by
  subst ei ec
  refine wpAny_call_entry slot_list_sort ⟨_, N.get (.head _), rfl⟩ entry_list_sort ?_ (args_list_sort _)
  rw [srt_fwd]
  exact srt_led hS F N hne hK hD h2 h64 hok fun h' nn' ds hp F' N' => ⟨_, rfl, h h' nn' ds hp F' N'⟩
end
end Mine
end

section
open PySem PySem.W PySem.Spec PySem.Calls PyProof.Rows
set_option maxRecDepth 100000
namespace Mine
/-- a tuple cell, all told -/
structure T3 where
  a : Addr
  k : Ky
  u : Tok
  w : Tok
  n : Nat
abbrev T3.c (c : T3) : Addr × Obj := (c.a, tupK c.k c.u c.w c.n)
abbrev T3.v (c : T3) : Value := .int c.k.e c.w
theorem KO.t3 {c : Cel} (h : KO c.2.1 c.2.2) : ∃ t : T3, t.c = c.c ∧ t.k = c.2.2 := by
  obtain ⟨a, o, k⟩ := c
  obtain ⟨⟨u, w, n, e⟩, _, _⟩ := h
  exact ⟨⟨a, k, u, w, n⟩, congrArg (Prod.mk a) e.symm, rfl⟩
theorem lc_size {l : List T3} (h : l.length < 64) : (l.map T3.v).toArray.size ≤ sizeLine := by rw [List.size_toArray, sizeLine_eq, List.length_map]; omega
section
variable {prog : Program} {w : World} {A : Around} {E : Value → Shared → Prop} {s : Shared} {g2 : Heap} {C : Addr}
theorem lc_loop {env : Env} {scope : Scope} {cl : List (Str × Addr)} {a b c : Str} {pa pb pc pe tp pos : Pos} {kk : Nat} {iter : Expr} {R : Result → Shared → Prop} {D I hp : Addr} {all : List T3} {nn : Nat} {rest : List (Addr × Obj)}
    (hh : A.handled = none) (hkd : scope.kind = .function) (ka : (compEnvC scope cl C env).kindOf a = some .local) (kb : (compEnvC scope cl C env).kindOf b = some .local) (kc : (compEnvC scope cl C env).kindOf c = some .local) (hdb : (c == Str.ofString "__debug__") = false)
    (h1 : I ≠ D) (h2 : hp ≠ D) (h3 : hp ≠ I) (h4 : ∀ q ∈ all.map T3.c ++ rest, q.1 ≠ D ∧ q.1 ≠ I) (h64 : all.length < 64)
    (fin : ∀ h' tk' mC' n', Fr g2 C h' mC' → News g2 C h' ((D, lsto (all.map T3.v) n') :: (hp, listOf (all.map fun c => Value.ref c.a).toArray nn) :: (all.map T3.c ++ rest)) → R (.ok .next) { s with heap := h', toks := tk' }) :
    ∀ (todo done : List T3) (h : Heap) (tk n : Nat) (mC : Str → Option Value) (oI : Obj), all = done ++ todo → oI.cls = .type "list_iterator" → oI.data = .fields #[.ref hp, .int done.length 0] → Fr g2 C h mC →
      News g2 C h ((D, lsto (done.map T3.v) n) :: (I, oI) :: (hp, listOf (all.map fun c => Value.ref c.a).toArray nn) :: (all.map T3.c ++ rest)) →
      codeAny (model prog w) A (.compLoop (.ListComp (.Name c pe) [⟨.Tuple [.Name a pa, .Name b pb, .Name c pc] kk tp, iter, [], 0⟩] scope pos) 0 (.ref I) (.ref D) (compEnvC scope cl C env)) R { s with heap := h, toks := tk }
  | [], done, h, tk, n, mC, oI, e, hc, hd, F, N => by
    rw [List.append_nil] at e
    subst e
    refine comp_unroll (wpAny_pyNext_list_end hh ⟨oI, N.get (.tail _ (.head _)), hc, hd⟩ ⟨_, N.get (.tail _ (.tail _ (.head _))), rfl, _, rfl⟩ (by simp) fun h' he => ?_)
    dsimp only
    have nI := N (I, oI) (.tail _ (.head _))
    have kp : ∀ b o, b ∉ [I] → h.get? b = some o → h'.get? b = some o := fun b o hb e => he b o (by simpa using hb) e
    refine fin h' tk mC n (fr_chg F [I] (fun c hc => by simp only [List.mem_singleton] at hc; subst hc; exact ⟨nI.2.2, nI.2.1⟩) kp) fun p hp' => ?_
    rcases List.mem_cons.mp hp' with rfl | hp'
    · have z := N _ (.head _); exact ⟨he _ _ h1.symm z.1, z.2⟩
    · rcases List.mem_cons.mp hp' with rfl | hp'
      · have z := N _ (.tail _ (.tail _ (.head _))); exact ⟨he _ _ h3 z.1, z.2⟩
      · have z := N _ (.tail _ (.tail _ (.tail _ hp'))); exact ⟨he _ _ (h4 p hp').2 z.1, z.2⟩
  | t :: todo, done, h, tk, n, mC, oI, e, hc, hd, F, N => by
    have hx : ((all.map fun c => Value.ref c.a).toArray)[done.length]? = some (.ref t.a) := by subst e; simp
    refine comp_unroll (wpAny_pyNext_list_item ⟨oI, N.get (.tail _ (.head _)), hc, hd⟩ ⟨_, N.get (.tail _ (.tail _ (.head _))), rfl, _, rfl⟩ hx fun h' hit hs => ?_)
    dsimp only
    obtain ⟨oI', hI', hc', hd'⟩ := id hit
    obtain ⟨F1, N1⟩ := led_set (pre := [_]) F N (fun b x e ne => hs.extBut _ _ ne e) hI' (fun q hq => by simp only [List.mem_singleton] at hq; subst hq; exact h1.symm) (fun q hq => by
      rcases List.mem_cons.mp hq with rfl | hq
      · exact h3
      · exact (h4 q hq).2)
    refine wpAny_letOwnedTupleGo_listiter hit ?_
    have hm : t.c ∈ all.map T3.c := List.mem_map_of_mem (by rw [e]; simp)
    refine assign3_K (k := t.k) (u := t.u) (w' := t.w) (n := t.n) hh F1 N1 (.tail _ (.tail _ (.tail _ (List.mem_append_left _ hm)))) rfl ka kb kc (by show (scope.kind == .class || (scope.kind == .module && _)) = false; rw [hkd]; rfl) fun h2' tk2 F2 N2 => ?_
    refine wpAny_Name (wpAny_loadName_local (v := t.v) hkd kc F2.ns (if_pos rfl) ?_) (hd := hdb)
    refine append_at (N2.get (.head _)) (fun h6 s6 d6 => ?_) (lc_size (by rw [e] at h64; simp at h64; omega))
    obtain ⟨F3, N3⟩ := led_set (pre := []) F2 N2 (fun b x e ne => s6.extBut _ _ ne e) d6 (fun q hq => by cases hq) (fun q hq => by
      rcases List.mem_cons.mp hq with rfl | hq
      · exact h1
      · rcases List.mem_cons.mp hq with rfl | hq
        · exact h2
        · exact (h4 q hq).1)
    refine lc_loop hh hkd ka kb kc hdb h1 h2 h3 h4 h64 fin todo (done ++ [t]) h6 tk2 (n + 1) _ oI' (by rw [e]; simp) hc' (by rw [hd']; simp) F3 ?_
    have ev : lsto ((done ++ [t]).map T3.v) (n + 1) = { cls := .type "list", data := .seq ((done.map T3.v).toArray.push t.v) (n + 1) } := by simp [lsto]
    rw [ev]
    exact N3
end
end Mine
namespace Mine
section
variable {prog : Program} {w : World} {A : Around} {E : Value → Shared → Prop} {s : Shared} {g : Heap} {L : Addr} {m : Str → Option Value}
theorem lc_K {env : Env} {scope : Scope} {cl : List (Str × Addr)} {a b c : Str} {pa pb pc pe tp pos : Pos} {kk : Nat} {iter : Expr} {Q : Value → Shared → Prop} {hp : Addr} {all : List T3} {nn : Nat} {rest : List (Addr × Obj)}
    (hh : A.handled = none) (F : Fr g L s.heap m) (N : News g L s.heap ((hp, listOf (all.map fun c => Value.ref c.a).toArray nn) :: (all.map T3.c ++ rest))) (h64 : all.length < 64)
    (hclos : closureFor scope env = pure cl) (hcell : ∀ y ∈ scope.names, y.2 ≠ .cell) (hkind : scope.kind = .function)
    (hnames : ∀ y ∈ scope.names, y.2 = .local → scope.names.lookup y.1 = some .local) (hs : ∀ x, foldedSetIterable iter env x = pure x)
    (ka : ∀ C, (compEnvC scope cl C env).kindOf a = some .local) (kb : ∀ C, (compEnvC scope cl C env).kindOf b = some .local) (kc : ∀ C, (compEnvC scope cl C env).kindOf c = some .local) (hdb : (c == Str.ofString "__debug__") = false)
    (hiter : ∀ Q' : Value → Shared → Prop, Q' (.ref hp) s → wpAny (model prog w) A (eval iter env) Q' E s)
    (h : ∀ h' tk' D n', Fr g L h' m → News g L h' ((D, lsto (all.map T3.v) n') :: (hp, listOf (all.map fun c => Value.ref c.a).toArray nn) :: (all.map T3.c ++ rest)) → Q (.ref D) { s with heap := h', toks := tk' }) :
    wpAny (model prog w) A (eval (.ListComp (.Name c pe) [⟨.Tuple [.Name a pa, .Name b pb, .Name c pc] kk tp, iter, [], 0⟩] scope pos) env) Q E s := by
  refine comp_enterF F hclos hcell hkind hnames hs (hiter _ (wpAny_pyIter_list ⟨_, N.get (.head _), rfl, _, rfl⟩ ?_))
  refine ⟨(s.heap.objs.size, { cls := .type "list_iterator", data := .fields #[.ref hp, .int 0 0] }) :: (hp, listOf (all.map fun c => Value.ref c.a).toArray nn) :: (all.map T3.c ++ rest), F.push _, fun p hp' => ?_, ?_⟩
  · rcases List.mem_cons.mp hp' with rfl | hp'
    · exact ⟨Heap.get?_push_size _ rfl, Nat.ne_of_gt F.ns.lt, Heap.get?_none_of_le (Nat.le_trans F.above (Nat.le_of_lt F.ns.lt))⟩
    · have z := N p hp'; exact ⟨Heap.get?_push_of_some _ z.1, z.2⟩
  · intro g2 C D h₁ tk kg ks F2 N2 hlt
    have ne : ∀ q ∈ (hp, listOf (all.map fun c => Value.ref c.a).toArray nn) :: (all.map T3.c ++ rest), q.1 ≠ s.heap.objs.size := fun q hq => Nat.ne_of_lt (Heap.lt_size (N q hq).1)
    refine ⟨fun Q' hq => wpAny_pyIter_listiter (i := 0) ⟨_, N2.get (.tail _ (.head _)), rfl, rfl⟩ hq, ?_⟩
    refine lc_loop (s := { s with heap := s.heap.push { cls := .type "list_iterator", data := .fields #[.ref hp, .int 0 0] } }) (all := all) (nn := nn) (rest := rest) hh hkind (ka C) (kb C) (kc C) hdb (Nat.ne_of_lt (hlt _ (.head _))) (Nat.ne_of_lt (hlt _ (.tail _ (.head _)))) (ne _ (.head _)) (fun q hq => ⟨Nat.ne_of_lt (hlt _ (.tail _ (.tail _ hq))), ne _ (.tail _ hq)⟩) h64 ?_ all [] h₁ tk 0 (fun _ => none) _ rfl rfl rfl F2 N2
    intro h' tk' mC' n' F' N'
    exact ⟨rfl, mC', _, _, F', N', fun h2 F2' N2' => h h2 tk' D n' F2' N2'⟩
end
end Mine
namespace Mine
abbrev T3.l (c : T3) : Cel := (c.a, tupK c.k c.u c.w c.n, c.k)
theorem t3_perm {all : List T3} {ds : List Cel} (h : ds.Perm (all.map T3.l)) : ∃ ts : List T3, ds = ts.map T3.l ∧ ts.Perm all := by
  obtain ⟨ts, h1, h2⟩ := perm_map_ex h all rfl
  exact ⟨ts, h2, h1⟩
theorem t3_refs (ts : List T3) : ((ts.map T3.l).map fun c => Value.ref c.1) = ts.map fun c => Value.ref c.a := by rw [List.map_map]; rfl
theorem t3_cels (ts : List T3) : (ts.map T3.l).map Cel.c = ts.map T3.c := by rw [List.map_map]; rfl
end Mine
end

section
open PySem PySem.W PySem.Spec PySem.Calls PyProof.Rows
set_option maxRecDepth 100000
namespace Mine
section
variable {prog : Program} {w : World} {A : Around} {E : Value → Shared → Prop} {s : Shared} {env : Env} {g : Heap} {L : Addr} {m : Str → Option Value} {news : List (Addr × Obj)}
theorem tup_K {D T : Addr} {k : Ky} {u w' : Tok} {n nD : Nat} {its : List Value} {a b c r : Str} {pa pb pc pr p0 ps tp spos : Pos} {kk k0 : Nat} {Q : Flow → Shared → Prop}
    (hh : A.handled = none) (F : Fr g L s.heap m) (N : News g L s.heap news) (hD : (D, lsto (.ref T :: its) nD) ∈ news) (hm : (T, tupK k u w' n) ∈ news) (hL : env.locals = L) (hk : env.scope.kind = .function)
    (kr : env.kindOf r = some .local) (hr : m r = some (.ref D)) (hb : (r == Str.ofString "__debug__") = false) (ka : env.kindOf a = some .local) (kb : env.kindOf b = some .local) (kc : env.kindOf c = some .local)
    (h : ∀ h' tk, Fr g L h' (fun y => if y = c then some (.int k.e w') else if y = b then some (.int k.o u) else if y = a then some (.float k.x k.t) else m y) → News g L h' news → Q .next { s with heap := h', toks := tk })
    (hs : swapsWithSole [.Tuple [.Name a pa, .Name b pb, .Name c pc] kk tp] (.Subscript (.Name r pr) (.Constant (.int 0) k0 p0) ps) spos.line env = pure false := by rfl)
    (hw : swappedStores [.Tuple [.Name a pa, .Name b pb, .Name c pc] kk tp] (.Subscript (.Name r pr) (.Constant (.int 0) k0 p0) ps) env = pure none := by rfl) :
    wpAny (model prog w) A (exec (.Assign [.Tuple [.Name a pa, .Name b pb, .Name c pc] kk tp] (.Subscript (.Name r pr) (.Constant (.int 0) k0 p0) ps) spos) env) Q E s := by
  refine Assign_Tuple (hs := hs) (hw := hw) (Subscript_ ?_)
  have hl : s.heap.IsList D (.ref T :: its).toArray := ⟨_, N.get hD, rfl, _, rfl⟩
  refine wpAny_Name (wpAny_loadName_local hk kr (hL ▸ F.ns) hr ?_) hb
  refine wpAny_Constant_int ?_
  refine tail_any (s := { s with toks := s.toks + 1 }) hl.typeIs slot_list_getitem.lookup (wpAny_getItem_list (s := { s with toks := s.toks + 1 }) hl (by decide) (by decide) (x := .ref T) (by simp) ?_) (by with_unfolding_all rfl)
  have hp : (env.scope.kind == .class || (env.scope.kind == .module && env.locals != env.globals)) = false := by rw [hk]; rfl
  exact assign3_K hh F N hm hL ka kb kc hp fun h' tk F' N' => h h' tk F' N'
theorem aug_sub_K {o : Str} {po pc pos : Pos} {kk : Nat} {i j : Int} {t : Tok} {Q : Flow → Shared → Prop} (F : Fr g L s.heap m) (N : News g L s.heap news) (hL : env.locals = L) (hk : env.scope.kind = .function) (ko : env.kindOf o = some .local) (ho : m o = some (.int i t))
    (h : ∀ h' tk t', Fr g L h' (fun y => if y = o then some (.int (i - j) t') else m y) → News g L h' news → Q .next { s with heap := h', toks := tk }) :
    wpAny (model prog w) A (exec (.AugAssign (.Name o po) .Sub (.Constant (.int j) kk pc) pos) env) Q E s := by
  have hp : (env.scope.kind == .class || (env.scope.kind == .module && env.locals != env.globals)) = false := by rw [hk]; rfl
  refine wpAny_AugAssign_Name (wpAny_loadName_local hk ko (hL ▸ F.ns) ho (wpAny_Constant_int (isub_int ?_)))
  refine wpAny_storeName_local ko (hL ▸ F.ns) (fun h' hn hs => ?_) hp
  subst hL
  exact h h' _ _ (F.set hn hs) (N.set hs)
theorem aug_add_K {o : Str} {po pc pos : Pos} {kk : Nat} {i j : Int} {t : Tok} {Q : Flow → Shared → Prop} (F : Fr g L s.heap m) (N : News g L s.heap news) (hL : env.locals = L) (hk : env.scope.kind = .function) (ko : env.kindOf o = some .local) (ho : m o = some (.int i t))
    (h : ∀ h' tk t', Fr g L h' (fun y => if y = o then some (.int (i + j) t') else m y) → News g L h' news → Q .next { s with heap := h', toks := tk }) :
    wpAny (model prog w) A (exec (.AugAssign (.Name o po) .Add (.Constant (.int j) kk pc) pos) env) Q E s := by
  have hp : (env.scope.kind == .class || (env.scope.kind == .module && env.locals != env.globals)) = false := by rw [hk]; rfl
  refine wpAny_AugAssign_Name (wpAny_loadName_local hk ko (hL ▸ F.ns) ho (wpAny_Constant_int (iadd_int ?_)))
  refine wpAny_storeName_local ko (hL ▸ F.ns) (fun h' hn hs => ?_) hp
  subst hL
  exact h h' _ _ (F.set hn hs) (N.set hs)
end
end Mine
end

section
open PySem PySem.W PySem.Spec PySem.Calls PyProof.Rows
set_option maxRecDepth 100000
namespace Mine
def Ky.neg (k : Ky) : Ky := ⟨k.x, k.t, -k.v, -k.o, k.e⟩
theorem Ky.neg_lt (a b : Ky) : a.neg.lt b.neg = b.lt a := by
  rw [Bool.eq_iff_iff, Ky.lt_iff, Ky.lt_iff]
  show (-a.v < -b.v ∨ -a.v = -b.v ∧ -a.o < -b.o) ↔ _
  omega
/-- the same, for nsmallest: all signs turned -/
def InvS (x : Int → UInt64) (t : Int → Tok) (v : Int → Int) (e o : Int) (ks : List Ky) : Prop := Inv x t (fun i => - v i) e (-o) (ks.map Ky.neg)
section
variable {x : Int → UInt64} {t : Int → Tok} {v : Int → Int} {e o : Int} {k0 : Ky} {ks ks' : List Ky}
theorem InvS.is (I : InvS x t v e o ks) : ∀ k ∈ ks, k.x = x k.e ∧ k.t = t k.e ∧ k.v = v k.e ∧ 0 ≤ k.e ∧ k.e < e ∧ k.o < o := fun k hk => by
  obtain ⟨a, b, c, d, f, g⟩ := Inv.is I k.neg (List.mem_map_of_mem hk)
  have c' : -k.v = -v k.e := c
  have g' : -o < -k.o := g
  exact ⟨a, b, by omega, d, f, by omega⟩
theorem InvS.perm (I : InvS x t v e o ks) (p : ks'.Perm ks) : InvS x t v e o ks' := Inv.perm I (p.map _)
theorem InvS.skip (I : InvS x t v e o (k0 :: ks)) (hm : ∀ k ∈ ks, k0.lt k = false) (h : ¬ v e < k0.v) : InvS x t v (e + 1) o (k0 :: ks) :=
  Inv.skip (k0 := k0.neg) (ks := ks.map Ky.neg) I (fun k hk => by
    obtain ⟨k', hk', rfl⟩ := List.mem_map.mp hk
    rw [Ky.neg_lt]; exact hm k' hk') (by show ¬ (-k0.v < -v e); omega)
theorem InvS.put (I : InvS x t v e o (k0 :: ks)) (hm : ∀ k ∈ ks, k0.lt k = false) (h : v e < k0.v) (he : 0 ≤ e) : InvS x t v (e + 1) (o + 1) (⟨x e, t e, v e, o, e⟩ :: ks) := by
  have := Inv.put (k0 := k0.neg) (ks := ks.map Ky.neg) I (fun k hk => by
    obtain ⟨k', hk', rfl⟩ := List.mem_map.mp hk
    rw [Ky.neg_lt]; exact hm k' hk') (by show -k0.v < -v e; omega) he
  have eo : -(o + 1) = -o - 1 := by omega
  unfold InvS
  rw [eo]
  exact this
theorem InvS.dis (I : InvS x t v e o ks) (he : e ≤ 6) (hd : ∀ i j, 0 ≤ i → i < 6 → 0 ≤ j → j < 6 → t i = t j → v i = v j) : ks.Pairwise Dis := by
  have h := Inv.dis I he (fun i j a b c d f => by have := hd i j a b c d f; omega)
  rw [List.pairwise_map] at h
  refine h.imp fun {a b} q => ⟨fun r => ?_, fun r => q.2 ?_⟩
  · have := q.1 r
    have q2 : -a.v = -b.v := this
    omega
  · show -a.o = -b.o; omega
theorem InvS.picked (I : InvS x t v 6 o ks) : Picked (fun i => - v i) (ks.map (·.e)) := by
  have := Inv.picked I
  rw [List.map_map] at this
  exact this
end
theorem inv_start3 {x : Int → UInt64} {t : Int → Tok} {v : Int → Int} : Inv x t v 3 (-3) [⟨x 0, t 0, v 0, 0, 0⟩, ⟨x 1, t 1, v 1, -1, 1⟩, ⟨x 2, t 2, v 2, -2, 2⟩] := by
  refine ⟨fun k hk => ?_, by simp, fun j h0 h1 hn => ?_⟩
  · simp only [List.mem_cons, List.not_mem_nil, or_false] at hk
    rcases hk with rfl | rfl | rfl <;> simp
  · exfalso
    have a := hn _ (.head _)
    have b := hn _ (.tail _ (.head _))
    have c := hn _ (.tail _ (.tail _ (.head _)))
    dsimp only at a b c
    omega
theorem inv_start2 {x : Int → UInt64} {t : Int → Tok} {v : Int → Int} : Inv x t v 2 (-2) [⟨x 0, t 0, v 0, 0, 0⟩, ⟨x 1, t 1, v 1, -1, 1⟩] := by
  refine ⟨fun k hk => ?_, by simp, fun j h0 h1 hn => ?_⟩
  · simp only [List.mem_cons, List.not_mem_nil, or_false] at hk
    rcases hk with rfl | rfl <;> simp
  · exfalso
    have a := hn _ (.head _)
    have b := hn _ (.tail _ (.head _))
    dsimp only at a b
    omega
theorem invS_start3 {x : Int → UInt64} {t : Int → Tok} {v : Int → Int} : InvS x t v 3 3 [⟨x 0, t 0, v 0, 0, 0⟩, ⟨x 1, t 1, v 1, 1, 1⟩, ⟨x 2, t 2, v 2, 2, 2⟩] := inv_start3 (v := fun i => - v i)
theorem invS_start2 {x : Int → UInt64} {t : Int → Tok} {v : Int → Int} : InvS x t v 2 2 [⟨x 0, t 0, v 0, 0, 0⟩, ⟨x 1, t 1, v 1, 1, 1⟩] := inv_start2 (v := fun i => - v i)
theorem t3_ints (ts : List T3) : IntsAre (ts.map T3.v) (ts.map fun c => c.k.e) := by
  induction ts with
  | nil => exact .nil
  | cons c r ih => exact .cons _ _ ih
theorem try_plain {prog : Program} {w : World} {A : Around} {E : Value → Shared → Prop} {s : Shared} {env : Env} {body orelse : List Stmt} {h₀ : ExceptHandler} {hs : List ExceptHandler} {pos : Pos} {Q : Flow → Shared → Prop}
    (h : wpAny (model prog w) A (execs body env) (fun f s₁ => match f with | .next => wpAny (model prog w) A (execs orelse env) Q E s₁ | f => Q f s₁) (fun _ _ => False) s) :
    wpAny (model prog w) A (exec (.Try body (h₀ :: hs) orelse [] pos) env) Q E s := wpAny_Try_except (wpAny_mono h (fun _ _ x => x) fun _ _ x => x.elim)
/-- what nlargest and nsmallest give -/
def PickR (s : Shared) (R : Result → Shared → Prop) (v : Int → Int) (k : Nat) : Prop :=
  ∀ h' tk' D n' (ys : List Value) (es : List Int), IntsAre ys es → es.length = k → Picked v es → Keeps s.heap h' → h'.get? D = some (lsto ys n') → s.heap.get? D = none → R (.ok (.ret (.ref D))) { s with heap := h', toks := tk' }
/-- what holds at each turn of the picking loop, three held -/
inductive LI3G (V : Int → Int → List Ky → Prop) (H : Ky → Ky → Bool) (g : Heap) (L D it cc : Addr) (oC : Obj) (s : Shared) (m₀ : Str → Option Value) (n : Nat) (s' : Shared) : Prop
  | mk (h : Heap) (tk : Nat) (e o : Int) (ot : Tok) (a0 a1 a2 : Addr) (k0 k1 k2 : Ky) (u0 w0 u1 w1 u2 w2 : Tok) (n0 n1 n2 : Nat) (y1 y2 y3 y4 : Option Value)
    (es : s' = { s with heap := h, toks := tk }) (en : n = (7 - e).toNat) (le3 : 3 ≤ e) (le6 : e ≤ 6) (F : Fr g L h (CM (some (.int o ot)) (some (.float k0.x k0.t)) y1 y2 y3 y4 m₀))
    (N : News g L h [(D, listOf #[.ref a0, .ref a1, .ref a2] 3), (a0, tupK k0 u0 w0 n0), (a1, tupK k1 u1 w1 n1), (a2, tupK k2 u2 w2 n2), (it, rit e (6 - e) 1), (cc, oC)])
    (I : V e o [k0, k1, k2]) (e1 : H k1 k0 = false) (e2 : H k2 k0 = false) (l0 : @LT.lt Nat _ D a0) (l1 : @LT.lt Nat _ D a1) (l2 : @LT.lt Nat _ D a2) : LI3G V H g L D it cc oC s m₀ n s'
inductive LI2G (V : Int → Int → List Ky → Prop) (H : Ky → Ky → Bool) (g : Heap) (L D it cc : Addr) (oC : Obj) (s : Shared) (m₀ : Str → Option Value) (n : Nat) (s' : Shared) : Prop
  | mk (h : Heap) (tk : Nat) (e o : Int) (ot : Tok) (a0 a1 : Addr) (k0 k1 : Ky) (u0 w0 u1 w1 : Tok) (n0 n1 : Nat) (y1 y2 y3 y4 : Option Value)
    (es : s' = { s with heap := h, toks := tk }) (en : n = (7 - e).toNat) (le3 : 2 ≤ e) (le6 : e ≤ 6) (F : Fr g L h (CM (some (.int o ot)) (some (.float k0.x k0.t)) y1 y2 y3 y4 m₀))
    (N : News g L h [(D, listOf #[.ref a0, .ref a1] 2), (a0, tupK k0 u0 w0 n0), (a1, tupK k1 u1 w1 n1), (it, rit e (6 - e) 1), (cc, oC)])
    (I : V e o [k0, k1]) (e1 : H k1 k0 = false) (l0 : @LT.lt Nat _ D a0) (l1 : @LT.lt Nat _ D a1) : LI2G V H g L D it cc oC s m₀ n s'
theorem for_LIG {prog : Program} {w : World} {A : Around} {s₁ : Shared} {R : Result → Shared → Prop} {target : Expr} {itv : Value} {body orelse : List Stmt} {env : Env} {h : Heap} {vo vt y1 y2 y3 y4 : Option Value} {m₀ : Str → Option Value}
    {g : Heap} {L : Addr} {n : Nat} (LI : (Str → Option Value) → Nat → Shared → Prop) (F : Fr g L h (CM vo vt y1 y2 y3 y4 m₀)) (init : LI m₀ n s₁)
    (turn : ∀ n s₂, LI m₀ n s₂ → wpAny (model prog w) A (pyNext itv) (fun r s₁ => match r with
      | none => wpAny (model prog w) A (execs orelse env) (fun f s₃ => R (.ok f) s₃) (fun _ _ => False) s₁
      | some v' => wpAny (model prog w) A (assign target env v') (fun _ s₂ => wpAny (model prog w) A (execs body env) (fun f s₃ => match f with
          | .next | .cont => Hold (∃ m, m < n ∧ LI m₀ m s₃)
          | .brk => R (.ok .next) s₃
          | .ret v => R (.ok (.ret v)) s₃) (fun _ _ => False) s₂) (fun _ _ => False) s₁) (fun _ _ => False) s₂)
    (ht : ∀ v, letOwnedTupleGo target itv v = pure () := by intro _; rfl) : codeAny (model prog w) A (.forLoop target itv body orelse env) R s₁ :=
  for_inv (LI m₀) turn n init ht
end Mine
end

section
open PySem PySem.W PySem.Spec PySem.Calls PyProof.Rows
set_option maxRecDepth 100000
namespace Mine
section
set_option maxHeartbeats 1000000 in
theorem nlargest2 {w : World} {A : Around} {s : Shared} {R : Result → Shared → Prop} {h₀ : Heap} {p : Program} {loose : List Str} {mean : ExcName → Option Value} {mg mb : Str → Option Value}
   {r fl : Addr} {tk t1 t2 t3 : Tok} {x : Int → UInt64} {t : Int → Tok} {v : Int → Int}
   (X : (Mine.hd.heap_39 w.params).In h₀) (T : Top p loose mean mg mb h₀) (hS : NoShare h₀) (hk : Keeps h₀ s.heap) (hroom : A.depth + 40 < recursionLimit) (hun : A.units + 150 < cLine) (hh : A.handled = none)
   (hr : IsRange s.heap r 0 6 1 t1 t2 t3) (hkey : KeyCall w s.heap fl x t) (hx : ∀ i, 0 ≤ i → i < 6 → IsI (x i) (v i)) (ht : ∀ i, 0 ≤ i → i < 6 → t i ≠ 0) (hd : ∀ i j, 0 ≤ i → i < 6 → 0 ≤ j → j < 6 → t i = t j → v i = v j)
   (hR : PickR s R v 2) :
   codeAny (model PySem.Challenge.rw_op0141_01.row.prog w) A (.call (.ref 110) ⟨[.int 2 tk, .ref r], [(Str.ofString "key", .ref fl)]⟩) R s := by
  k_with_none
  w_top off
  k_with "exec Try" => (k_here; (with_reducible show wpAny _ _ (exec (Stmt.Try _ _ _ _ _) _) _ _ _); (k_dflt (refine try_plain ?_)); walk_say "MINE try")
  k_with "call builtin:len" => (k_here; (with_reducible show wpAny _ _ (call (Value.builtin "len") [Value.ref _]) _ _ _); (k_dflt (refine' call_len_range (n := 6) ?zk1 ?zk2 ?zk3 ?_; (case zk1 => exact Fr.keep (by assumption) _ _ (by assumption)); (case zk2 => decide +kernel); (case zk3 => decide +kernel))); walk_say "MINE len")
  k_with "call builtin:iter" => (k_here; (with_reducible show wpAny _ _ (call (Value.builtin "iter") [Value.ref _]) _ _ _); (k_dflt (refine' iter_range_K ?zk1 ?zk2 ?zk3 ?_; (case zk1 => k_asm); (case zk2 => k_asm); (case zk3 => exact Fr.keep (by assumption) _ _ (by assumption)))); walk_at "M iter"; walk_say "MINE iter")
  k_with "exec Assign cons ListComp" => (k_here; (with_reducible show wpAny _ _ (exec (Stmt.Assign _ (Expr.ListComp _ _ _ _) _) _) _ _ _); refine Hold.out ?_; walk_say "MINE hold")
  k_with "call type:zip" => (k_here; (with_reducible show wpAny _ _ (call (Value.type "zip") _) _ _ _); (k_dflt (refine' zip_K (n := 2) ?zk1 ?zk2 ?zk3 ?zk4 ?zk5 ?zk6 ?_; (case zk1 => k_asm); (case zk2 => k_asm); (case zk3 => assumption); (case zk4 => decide +kernel); (case zk5 => decide +kernel); (case zk6 => k_mem))); walk_at "M zip"; walk_say "MINE zip")
  k_with "pyIter ref" => (k_here; (with_reducible show wpAny _ _ (pyIter (Value.ref _)) _ _ _); (k_dflt (refine' iter_zip_K ?zk1 ?zk2 ?_; (case zk1 => k_asm); (case zk2 => k_mem))); refine Hold.out ?_; walk_say "MINE iterzip")
  k_with "call ref" => (k_here; (with_reducible show wpAny _ _ (call (Value.ref 56) _) _ _ _); refine Hold.out ?_; walk_say "MINE hold heapify")
  k_with "call ref" => (k_here; (with_reducible show wpAny _ _ (call (Value.ref 49) _) _ _ _); refine Hold.out ?_; walk_say "MINE hold heapreplace")
  k_with "exec For Name Name cons nil" => (k_here; (with_reducible show wpAny _ _ (exec (Stmt.For _ _ _ _ _) _) _ _ _); (k_dflt (refine wpAny_For ?_)); walk_say "MINE for")
  k_with "pyIter ref" => (k_here; (with_reducible show wpAny _ _ (pyIter (Value.ref _)) (fun it s₂ => codeAny _ _ _ _ _) _ _); refine Hold.out ?_; walk_say "MINE hold for")
  k_with "callWith ref" => (k_here; (with_reducible show wpAny _ _ (callWith _ (Value.ref _) [] _ []) _ _ _); (k_dflt (refine' callKey ?zk0 ?zk1 ?zk2 ?zk3 ?zk4 ?zk5 ?zk6 ?zk7 ?_; (case zk0 => assumption); (case zk1 => k_asm); (case zk2 => k_asm); (case zk7 => exact fun Q' hq => wpAny_Name (wpAny_loadName_local rfl rfl (Fr.ns (by assumption)) (by with_unfolding_all rfl) hq)); (case zk3 => exact d5 (by assumption)); (case zk4 => exact u20 (by assumption)); (case zk5 => omega); (case zk6 => omega))); (intro _ _ _ _; walk_say "MINE key"))
  k_with "compareOp Lt float float" => (k_here; (with_reducible show wpAny _ _ (compareOp CmpOp.Lt (Value.float _ _) (Value.float _ _)) _ _ _); (refine' lt_fl ?zk1 ?zk2 ?_; (case zk1 => assumption); (case zk2 => assumption)); walk_say "MINE ltf")
  k_with "exec Assign" => (k_here; (with_reducible show wpAny _ _ (exec (Stmt.Assign [Expr.Tuple _ _ _] _ _) _) _ _ _); (refine Hold.out ?_); walk_say "MINE hold tuple")
  k_with "eval ListComp" => (k_here; (with_reducible show wpAny _ _ (eval (Expr.ListComp _ _ _ _) _) _ _ _); refine Hold.out ?_; walk_say "MINE hold lc")
  k_with "call builtin:list.sort" => (k_here; refine Hold.out ?_; walk_say "MINE hold sort")
  revert X; k_fill; intro X
  refine' enterC X T hk [] ?hh ?k6 ?k7 ?k8 ?k9 ?kB ?kD ?_ ?c2 ?c3 ?c4
  case hh => intro q hq; cases hq
  case k6 => k_is
  case k7 => k_is
  case k8 => omega
  case k9 => exact binds_K (fun a o e => hk _ _ (X a o e)) rfl (by k_is) rfl rfl rfl
  case kB => exact rfl
  case kD => decide +kernel
  case c2 => rfl
  case c3 => rfl
  case c4 => rfl
  intro g L' h₁ tk₁ cells hg hkg X' T' F' N' Y' hL
  k_cells Y'
  (try simp only [List.cons_append, List.nil_append] at N')
  have hg' : Keeps s.heap g := fun b o e => hg b o e (by intro q hq; cases hq)
  have hr' : IsRange g r 0 6 1 t1 t2 t3 := hg' _ _ hr
  have hkey' := hkey.keeps hg'
  have hS' := hS.keeps hkg
  clear hr hkey hg hL hS hk hkg
  (try dsimp only)
  k_steps
  refine Hold.intro ?_
  refine' comp_assign ?k1 ?k0 ?ks ?ky ?kp ?k2 ?k3 ?k4 ?k5 ?k6 ?_
  case k1 => k_asm
  case k0 => rfl
  case ks => with_unfolding_all rfl
  case ky => rfl
  case kp => rfl
  case k2 => rfl
  case k3 => decide
  case k4 => rfl
  case k5 => decide
  case k6 => (intro _; rfl)
  k_steps
  refine Hold.intro ?_
  refine ⟨_, by assumption, by assumption, ?_⟩
  intro g2 C D h2 tk2 gk gs F2 N2 lD
  refine ⟨fun Q' hq => wpAny_pyIter_zip (News.get N2 (.tail _ (.head _))) hq, ?_⟩
  have lz := ltN (lD _ (.head _))
  dsimp only at lz
  have hkey2 := hkey'.keeps gk
  refine nlc_turn (x := x) (t := t) (fl := fl) hh ?hd ?hu (by simp) rfl rfl rfl rfl rfl (List.Mem.head _) ?hoc hkey2 ⟨by omega, by omega, by omega, by omega, by omega, ?hr⟩ (by decide) (by decide) (by decide) (by decide) (x1' := -1) (l1' := 1) (x2' := 1) (l2' := 5) rfl rfl rfl rfl F2 N2 ?_
  case hd => exact d5 hroom
  case hu => exact u20 hun
  case hoc => assumption
  case hr => (intro q hq; simp only [List.mem_cons, List.not_mem_nil, or_false] at hq; rcases hq with rfl <;> (first | (left; omega) | (right; omega)))
  intro h3 tk3 mC3 T0 a0' b0' to0 te0 F3 N3 lT0
  refine nlc_turn (x := x) (t := t) (fl := fl) hh ?hd ?hu (by simp) rfl rfl rfl rfl rfl (List.Mem.tail _ (List.Mem.head _)) ?hoc hkey2 ⟨by omega, by omega, by omega, by omega, by omega, ?hr⟩ (by decide) (by decide) (by decide) (by decide) (x1' := -2) (l1' := 0) (x2' := 2) (l2' := 4) rfl rfl rfl rfl F3 N3 ?_
  case hd => exact d5 hroom
  case hu => exact u20 hun
  case hoc => assumption
  case hr => (intro q hq; simp only [List.mem_cons, List.not_mem_nil, or_false] at hq; rcases hq with rfl | rfl <;> (first | (left; omega) | (right; omega)))
  intro h4 tk4 mC4 T1 a1' b1' to1 te1 F4 N4 lT1
  refine nlc_end hh ⟨by omega, by omega, by omega, by omega, by omega, ?hr⟩ (by decide) F4 N4 ?_
  case hr => (intro q hq; simp only [List.mem_cons, List.not_mem_nil, or_false] at hq; rcases hq with rfl | rfl | rfl <;> (first | (left; omega) | (right; omega)))
  intro h6 F6 N6
  refine ⟨rfl, _, _, _, F6, N6, ?_⟩
  intro h7 tk7 F7 N7
  clear F2 N2 F3 N3 F4 N4 F6 N6 hkey2 gk gs lD
  dsimp only [List.nil_append, List.cons_append] at N7
  rename_i oC hoC tkA hA tkB it hB lit hC FC NC hD tkD tt uu vv r1 r2 r3 r4 hE zz TI TO i1 FE NE q2 q3 q4 q1
  clear FC NC r1 r2 r3 r4 FE NE
  dsimp only
  k_steps
  refine Hold.intro ?_
  have N8 : News g L' h7 ((D, listOf #[.ref T0, .ref T1] 2) :: ([(T0, tup3 (x 0) (t 0) 0 to0 0 te0), (T1, tup3 (x 1) (t 1) (-1) to1 1 te1)] ++ [(it, rit 2 4 1), (L' + 1, oC)])) := nw_cons N7 (by k_mem) (nw_cons N7 (by k_mem) (nw_cons N7 (by k_mem) (nw_cons N7 (by k_mem) (nw_cons N7 (by k_mem) (nw_nil)))))
  refine heapify2_K (c0 := (T0, tup3 (x 0) (t 0) 0 to0 0 te0, ⟨x 0, t 0, v 0, 0, 0⟩)) (c1 := (T1, tup3 (x 1) (t 1) (-1) to1 1 te1, ⟨x 1, t 1, v 1, -1, 1⟩)) X' T' hS' ?hd ?hu hh F7 N8 ?hne ⟨⟨_, _, _, rfl⟩, hx 0 (by decide) (by decide), ht 0 (by decide) (by decide)⟩ ⟨⟨_, _, _, rfl⟩, hx 1 (by decide) (by decide), ht 1 (by decide) (by decide)⟩ ⟨hd 0 1 (by decide) (by decide) (by decide) (by decide), by show (0 : Int) ≠ -1; decide⟩ ?_
  case hd => exact d18 hroom
  case hu => exact u80 hun
  case hne => (intro q hq; simp only [List.mem_cons, List.mem_append, List.not_mem_nil, or_false] at hq; rcases hq with (rfl | rfl) | rfl | rfl <;> exact neN (by dsimp only; omega))
  intro h8 tk8 d0 d1 hperm e1 F8 N8'
  clear F7 N7 N8
  have hI0 : Inv x t v 2 (-2) [⟨x 0, t 0, v 0, 0, 0⟩, ⟨x 1, t 1, v 1, -1, 1⟩] := inv_start2
  have hI1 := hI0.perm (hperm.map (fun c => c.2.2))
  have hlt : ∀ c ∈ [d0, d1], @LT.lt Nat _ D c.1 := fun c hc => by
    have := hperm.mem_iff.mp hc
    simp only [List.mem_cons, List.not_mem_nil, or_false] at this
    rcases this with rfl | rfl
    · exact lT0
    · exact lT1
  have hKO : ∀ c ∈ [d0, d1], KO c.2.1 c.2.2 := fun c hc => by
    have := hperm.mem_iff.mp hc
    simp only [List.mem_cons, List.not_mem_nil, or_false] at this
    rcases this with rfl | rfl
    · exact ⟨⟨_, _, _, rfl⟩, hx 0 (by decide) (by decide), ht 0 (by decide) (by decide)⟩
    · exact ⟨⟨_, _, _, rfl⟩, hx 1 (by decide) (by decide), ht 1 (by decide) (by decide)⟩
  obtain ⟨a0, p0, k0⟩ := d0
  obtain ⟨a1, p1, k1⟩ := d1
  have K0 := hKO _ (.head _)
  have K1 := hKO _ (.tail _ (.head _))
  dsimp only at K0 K1 e1 hI1 N8'
  obtain ⟨⟨u0, w0, n0, rfl⟩, K0⟩ := K0
  obtain ⟨⟨u1, w1, n1, rfl⟩, K1⟩ := K1
  clear hperm hKO hI0
  dsimp only [Cel.c, List.cons_append, List.nil_append, List.map_cons, List.map_nil] at N8' hI1
  dsimp only
  have ha0 : @LT.lt Nat _ D a0 := hlt _ (.head _)
  have ha1 : @LT.lt Nat _ D a1 := hlt _ (.tail _ (.head _))
  clear hlt
  have pk := Hold.intro (And.intro hI1 (And.intro e1 (And.intro ha0 (And.intro ha1 (And.intro hx (And.intro ht (And.intro hd (And.intro hkey' hR))))))))
  clear hI1 e1 ha0 ha1 hx ht hd hkey' hR K0 K1
  k_steps
  obtain ⟨hI1, e1, ha0, ha1, hx, ht, hd, hkey', hR⟩ := Hold.out pk
  clear pk
  refine Hold.intro ?_
  rename Fr _ _ _ _ => F9
  rename News _ _ _ _ => N9
  refine iter_rit_K N9 (by k_mem) ?_
  have F9' := cm_start (vo := some (.int (-2) _)) (vt := some (.float k0.x k0.t)) F9 (by with_unfolding_all rfl) (by with_unfolding_all rfl)
  (try dsimp only)
  refine for_LIG (LI2G (Inv x t v) Ky.lt g L' D it (L' + 1) oC s) (n := 5) F9' ⟨_, _, 2, -2, _, a0, a1, k0, k1, _, _, _, _, _, _, _, _, _, _, rfl, rfl, by decide, by decide, F9', N9, hI1, e1, ha0, ha1⟩ ?_
  rintro n s' ⟨h, tk', e, o, ot, a0, a1, k0, k1, u0, w0, u1, w1, n0, n1, y1, y2, y3, y4, rfl, rfl, le3, le6, FL, NL, hI, e1, ha0, ha1⟩
  clear F9 N9 F9'
  by_cases he : e < 6
  · refine next_rit_K (pre := [_, _, _]) FL NL ?h1 ?h2 (by omega) ?_
    case h1 => (intro q hq; simp only [List.mem_cons, List.not_mem_nil, or_false] at hq; rcases hq with rfl | rfl | rfl <;> exact neN (by dsimp only; omega))
    case h2 => (intro q hq; simp only [List.mem_cons, List.not_mem_nil, or_false] at hq; rcases hq with rfl <;> exact neN (by dsimp only; omega))
    intro h' FL' NL'
    clear FL NL
    have hIe : IsI (x e) (v e) := hx e (by omega) he
    have hI0 : IsI k0.x k0.v := by
      obtain ⟨q1, _, q3, q4, q5, _⟩ := hI.is k0 (.head _)
      rw [q1, q3]; exact hx _ q4 (by omega)
    dsimp only [List.cons_append, List.nil_append] at NL'
    dsimp only
    have hKO : ∀ k ∈ [k0, k1], IsI k.x k.v ∧ k.t ≠ 0 := fun k hk => by
      obtain ⟨q1, q2, q3, q4, q5, _⟩ := hI.is k hk
      rw [q1, q2, q3]; exact ⟨hx _ q4 (by omega), ht _ q4 (by omega)⟩
    have h66 : (6 : Int) - e - 1 = 6 - (e + 1) := by omega
    rw [h66] at NL'
    k_steps
    · refine Hold.intro ?_
      rename_i hq1 tq1 hq2 tq2 hq3 hlt Tn hq4 FP NP lTn
      have hI2 := hI.put (fun k hk => by
        simp only [List.mem_cons, List.not_mem_nil, or_false] at hk
        rcases hk with rfl
        · exact e1) hlt (by omega)
      have hD2 := hI2.dis (by omega) hd
      simp only [List.pairwise_cons, List.mem_cons, List.not_mem_nil, or_false, forall_eq_or_imp, forall_eq, List.Pairwise.nil, and_true, forall_const, false_imp_iff, implies_true] at hD2
      have Dn1 := hD2
      have N10 : News g L' hq4 ((D, listOf #[.ref a0, .ref a1] 2) :: ([(a0, tupK k0 u0 w0 n0), (a1, tupK k1 u1 w1 n1), (Tn, tupK ⟨x e, t e, v e, o, e⟩ ot tk' 0)] ++ [(it, rit (e + 1) (6 - (e + 1)) 1), (L' + 1, oC)])) := nw_cons NP (by k_mem) (nw_cons NP (by k_mem) (nw_cons NP (by k_mem) (nw_cons NP (by k_mem) (nw_cons NP (by k_mem) (nw_cons NP (by k_mem) (nw_nil))))))
      have Kn : KO (tupK ⟨x e, t e, v e, o, e⟩ ot tk' 0) ⟨x e, t e, v e, o, e⟩ := ⟨⟨_, _, _, rfl⟩, hIe, ht e (by omega) he⟩
      have K0 : KO (tupK k0 u0 w0 n0) k0 := ⟨⟨_, _, _, rfl⟩, (hKO k0 (by simp)).1, (hKO k0 (by simp)).2⟩
      have K1 : KO (tupK k1 u1 w1 n1) k1 := ⟨⟨_, _, _, rfl⟩, (hKO k1 (by simp)).1, (hKO k1 (by simp)).2⟩
      refine heapreplace2_K (c0 := (a0, tupK k0 u0 w0 n0, k0)) (c1 := (a1, tupK k1 u1 w1 n1, k1)) (cn := (Tn, tupK ⟨x e, t e, v e, o, e⟩ ot tk' 0, ⟨x e, t e, v e, o, e⟩)) X' T' hS' ?hd ?hu FP N10 ?hne K0 K1 Kn Dn1 ?_
      case hd => exact d18 hroom
      case hu => exact u80 hun
      case hne => (intro q hq; simp only [List.mem_cons, List.mem_append, List.not_mem_nil, or_false] at hq; rcases hq with (rfl | rfl | rfl) | rfl | rfl <;> exact neN (by dsimp only; omega))
      intro h8 tk8 d0 d1 hperm f1 F8 N8'
      have hI3 := hI2.perm (hperm.map (fun c => c.2.2))
      have hlt2 : ∀ c ∈ [d0, d1], @LT.lt Nat _ D c.1 ∧ KO c.2.1 c.2.2 := fun c hc => by
        have := hperm.mem_iff.mp hc
        simp only [List.mem_cons, List.not_mem_nil, or_false] at this
        rcases this with rfl | rfl
        · exact ⟨lTn.1, Kn⟩
        · exact ⟨ha1, K1⟩
      obtain ⟨b0, p0, j0⟩ := d0
      obtain ⟨b1, p1, j1⟩ := d1
      obtain ⟨hb0, K0'⟩ := hlt2 _ (.head _)
      obtain ⟨hb1, K1'⟩ := hlt2 _ (.tail _ (.head _))
      dsimp only at K0' K1' f1 hI3 N8' hb0 hb1
      obtain ⟨⟨r0, s0, m0, rfl⟩, K0', _⟩ := K0'
      obtain ⟨⟨r1, s1, m1, rfl⟩, K1', _⟩ := K1'
      clear hperm hlt2 FP NP N10 K0 K1 Kn Dn1 hD2 hI2
      dsimp only [Cel.c, List.cons_append, List.nil_append, List.map_cons, List.map_nil] at N8' hI3
      dsimp only
      k_steps
      refine Hold.intro ?_
      rename Fr _ _ _ _ => F9
      rename News _ _ _ _ => N9
      refine tup_K (its := [.ref b1]) hh F9 N9 (by exact .head _) (by exact .tail _ (.head _)) rfl rfl rfl (by with_unfolding_all rfl) (by decide) rfl rfl rfl ?_
      intro h11 tk11 F11 N11
      clear F9 N9
      dsimp only
      refine wpAny_execs_cons (aug_sub_K F11 N11 rfl rfl rfl (by with_unfolding_all rfl) ?_)
      intro h12 tk12 t12 F12 N12
      clear F11 N11
      dsimp only
      refine wpAny_execs_nil ?_
      dsimp only
      refine wpAny_execs_nil ?_
      dsimp only
      refine Hold.intro ?_
      refine ⟨(7 - (e + 1)).toNat, by omega, _, _, e + 1, o - 1, _, b0, b1, j0, j1, r0, s0, r1, s1, m0, m1, _, _, _, _, rfl, rfl, by omega, by omega, fr_congr F12 (fun y => cm_put y), N12, hI3, f1, hb0, hb1⟩
    · dsimp only
      refine Hold.intro ?_
      refine ⟨(7 - (e + 1)).toNat, by omega, _, _, e + 1, o, ot, a0, a1, k0, k1, u0, w0, u1, w1, n0, n1, _, _, y3, y4, rfl, rfl, by omega, by omega, fr_congr (by assumption) (fun y => cm_skip y), by assumption, hI.skip (fun k hk => by
        simp only [List.mem_cons, List.not_mem_nil, or_false] at hk
        rcases hk with rfl
        · exact e1) (by assumption), e1, ha0, ha1⟩
  · have h6 : e = 6 := by omega
    subst h6
    refine next_rit_end_K (pre := [_, _, _]) hh FL NL ?h1 ?h2 (by decide) ?_
    case h1 => (intro q hq; simp only [List.mem_cons, List.not_mem_nil, or_false] at hq; rcases hq with rfl | rfl | rfl <;> exact neN (by dsimp only; omega))
    case h2 => (intro q hq; simp only [List.mem_cons, List.not_mem_nil, or_false] at hq; rcases hq with rfl <;> exact neN (by dsimp only; omega))
    intro h' FL' NL'
    clear FL NL
    dsimp only [List.cons_append, List.nil_append] at NL'
    refine wpAny_execs_nil ?_
    dsimp only
    k_steps
    have hKO : ∀ k ∈ [k0, k1], IsI k.x k.v ∧ k.t ≠ 0 := fun k hk => by
      obtain ⟨q1, q2, q3, q4, q5, _⟩ := hI.is k hk
      rw [q1, q2, q3]; exact ⟨hx _ q4 (by omega), ht _ q4 (by omega)⟩
    have K0 : KO (tupK k0 u0 w0 n0) k0 := ⟨⟨_, _, _, rfl⟩, (hKO k0 (by simp)).1, (hKO k0 (by simp)).2⟩
    have K1 : KO (tupK k1 u1 w1 n1) k1 := ⟨⟨_, _, _, rfl⟩, (hKO k1 (by simp)).1, (hKO k1 (by simp)).2⟩
    have hD2 := hI.dis (by omega) hd
    have hP := hI.picked
    
    refine srt_bwd_K (cs := [(a0, tupK k0 u0 w0 n0, k0), (a1, tupK k1 u1 w1 n1, k1)]) (cells := [_, _]) rfl rfl hS' FL' NL' ?hne ?hK ?hD (by simp) (by simp) kok2 (fun Q' hq => wpAny_Constant_bool hq) ?_
    case hne => (intro q hq; simp only [List.mem_cons, List.mem_append, List.not_mem_nil, or_false] at hq; rcases hq with (rfl | rfl) | rfl <;> exact neN (by dsimp only; omega))
    case hK => (intro c hc; simp only [List.mem_cons, List.not_mem_nil, or_false] at hc; rcases hc with rfl | rfl <;> assumption)
    case hD => simpa using hD2
    intro h9 nn9 ds hperm F9 N9
    obtain ⟨ts, ets, hpt⟩ := t3_perm (all := [⟨a0, k0, u0, w0, n0⟩, ⟨a1, k1, u1, w1, n1⟩]) hperm
    subst ets
    simp only [t3_refs, t3_cels] at N9
    clear FL' NL' hI hKO K0 K1 hD2 hperm e1 ha0 ha1
    dsimp only
    k_steps
    refine Hold.intro ?_
    have hlen := hpt.length_eq
    refine lc_K (cl := []) hh F9 N9 (by rw [hlen]; simp) ?c1 ?c2 ?c3 ?c4 ?c5 (fun C => ?c6) (fun C => ?c7) (fun C => ?c8) ?c9 ?c10 ?_
    case c1 => rfl
    case c2 => decide
    case c3 => rfl
    case c4 => decide
    case c5 => (intro _; rfl)
    case c6 => rfl
    case c7 => rfl
    case c8 => rfl
    case c9 => decide
    case c10 => exact fun Q' hq => wpAny_Name (wpAny_loadName_local rfl rfl F9.ns (by with_unfolding_all rfl) hq)
    intro h10 tk10 D10 n10 F10 N10
    dsimp only
    refine hR h10 tk10 D10 n10 _ _ (t3_ints ts) (by simpa using hlen) (hP.perm (by simpa using hpt.map fun c => c.k.e)) (fun b o e => F10.keep b o (hg' b o e)) (N10.get (.head _)) ?_
    cases q : s.heap.get? D10 with
    | none => rfl
    | some o => have z := (N10 _ (.head _)).2.2; rw [hg' _ _ q] at z; cases z
end
end Mine
end

section
open PySem PySem.W PySem.Spec PySem.Calls PyProof.Rows
set_option maxRecDepth 100000
namespace Mine
section
set_option maxHeartbeats 1000000 in
theorem nlargest3 {w : World} {A : Around} {s : Shared} {R : Result → Shared → Prop} {h₀ : Heap} {p : Program} {loose : List Str} {mean : ExcName → Option Value} {mg mb : Str → Option Value}
   {r fl : Addr} {tk t1 t2 t3 : Tok} {x : Int → UInt64} {t : Int → Tok} {v : Int → Int}
   (X : (Mine.hd.heap_39 w.params).In h₀) (T : Top p loose mean mg mb h₀) (hS : NoShare h₀) (hk : Keeps h₀ s.heap) (hroom : A.depth + 40 < recursionLimit) (hun : A.units + 150 < cLine) (hh : A.handled = none)
   (hr : IsRange s.heap r 0 6 1 t1 t2 t3) (hkey : KeyCall w s.heap fl x t) (hx : ∀ i, 0 ≤ i → i < 6 → IsI (x i) (v i)) (ht : ∀ i, 0 ≤ i → i < 6 → t i ≠ 0) (hd : ∀ i j, 0 ≤ i → i < 6 → 0 ≤ j → j < 6 → t i = t j → v i = v j)
   (hR : PickR s R v 3) :
   codeAny (model PySem.Challenge.rw_op0141_01.row.prog w) A (.call (.ref 110) ⟨[.int 3 tk, .ref r], [(Str.ofString "key", .ref fl)]⟩) R s := by
  k_with_none
  w_top off
  k_with "exec Try" => (k_here; (with_reducible show wpAny _ _ (exec (Stmt.Try _ _ _ _ _) _) _ _ _); (k_dflt (refine try_plain ?_)); walk_say "MINE try")
  k_with "call builtin:len" => (k_here; (with_reducible show wpAny _ _ (call (Value.builtin "len") [Value.ref _]) _ _ _); (k_dflt (refine' call_len_range (n := 6) ?zk1 ?zk2 ?zk3 ?_; (case zk1 => exact Fr.keep (by assumption) _ _ (by assumption)); (case zk2 => decide +kernel); (case zk3 => decide +kernel))); walk_say "MINE len")
  k_with "call builtin:iter" => (k_here; (with_reducible show wpAny _ _ (call (Value.builtin "iter") [Value.ref _]) _ _ _); (k_dflt (refine' iter_range_K ?zk1 ?zk2 ?zk3 ?_; (case zk1 => k_asm); (case zk2 => k_asm); (case zk3 => exact Fr.keep (by assumption) _ _ (by assumption)))); walk_at "M iter"; walk_say "MINE iter")
  k_with "exec Assign cons ListComp" => (k_here; (with_reducible show wpAny _ _ (exec (Stmt.Assign _ (Expr.ListComp _ _ _ _) _) _) _ _ _); refine Hold.out ?_; walk_say "MINE hold")
  k_with "call type:zip" => (k_here; (with_reducible show wpAny _ _ (call (Value.type "zip") _) _ _ _); (k_dflt (refine' zip_K (n := 3) ?zk1 ?zk2 ?zk3 ?zk4 ?zk5 ?zk6 ?_; (case zk1 => k_asm); (case zk2 => k_asm); (case zk3 => assumption); (case zk4 => decide +kernel); (case zk5 => decide +kernel); (case zk6 => k_mem))); walk_at "M zip"; walk_say "MINE zip")
  k_with "pyIter ref" => (k_here; (with_reducible show wpAny _ _ (pyIter (Value.ref _)) _ _ _); (k_dflt (refine' iter_zip_K ?zk1 ?zk2 ?_; (case zk1 => k_asm); (case zk2 => k_mem))); refine Hold.out ?_; walk_say "MINE iterzip")
  k_with "call ref" => (k_here; (with_reducible show wpAny _ _ (call (Value.ref 56) _) _ _ _); refine Hold.out ?_; walk_say "MINE hold heapify")
  k_with "call ref" => (k_here; (with_reducible show wpAny _ _ (call (Value.ref 49) _) _ _ _); refine Hold.out ?_; walk_say "MINE hold heapreplace")
  k_with "exec For Name Name cons nil" => (k_here; (with_reducible show wpAny _ _ (exec (Stmt.For _ _ _ _ _) _) _ _ _); (k_dflt (refine wpAny_For ?_)); walk_say "MINE for")
  k_with "pyIter ref" => (k_here; (with_reducible show wpAny _ _ (pyIter (Value.ref _)) (fun it s₂ => codeAny _ _ _ _ _) _ _); refine Hold.out ?_; walk_say "MINE hold for")
  k_with "callWith ref" => (k_here; (with_reducible show wpAny _ _ (callWith _ (Value.ref _) [] _ []) _ _ _); (k_dflt (refine' callKey ?zk0 ?zk1 ?zk2 ?zk3 ?zk4 ?zk5 ?zk6 ?zk7 ?_; (case zk0 => assumption); (case zk1 => k_asm); (case zk2 => k_asm); (case zk7 => exact fun Q' hq => wpAny_Name (wpAny_loadName_local rfl rfl (Fr.ns (by assumption)) (by with_unfolding_all rfl) hq)); (case zk3 => exact d5 (by assumption)); (case zk4 => exact u20 (by assumption)); (case zk5 => omega); (case zk6 => omega))); (intro _ _ _ _; walk_say "MINE key"))
  k_with "compareOp Lt float float" => (k_here; (with_reducible show wpAny _ _ (compareOp CmpOp.Lt (Value.float _ _) (Value.float _ _)) _ _ _); (refine' lt_fl ?zk1 ?zk2 ?_; (case zk1 => assumption); (case zk2 => assumption)); walk_say "MINE ltf")
  k_with "exec Assign" => (k_here; (with_reducible show wpAny _ _ (exec (Stmt.Assign [Expr.Tuple _ _ _] _ _) _) _ _ _); (refine Hold.out ?_); walk_say "MINE hold tuple")
  k_with "eval ListComp" => (k_here; (with_reducible show wpAny _ _ (eval (Expr.ListComp _ _ _ _) _) _ _ _); refine Hold.out ?_; walk_say "MINE hold lc")
  k_with "call builtin:list.sort" => (k_here; refine Hold.out ?_; walk_say "MINE hold sort")
  revert X; k_fill; intro X
  refine' enterC X T hk [] ?hh ?k6 ?k7 ?k8 ?k9 ?kB ?kD ?_ ?c2 ?c3 ?c4
  case hh => intro q hq; cases hq
  case k6 => k_is
  case k7 => k_is
  case k8 => omega
  case k9 => exact binds_K (fun a o e => hk _ _ (X a o e)) rfl (by k_is) rfl rfl rfl
  case kB => exact rfl
  case kD => decide +kernel
  case c2 => rfl
  case c3 => rfl
  case c4 => rfl
  intro g L' h₁ tk₁ cells hg hkg X' T' F' N' Y' hL
  k_cells Y'
  (try simp only [List.cons_append, List.nil_append] at N')
  have hg' : Keeps s.heap g := fun b o e => hg b o e (by intro q hq; cases hq)
  have hr' : IsRange g r 0 6 1 t1 t2 t3 := hg' _ _ hr
  have hkey' := hkey.keeps hg'
  have hS' := hS.keeps hkg
  clear hr hkey hg hL hS hk hkg
  (try dsimp only)
  k_steps
  refine Hold.intro ?_
  refine' comp_assign ?k1 ?k0 ?ks ?ky ?kp ?k2 ?k3 ?k4 ?k5 ?k6 ?_
  case k1 => k_asm
  case k0 => rfl
  case ks => with_unfolding_all rfl
  case ky => rfl
  case kp => rfl
  case k2 => rfl
  case k3 => decide
  case k4 => rfl
  case k5 => decide
  case k6 => (intro _; rfl)
  k_steps
  refine Hold.intro ?_
  refine ⟨_, by assumption, by assumption, ?_⟩
  intro g2 C D h2 tk2 gk gs F2 N2 lD
  refine ⟨fun Q' hq => wpAny_pyIter_zip (News.get N2 (.tail _ (.head _))) hq, ?_⟩
  have lz := ltN (lD _ (.head _))
  dsimp only at lz
  have hkey2 := hkey'.keeps gk
  refine nlc_turn (x := x) (t := t) (fl := fl) hh ?hd ?hu (by simp) rfl rfl rfl rfl rfl (List.Mem.head _) ?hoc hkey2 ⟨by omega, by omega, by omega, by omega, by omega, ?hr⟩ (by decide) (by decide) (by decide) (by decide) (x1' := -1) (l1' := 2) (x2' := 1) (l2' := 5) rfl rfl rfl rfl F2 N2 ?_
  case hd => exact d5 hroom
  case hu => exact u20 hun
  case hoc => assumption
  case hr => (intro q hq; simp only [List.mem_cons, List.not_mem_nil, or_false] at hq; rcases hq with rfl <;> (first | (left; omega) | (right; omega)))
  intro h3 tk3 mC3 T0 a0' b0' to0 te0 F3 N3 lT0
  refine nlc_turn (x := x) (t := t) (fl := fl) hh ?hd ?hu (by simp) rfl rfl rfl rfl rfl (List.Mem.tail _ (List.Mem.head _)) ?hoc hkey2 ⟨by omega, by omega, by omega, by omega, by omega, ?hr⟩ (by decide) (by decide) (by decide) (by decide) (x1' := -2) (l1' := 1) (x2' := 2) (l2' := 4) rfl rfl rfl rfl F3 N3 ?_
  case hd => exact d5 hroom
  case hu => exact u20 hun
  case hoc => assumption
  case hr => (intro q hq; simp only [List.mem_cons, List.not_mem_nil, or_false] at hq; rcases hq with rfl | rfl <;> (first | (left; omega) | (right; omega)))
  intro h4 tk4 mC4 T1 a1' b1' to1 te1 F4 N4 lT1
  refine nlc_turn (x := x) (t := t) (fl := fl) hh ?hd ?hu (by simp) rfl rfl rfl rfl rfl (List.Mem.tail _ (List.Mem.tail _ (List.Mem.head _))) ?hoc hkey2 ⟨by omega, by omega, by omega, by omega, by omega, ?hr⟩ (by decide) (by decide) (by decide) (by decide) (x1' := -3) (l1' := 0) (x2' := 3) (l2' := 3) rfl rfl rfl rfl F4 N4 ?_
  case hd => exact d5 hroom
  case hu => exact u20 hun
  case hoc => assumption
  case hr => (intro q hq; simp only [List.mem_cons, List.not_mem_nil, or_false] at hq; rcases hq with rfl | rfl | rfl <;> (first | (left; omega) | (right; omega)))
  intro h5 tk5 mC5 T2 a2' b2' to2 te2 F5 N5 lT2
  refine nlc_end hh ⟨by omega, by omega, by omega, by omega, by omega, ?hr⟩ (by decide) F5 N5 ?_
  case hr => (intro q hq; simp only [List.mem_cons, List.not_mem_nil, or_false] at hq; rcases hq with rfl | rfl | rfl | rfl <;> (first | (left; omega) | (right; omega)))
  intro h6 F6 N6
  refine ⟨rfl, _, _, _, F6, N6, ?_⟩
  intro h7 tk7 F7 N7
  clear F2 N2 F3 N3 F4 N4 F5 N5 F6 N6 hkey2 gk gs lD
  dsimp only [List.nil_append, List.cons_append] at N7
  rename_i oC hoC tkA hA tkB it hB lit hC FC NC hD tkD tt uu vv r1 r2 r3 r4 hE zz TI TO i1 FE NE q2 q3 q4 q1
  clear FC NC r1 r2 r3 r4 FE NE
  dsimp only
  k_steps
  refine Hold.intro ?_
  have N8 : News g L' h7 ((D, listOf #[.ref T0, .ref T1, .ref T2] 3) :: ([(T0, tup3 (x 0) (t 0) 0 to0 0 te0), (T1, tup3 (x 1) (t 1) (-1) to1 1 te1), (T2, tup3 (x 2) (t 2) (-2) to2 2 te2)] ++ [(it, rit 3 3 1), (L' + 1, oC)])) := nw_cons N7 (by k_mem) (nw_cons N7 (by k_mem) (nw_cons N7 (by k_mem) (nw_cons N7 (by k_mem) (nw_cons N7 (by k_mem) (nw_cons N7 (by k_mem) (nw_nil))))))
  refine heapify3_K (c0 := (T0, tup3 (x 0) (t 0) 0 to0 0 te0, ⟨x 0, t 0, v 0, 0, 0⟩)) (c1 := (T1, tup3 (x 1) (t 1) (-1) to1 1 te1, ⟨x 1, t 1, v 1, -1, 1⟩)) (c2 := (T2, tup3 (x 2) (t 2) (-2) to2 2 te2, ⟨x 2, t 2, v 2, -2, 2⟩)) X' T' hS' ?hd ?hu hh F7 N8 ?hne ⟨⟨_, _, _, rfl⟩, hx 0 (by decide) (by decide), ht 0 (by decide) (by decide)⟩ ⟨⟨_, _, _, rfl⟩, hx 1 (by decide) (by decide), ht 1 (by decide) (by decide)⟩ ⟨⟨_, _, _, rfl⟩, hx 2 (by decide) (by decide), ht 2 (by decide) (by decide)⟩ ⟨hd 0 1 (by decide) (by decide) (by decide) (by decide), by show (0 : Int) ≠ -1; decide⟩ ⟨hd 0 2 (by decide) (by decide) (by decide) (by decide), by show (0 : Int) ≠ -2; decide⟩ ⟨hd 1 2 (by decide) (by decide) (by decide) (by decide), by show (-1 : Int) ≠ -2; decide⟩ ?_
  case hd => exact d18 hroom
  case hu => exact u80 hun
  case hne => (intro q hq; simp only [List.mem_cons, List.mem_append, List.not_mem_nil, or_false] at hq; rcases hq with (rfl | rfl | rfl) | rfl | rfl <;> exact neN (by dsimp only; omega))
  intro h8 tk8 d0 d1 d2 hperm e1 e2 F8 N8'
  clear F7 N7 N8
  have hI0 : Inv x t v 3 (-3) [⟨x 0, t 0, v 0, 0, 0⟩, ⟨x 1, t 1, v 1, -1, 1⟩, ⟨x 2, t 2, v 2, -2, 2⟩] := inv_start3
  have hI1 := hI0.perm (hperm.map (fun c => c.2.2))
  have hlt : ∀ c ∈ [d0, d1, d2], @LT.lt Nat _ D c.1 := fun c hc => by
    have := hperm.mem_iff.mp hc
    simp only [List.mem_cons, List.not_mem_nil, or_false] at this
    rcases this with rfl | rfl | rfl
    · exact lT0
    · exact lT1
    · exact lT2
  have hKO : ∀ c ∈ [d0, d1, d2], KO c.2.1 c.2.2 := fun c hc => by
    have := hperm.mem_iff.mp hc
    simp only [List.mem_cons, List.not_mem_nil, or_false] at this
    rcases this with rfl | rfl | rfl
    · exact ⟨⟨_, _, _, rfl⟩, hx 0 (by decide) (by decide), ht 0 (by decide) (by decide)⟩
    · exact ⟨⟨_, _, _, rfl⟩, hx 1 (by decide) (by decide), ht 1 (by decide) (by decide)⟩
    · exact ⟨⟨_, _, _, rfl⟩, hx 2 (by decide) (by decide), ht 2 (by decide) (by decide)⟩
  obtain ⟨a0, p0, k0⟩ := d0
  obtain ⟨a1, p1, k1⟩ := d1
  obtain ⟨a2, p2, k2⟩ := d2
  have K0 := hKO _ (.head _)
  have K1 := hKO _ (.tail _ (.head _))
  have K2 := hKO _ (.tail _ (.tail _ (.head _)))
  dsimp only at K0 K1 K2 e1 e2 hI1 N8'
  obtain ⟨⟨u0, w0, n0, rfl⟩, K0⟩ := K0
  obtain ⟨⟨u1, w1, n1, rfl⟩, K1⟩ := K1
  obtain ⟨⟨u2, w2, n2, rfl⟩, K2⟩ := K2
  clear hperm hKO hI0
  dsimp only [Cel.c, List.cons_append, List.nil_append, List.map_cons, List.map_nil] at N8' hI1
  dsimp only
  have ha0 : @LT.lt Nat _ D a0 := hlt _ (.head _)
  have ha1 : @LT.lt Nat _ D a1 := hlt _ (.tail _ (.head _))
  have ha2 : @LT.lt Nat _ D a2 := hlt _ (.tail _ (.tail _ (.head _)))
  clear hlt
  have pk := Hold.intro (And.intro hI1 (And.intro e1 (And.intro e2 (And.intro ha0 (And.intro ha1 (And.intro ha2 (And.intro hx (And.intro ht (And.intro hd (And.intro hkey' hR))))))))))
  clear hI1 e1 e2 ha0 ha1 ha2 hx ht hd hkey' hR K0 K1 K2
  k_steps
  obtain ⟨hI1, e1, e2, ha0, ha1, ha2, hx, ht, hd, hkey', hR⟩ := Hold.out pk
  clear pk
  refine Hold.intro ?_
  rename Fr _ _ _ _ => F9
  rename News _ _ _ _ => N9
  refine iter_rit_K N9 (by k_mem) ?_
  have F9' := cm_start (vo := some (.int (-3) _)) (vt := some (.float k0.x k0.t)) F9 (by with_unfolding_all rfl) (by with_unfolding_all rfl)
  (try dsimp only)
  refine for_LIG (LI3G (Inv x t v) Ky.lt g L' D it (L' + 1) oC s) (n := 4) F9' ⟨_, _, 3, -3, _, a0, a1, a2, k0, k1, k2, _, _, _, _, _, _, _, _, _, _, _, _, _, rfl, rfl, by decide, by decide, F9', N9, hI1, e1, e2, ha0, ha1, ha2⟩ ?_
  rintro n s' ⟨h, tk', e, o, ot, a0, a1, a2, k0, k1, k2, u0, w0, u1, w1, u2, w2, n0, n1, n2, y1, y2, y3, y4, rfl, rfl, le3, le6, FL, NL, hI, e1, e2, ha0, ha1, ha2⟩
  clear F9 N9 F9'
  by_cases he : e < 6
  · refine next_rit_K (pre := [_, _, _, _]) FL NL ?h1 ?h2 (by omega) ?_
    case h1 => (intro q hq; simp only [List.mem_cons, List.not_mem_nil, or_false] at hq; rcases hq with rfl | rfl | rfl | rfl <;> exact neN (by dsimp only; omega))
    case h2 => (intro q hq; simp only [List.mem_cons, List.not_mem_nil, or_false] at hq; rcases hq with rfl <;> exact neN (by dsimp only; omega))
    intro h' FL' NL'
    clear FL NL
    have hIe : IsI (x e) (v e) := hx e (by omega) he
    have hI0 : IsI k0.x k0.v := by
      obtain ⟨q1, _, q3, q4, q5, _⟩ := hI.is k0 (.head _)
      rw [q1, q3]; exact hx _ q4 (by omega)
    dsimp only [List.cons_append, List.nil_append] at NL'
    dsimp only
    have hKO : ∀ k ∈ [k0, k1, k2], IsI k.x k.v ∧ k.t ≠ 0 := fun k hk => by
      obtain ⟨q1, q2, q3, q4, q5, _⟩ := hI.is k hk
      rw [q1, q2, q3]; exact ⟨hx _ q4 (by omega), ht _ q4 (by omega)⟩
    have h66 : (6 : Int) - e - 1 = 6 - (e + 1) := by omega
    rw [h66] at NL'
    k_steps
    · refine Hold.intro ?_
      rename_i hq1 tq1 hq2 tq2 hq3 hlt Tn hq4 FP NP lTn
      have hI2 := hI.put (fun k hk => by
        simp only [List.mem_cons, List.not_mem_nil, or_false] at hk
        rcases hk with rfl | rfl
        · exact e1
        · exact e2) hlt (by omega)
      have hD2 := hI2.dis (by omega) hd
      simp only [List.pairwise_cons, List.mem_cons, List.not_mem_nil, or_false, forall_eq_or_imp, forall_eq, List.Pairwise.nil, and_true, forall_const, false_imp_iff, implies_true] at hD2
      obtain ⟨⟨Dn1, Dn2⟩, D12⟩ := hD2
      have N10 : News g L' hq4 ((D, listOf #[.ref a0, .ref a1, .ref a2] 3) :: ([(a0, tupK k0 u0 w0 n0), (a1, tupK k1 u1 w1 n1), (a2, tupK k2 u2 w2 n2), (Tn, tupK ⟨x e, t e, v e, o, e⟩ ot tk' 0)] ++ [(it, rit (e + 1) (6 - (e + 1)) 1), (L' + 1, oC)])) := nw_cons NP (by k_mem) (nw_cons NP (by k_mem) (nw_cons NP (by k_mem) (nw_cons NP (by k_mem) (nw_cons NP (by k_mem) (nw_cons NP (by k_mem) (nw_cons NP (by k_mem) (nw_nil)))))))
      have Kn : KO (tupK ⟨x e, t e, v e, o, e⟩ ot tk' 0) ⟨x e, t e, v e, o, e⟩ := ⟨⟨_, _, _, rfl⟩, hIe, ht e (by omega) he⟩
      have K0 : KO (tupK k0 u0 w0 n0) k0 := ⟨⟨_, _, _, rfl⟩, (hKO k0 (by simp)).1, (hKO k0 (by simp)).2⟩
      have K1 : KO (tupK k1 u1 w1 n1) k1 := ⟨⟨_, _, _, rfl⟩, (hKO k1 (by simp)).1, (hKO k1 (by simp)).2⟩
      have K2 : KO (tupK k2 u2 w2 n2) k2 := ⟨⟨_, _, _, rfl⟩, (hKO k2 (by simp)).1, (hKO k2 (by simp)).2⟩
      refine heapreplace3_K (c0 := (a0, tupK k0 u0 w0 n0, k0)) (c1 := (a1, tupK k1 u1 w1 n1, k1)) (c2 := (a2, tupK k2 u2 w2 n2, k2)) (cn := (Tn, tupK ⟨x e, t e, v e, o, e⟩ ot tk' 0, ⟨x e, t e, v e, o, e⟩)) X' T' hS' ?hd ?hu FP N10 ?hne K0 K1 K2 Kn Dn1 Dn2 D12 ?_
      case hd => exact d18 hroom
      case hu => exact u80 hun
      case hne => (intro q hq; simp only [List.mem_cons, List.mem_append, List.not_mem_nil, or_false] at hq; rcases hq with (rfl | rfl | rfl | rfl) | rfl | rfl <;> exact neN (by dsimp only; omega))
      intro h8 tk8 d0 d1 d2 hperm f1 f2 F8 N8'
      have hI3 := hI2.perm (hperm.map (fun c => c.2.2))
      have hlt2 : ∀ c ∈ [d0, d1, d2], @LT.lt Nat _ D c.1 ∧ KO c.2.1 c.2.2 := fun c hc => by
        have := hperm.mem_iff.mp hc
        simp only [List.mem_cons, List.not_mem_nil, or_false] at this
        rcases this with rfl | rfl | rfl
        · exact ⟨lTn.1, Kn⟩
        · exact ⟨ha1, K1⟩
        · exact ⟨ha2, K2⟩
      obtain ⟨b0, p0, j0⟩ := d0
      obtain ⟨b1, p1, j1⟩ := d1
      obtain ⟨b2, p2, j2⟩ := d2
      obtain ⟨hb0, K0'⟩ := hlt2 _ (.head _)
      obtain ⟨hb1, K1'⟩ := hlt2 _ (.tail _ (.head _))
      obtain ⟨hb2, K2'⟩ := hlt2 _ (.tail _ (.tail _ (.head _)))
      dsimp only at K0' K1' K2' f1 f2 hI3 N8' hb0 hb1 hb2
      obtain ⟨⟨r0, s0, m0, rfl⟩, K0', _⟩ := K0'
      obtain ⟨⟨r1, s1, m1, rfl⟩, K1', _⟩ := K1'
      obtain ⟨⟨r2, s2, m2, rfl⟩, K2', _⟩ := K2'
      clear hperm hlt2 FP NP N10 K0 K1 K2 Kn Dn1 Dn2 D12 hI2
      dsimp only [Cel.c, List.cons_append, List.nil_append, List.map_cons, List.map_nil] at N8' hI3
      dsimp only
      k_steps
      refine Hold.intro ?_
      rename Fr _ _ _ _ => F9
      rename News _ _ _ _ => N9
      refine tup_K (its := [.ref b1, .ref b2]) hh F9 N9 (by exact .head _) (by exact .tail _ (.head _)) rfl rfl rfl (by with_unfolding_all rfl) (by decide) rfl rfl rfl ?_
      intro h11 tk11 F11 N11
      clear F9 N9
      dsimp only
      refine wpAny_execs_cons (aug_sub_K F11 N11 rfl rfl rfl (by with_unfolding_all rfl) ?_)
      intro h12 tk12 t12 F12 N12
      clear F11 N11
      dsimp only
      refine wpAny_execs_nil ?_
      dsimp only
      refine wpAny_execs_nil ?_
      dsimp only
      refine Hold.intro ?_
      refine ⟨(7 - (e + 1)).toNat, by omega, _, _, e + 1, o - 1, _, b0, b1, b2, j0, j1, j2, r0, s0, r1, s1, r2, s2, m0, m1, m2, _, _, _, _, rfl, rfl, by omega, by omega, fr_congr F12 (fun y => cm_put y), N12, hI3, f1, f2, hb0, hb1, hb2⟩
    · dsimp only
      refine Hold.intro ?_
      refine ⟨(7 - (e + 1)).toNat, by omega, _, _, e + 1, o, ot, a0, a1, a2, k0, k1, k2, u0, w0, u1, w1, u2, w2, n0, n1, n2, _, _, y3, y4, rfl, rfl, by omega, by omega, fr_congr (by assumption) (fun y => cm_skip y), by assumption, hI.skip (fun k hk => by
        simp only [List.mem_cons, List.not_mem_nil, or_false] at hk
        rcases hk with rfl | rfl
        · exact e1
        · exact e2) (by assumption), e1, e2, ha0, ha1, ha2⟩
  · have h6 : e = 6 := by omega
    subst h6
    refine next_rit_end_K (pre := [_, _, _, _]) hh FL NL ?h1 ?h2 (by decide) ?_
    case h1 => (intro q hq; simp only [List.mem_cons, List.not_mem_nil, or_false] at hq; rcases hq with rfl | rfl | rfl | rfl <;> exact neN (by dsimp only; omega))
    case h2 => (intro q hq; simp only [List.mem_cons, List.not_mem_nil, or_false] at hq; rcases hq with rfl <;> exact neN (by dsimp only; omega))
    intro h' FL' NL'
    clear FL NL
    dsimp only [List.cons_append, List.nil_append] at NL'
    refine wpAny_execs_nil ?_
    dsimp only
    k_steps
    have hKO : ∀ k ∈ [k0, k1, k2], IsI k.x k.v ∧ k.t ≠ 0 := fun k hk => by
      obtain ⟨q1, q2, q3, q4, q5, _⟩ := hI.is k hk
      rw [q1, q2, q3]; exact ⟨hx _ q4 (by omega), ht _ q4 (by omega)⟩
    have K0 : KO (tupK k0 u0 w0 n0) k0 := ⟨⟨_, _, _, rfl⟩, (hKO k0 (by simp)).1, (hKO k0 (by simp)).2⟩
    have K1 : KO (tupK k1 u1 w1 n1) k1 := ⟨⟨_, _, _, rfl⟩, (hKO k1 (by simp)).1, (hKO k1 (by simp)).2⟩
    have K2 : KO (tupK k2 u2 w2 n2) k2 := ⟨⟨_, _, _, rfl⟩, (hKO k2 (by simp)).1, (hKO k2 (by simp)).2⟩
    have hD2 := hI.dis (by omega) hd
    have hP := hI.picked
    
    refine srt_bwd_K (cs := [(a0, tupK k0 u0 w0 n0, k0), (a1, tupK k1 u1 w1 n1, k1), (a2, tupK k2 u2 w2 n2, k2)]) (cells := [_, _, _]) rfl rfl hS' FL' NL' ?hne ?hK ?hD (by simp) (by simp) kok3 (fun Q' hq => wpAny_Constant_bool hq) ?_
    case hne => (intro q hq; simp only [List.mem_cons, List.mem_append, List.not_mem_nil, or_false] at hq; rcases hq with (rfl | rfl | rfl) | rfl <;> exact neN (by dsimp only; omega))
    case hK => (intro c hc; simp only [List.mem_cons, List.not_mem_nil, or_false] at hc; rcases hc with rfl | rfl | rfl <;> assumption)
    case hD => simpa using hD2
    intro h9 nn9 ds hperm F9 N9
    obtain ⟨ts, ets, hpt⟩ := t3_perm (all := [⟨a0, k0, u0, w0, n0⟩, ⟨a1, k1, u1, w1, n1⟩, ⟨a2, k2, u2, w2, n2⟩]) hperm
    subst ets
    simp only [t3_refs, t3_cels] at N9
    clear FL' NL' hI hKO K0 K1 K2 hD2 hperm e1 e2 ha0 ha1 ha2
    dsimp only
    k_steps
    refine Hold.intro ?_
    have hlen := hpt.length_eq
    refine lc_K (cl := []) hh F9 N9 (by rw [hlen]; simp) ?c1 ?c2 ?c3 ?c4 ?c5 (fun C => ?c6) (fun C => ?c7) (fun C => ?c8) ?c9 ?c10 ?_
    case c1 => rfl
    case c2 => decide
    case c3 => rfl
    case c4 => decide
    case c5 => (intro _; rfl)
    case c6 => rfl
    case c7 => rfl
    case c8 => rfl
    case c9 => decide
    case c10 => exact fun Q' hq => wpAny_Name (wpAny_loadName_local rfl rfl F9.ns (by with_unfolding_all rfl) hq)
    intro h10 tk10 D10 n10 F10 N10
    dsimp only
    refine hR h10 tk10 D10 n10 _ _ (t3_ints ts) (by simpa using hlen) (hP.perm (by simpa using hpt.map fun c => c.k.e)) (fun b o e => F10.keep b o (hg' b o e)) (N10.get (.head _)) ?_
    cases q : s.heap.get? D10 with
    | none => rfl
    | some o => have z := (N10 _ (.head _)).2.2; rw [hg' _ _ q] at z; cases z
end
end Mine
end

section
open PySem PySem.W PySem.Spec PySem.Calls PyProof.Rows
set_option maxRecDepth 100000
namespace Mine
section
set_option maxHeartbeats 1000000 in
theorem nsmallest2 {w : World} {A : Around} {s : Shared} {R : Result → Shared → Prop} {h₀ : Heap} {p : Program} {loose : List Str} {mean : ExcName → Option Value} {mg mb : Str → Option Value}
   {r fl : Addr} {tk t1 t2 t3 : Tok} {x : Int → UInt64} {t : Int → Tok} {v : Int → Int}
   (X : (Mine.hd.heap_39 w.params).In h₀) (T : Top p loose mean mg mb h₀) (hS : NoShare h₀) (hk : Keeps h₀ s.heap) (hroom : A.depth + 40 < recursionLimit) (hun : A.units + 150 < cLine) (hh : A.handled = none)
   (hr : IsRange s.heap r 0 6 1 t1 t2 t3) (hkey : KeyCall w s.heap fl x t) (hx : ∀ i, 0 ≤ i → i < 6 → IsI (x i) (v i)) (ht : ∀ i, 0 ≤ i → i < 6 → t i ≠ 0) (hd : ∀ i j, 0 ≤ i → i < 6 → 0 ≤ j → j < 6 → t i = t j → v i = v j)
   (hR : PickR s R (fun i => - v i) 2) :
   codeAny (model PySem.Challenge.rw_op0141_01.row.prog w) A (.call (.ref 104) ⟨[.int 2 tk, .ref r], [(Str.ofString "key", .ref fl)]⟩) R s := by
  k_with_none
  w_top off
  k_with "exec Try" => (k_here; (with_reducible show wpAny _ _ (exec (Stmt.Try _ _ _ _ _) _) _ _ _); (k_dflt (refine try_plain ?_)); walk_say "MINE try")
  k_with "call builtin:len" => (k_here; (with_reducible show wpAny _ _ (call (Value.builtin "len") [Value.ref _]) _ _ _); (k_dflt (refine' call_len_range (n := 6) ?zk1 ?zk2 ?zk3 ?_; (case zk1 => exact Fr.keep (by assumption) _ _ (by assumption)); (case zk2 => decide +kernel); (case zk3 => decide +kernel))); walk_say "MINE len")
  k_with "call builtin:iter" => (k_here; (with_reducible show wpAny _ _ (call (Value.builtin "iter") [Value.ref _]) _ _ _); (k_dflt (refine' iter_range_K ?zk1 ?zk2 ?zk3 ?_; (case zk1 => k_asm); (case zk2 => k_asm); (case zk3 => exact Fr.keep (by assumption) _ _ (by assumption)))); walk_at "M iter"; walk_say "MINE iter")
  k_with "exec Assign cons ListComp" => (k_here; (with_reducible show wpAny _ _ (exec (Stmt.Assign _ (Expr.ListComp _ _ _ _) _) _) _ _ _); refine Hold.out ?_; walk_say "MINE hold")
  k_with "call type:zip" => (k_here; (with_reducible show wpAny _ _ (call (Value.type "zip") _) _ _ _); (k_dflt (refine' zip_K (n := 2) ?zk1 ?zk2 ?zk3 ?zk4 ?zk5 ?zk6 ?_; (case zk1 => k_asm); (case zk2 => k_asm); (case zk3 => assumption); (case zk4 => decide +kernel); (case zk5 => decide +kernel); (case zk6 => k_mem))); walk_at "M zip"; walk_say "MINE zip")
  k_with "pyIter ref" => (k_here; (with_reducible show wpAny _ _ (pyIter (Value.ref _)) _ _ _); (k_dflt (refine' iter_zip_K ?zk1 ?zk2 ?_; (case zk1 => k_asm); (case zk2 => k_mem))); refine Hold.out ?_; walk_say "MINE iterzip")
  k_with "call ref" => (k_here; (with_reducible show wpAny _ _ (call (Value.ref 70) _) _ _ _); refine Hold.out ?_; walk_say "MINE hold heapify")
  k_with "call ref" => (k_here; (with_reducible show wpAny _ _ (call (Value.ref 63) _) _ _ _); refine Hold.out ?_; walk_say "MINE hold heapreplace")
  k_with "exec For Name Name cons nil" => (k_here; (with_reducible show wpAny _ _ (exec (Stmt.For _ _ _ _ _) _) _ _ _); (k_dflt (refine wpAny_For ?_)); walk_say "MINE for")
  k_with "pyIter ref" => (k_here; (with_reducible show wpAny _ _ (pyIter (Value.ref _)) (fun it s₂ => codeAny _ _ _ _ _) _ _); refine Hold.out ?_; walk_say "MINE hold for")
  k_with "callWith ref" => (k_here; (with_reducible show wpAny _ _ (callWith _ (Value.ref _) [] _ []) _ _ _); (k_dflt (refine' callKey ?zk0 ?zk1 ?zk2 ?zk3 ?zk4 ?zk5 ?zk6 ?zk7 ?_; (case zk0 => assumption); (case zk1 => k_asm); (case zk2 => k_asm); (case zk7 => exact fun Q' hq => wpAny_Name (wpAny_loadName_local rfl rfl (Fr.ns (by assumption)) (by with_unfolding_all rfl) hq)); (case zk3 => exact d5 (by assumption)); (case zk4 => exact u20 (by assumption)); (case zk5 => omega); (case zk6 => omega))); (intro _ _ _ _; walk_say "MINE key"))
  k_with "compareOp Lt float float" => (k_here; (with_reducible show wpAny _ _ (compareOp CmpOp.Lt (Value.float _ _) (Value.float _ _)) _ _ _); (refine' lt_fl ?zk1 ?zk2 ?_; (case zk1 => assumption); (case zk2 => assumption)); walk_say "MINE ltf")
  k_with "exec Assign" => (k_here; (with_reducible show wpAny _ _ (exec (Stmt.Assign [Expr.Tuple _ _ _] _ _) _) _ _ _); (refine Hold.out ?_); walk_say "MINE hold tuple")
  k_with "eval ListComp" => (k_here; (with_reducible show wpAny _ _ (eval (Expr.ListComp _ _ _ _) _) _ _ _); refine Hold.out ?_; walk_say "MINE hold lc")
  k_with "call builtin:list.sort" => (k_here; refine Hold.out ?_; walk_say "MINE hold sort")
  revert X; k_fill; intro X
  refine' enterC X T hk [] ?hh ?k6 ?k7 ?k8 ?k9 ?kB ?kD ?_ ?c2 ?c3 ?c4
  case hh => intro q hq; cases hq
  case k6 => k_is
  case k7 => k_is
  case k8 => omega
  case k9 => exact binds_K (fun a o e => hk _ _ (X a o e)) rfl (by k_is) rfl rfl rfl
  case kB => exact rfl
  case kD => decide +kernel
  case c2 => rfl
  case c3 => rfl
  case c4 => rfl
  intro g L' h₁ tk₁ cells hg hkg X' T' F' N' Y' hL
  k_cells Y'
  (try simp only [List.cons_append, List.nil_append] at N')
  have hg' : Keeps s.heap g := fun b o e => hg b o e (by intro q hq; cases hq)
  have hr' : IsRange g r 0 6 1 t1 t2 t3 := hg' _ _ hr
  have hkey' := hkey.keeps hg'
  have hS' := hS.keeps hkg
  clear hr hkey hg hL hS hk hkg
  (try dsimp only)
  k_steps
  refine Hold.intro ?_
  refine' comp_assign ?k1 ?k0 ?ks ?ky ?kp ?k2 ?k3 ?k4 ?k5 ?k6 ?_
  case k1 => k_asm
  case k0 => rfl
  case ks => with_unfolding_all rfl
  case ky => rfl
  case kp => rfl
  case k2 => rfl
  case k3 => decide
  case k4 => rfl
  case k5 => decide
  case k6 => (intro _; rfl)
  k_steps
  refine Hold.intro ?_
  refine ⟨_, by assumption, by assumption, ?_⟩
  intro g2 C D h2 tk2 gk gs F2 N2 lD
  refine ⟨fun Q' hq => wpAny_pyIter_zip (News.get N2 (.tail _ (.head _))) hq, ?_⟩
  have lz := ltN (lD _ (.head _))
  dsimp only at lz
  have hkey2 := hkey'.keeps gk
  refine nlc_turn (x := x) (t := t) (fl := fl) hh ?hd ?hu (by simp) rfl rfl rfl rfl rfl (List.Mem.head _) ?hoc hkey2 ⟨by omega, by omega, by omega, by omega, by omega, ?hr⟩ (by decide) (by decide) (by decide) (by decide) (x1' := 1) (l1' := 1) (x2' := 1) (l2' := 5) rfl rfl rfl rfl F2 N2 ?_
  case hd => exact d5 hroom
  case hu => exact u20 hun
  case hoc => assumption
  case hr => (intro q hq; simp only [List.mem_cons, List.not_mem_nil, or_false] at hq; rcases hq with rfl <;> (first | (left; omega) | (right; omega)))
  intro h3 tk3 mC3 T0 a0' b0' to0 te0 F3 N3 lT0
  refine nlc_turn (x := x) (t := t) (fl := fl) hh ?hd ?hu (by simp) rfl rfl rfl rfl rfl (List.Mem.tail _ (List.Mem.head _)) ?hoc hkey2 ⟨by omega, by omega, by omega, by omega, by omega, ?hr⟩ (by decide) (by decide) (by decide) (by decide) (x1' := 2) (l1' := 0) (x2' := 2) (l2' := 4) rfl rfl rfl rfl F3 N3 ?_
  case hd => exact d5 hroom
  case hu => exact u20 hun
  case hoc => assumption
  case hr => (intro q hq; simp only [List.mem_cons, List.not_mem_nil, or_false] at hq; rcases hq with rfl | rfl <;> (first | (left; omega) | (right; omega)))
  intro h4 tk4 mC4 T1 a1' b1' to1 te1 F4 N4 lT1
  refine nlc_end hh ⟨by omega, by omega, by omega, by omega, by omega, ?hr⟩ (by decide) F4 N4 ?_
  case hr => (intro q hq; simp only [List.mem_cons, List.not_mem_nil, or_false] at hq; rcases hq with rfl | rfl | rfl <;> (first | (left; omega) | (right; omega)))
  intro h6 F6 N6
  refine ⟨rfl, _, _, _, F6, N6, ?_⟩
  intro h7 tk7 F7 N7
  clear F2 N2 F3 N3 F4 N4 F6 N6 hkey2 gk gs lD
  dsimp only [List.nil_append, List.cons_append] at N7
  rename_i oC hoC tkA hA tkB it hB lit hC FC NC hD tkD tt uu vv r1 r2 r3 r4 hE zz TI TO i1 FE NE q2 q3 q4 q1
  clear FC NC r1 r2 r3 r4 FE NE
  dsimp only
  k_steps
  refine Hold.intro ?_
  have N8 : News g L' h7 ((D, listOf #[.ref T0, .ref T1] 2) :: ([(T0, tup3 (x 0) (t 0) 0 to0 0 te0), (T1, tup3 (x 1) (t 1) 1 to1 1 te1)] ++ [(it, rit 2 4 1), (L' + 1, oC)])) := nw_cons N7 (by k_mem) (nw_cons N7 (by k_mem) (nw_cons N7 (by k_mem) (nw_cons N7 (by k_mem) (nw_cons N7 (by k_mem) (nw_nil)))))
  refine heapify_max2_K (c0 := (T0, tup3 (x 0) (t 0) 0 to0 0 te0, ⟨x 0, t 0, v 0, 0, 0⟩)) (c1 := (T1, tup3 (x 1) (t 1) 1 to1 1 te1, ⟨x 1, t 1, v 1, 1, 1⟩)) X' T' hS' ?hd ?hu hh F7 N8 ?hne ⟨⟨_, _, _, rfl⟩, hx 0 (by decide) (by decide), ht 0 (by decide) (by decide)⟩ ⟨⟨_, _, _, rfl⟩, hx 1 (by decide) (by decide), ht 1 (by decide) (by decide)⟩ ⟨hd 0 1 (by decide) (by decide) (by decide) (by decide), by show (0 : Int) ≠ 1; decide⟩ ?_
  case hd => exact d18 hroom
  case hu => exact u80 hun
  case hne => (intro q hq; simp only [List.mem_cons, List.mem_append, List.not_mem_nil, or_false] at hq; rcases hq with (rfl | rfl) | rfl | rfl <;> exact neN (by dsimp only; omega))
  intro h8 tk8 d0 d1 hperm e1 F8 N8'
  clear F7 N7 N8
  have hI0 : InvS x t v 2 2 [⟨x 0, t 0, v 0, 0, 0⟩, ⟨x 1, t 1, v 1, 1, 1⟩] := invS_start2
  have hI1 := hI0.perm (hperm.map (fun c => c.2.2))
  have hlt : ∀ c ∈ [d0, d1], @LT.lt Nat _ D c.1 := fun c hc => by
    have := hperm.mem_iff.mp hc
    simp only [List.mem_cons, List.not_mem_nil, or_false] at this
    rcases this with rfl | rfl
    · exact lT0
    · exact lT1
  have hKO : ∀ c ∈ [d0, d1], KO c.2.1 c.2.2 := fun c hc => by
    have := hperm.mem_iff.mp hc
    simp only [List.mem_cons, List.not_mem_nil, or_false] at this
    rcases this with rfl | rfl
    · exact ⟨⟨_, _, _, rfl⟩, hx 0 (by decide) (by decide), ht 0 (by decide) (by decide)⟩
    · exact ⟨⟨_, _, _, rfl⟩, hx 1 (by decide) (by decide), ht 1 (by decide) (by decide)⟩
  obtain ⟨a0, p0, k0⟩ := d0
  obtain ⟨a1, p1, k1⟩ := d1
  have K0 := hKO _ (.head _)
  have K1 := hKO _ (.tail _ (.head _))
  dsimp only at K0 K1 e1 hI1 N8'
  obtain ⟨⟨u0, w0, n0, rfl⟩, K0⟩ := K0
  obtain ⟨⟨u1, w1, n1, rfl⟩, K1⟩ := K1
  clear hperm hKO hI0
  dsimp only [Cel.c, List.cons_append, List.nil_append, List.map_cons, List.map_nil] at N8' hI1
  dsimp only
  have ha0 : @LT.lt Nat _ D a0 := hlt _ (.head _)
  have ha1 : @LT.lt Nat _ D a1 := hlt _ (.tail _ (.head _))
  clear hlt
  have pk := Hold.intro (And.intro hI1 (And.intro e1 (And.intro ha0 (And.intro ha1 (And.intro hx (And.intro ht (And.intro hd (And.intro hkey' hR))))))))
  clear hI1 e1 ha0 ha1 hx ht hd hkey' hR K0 K1
  k_steps
  obtain ⟨hI1, e1, ha0, ha1, hx, ht, hd, hkey', hR⟩ := Hold.out pk
  clear pk
  refine Hold.intro ?_
  rename Fr _ _ _ _ => F9
  rename News _ _ _ _ => N9
  refine iter_rit_K N9 (by k_mem) ?_
  have F9' := cm_start (vo := some (.int 2 _)) (vt := some (.float k0.x k0.t)) F9 (by with_unfolding_all rfl) (by with_unfolding_all rfl)
  (try dsimp only)
  refine for_LIG (LI2G (InvS x t v) (fun a b => Ky.lt b a) g L' D it (L' + 1) oC s) (n := 5) F9' ⟨_, _, 2, 2, _, a0, a1, k0, k1, _, _, _, _, _, _, _, _, _, _, rfl, rfl, by decide, by decide, F9', N9, hI1, e1, ha0, ha1⟩ ?_
  rintro n s' ⟨h, tk', e, o, ot, a0, a1, k0, k1, u0, w0, u1, w1, n0, n1, y1, y2, y3, y4, rfl, rfl, le3, le6, FL, NL, hI, e1, ha0, ha1⟩
  clear F9 N9 F9'
  by_cases he : e < 6
  · refine next_rit_K (pre := [_, _, _]) FL NL ?h1 ?h2 (by omega) ?_
    case h1 => (intro q hq; simp only [List.mem_cons, List.not_mem_nil, or_false] at hq; rcases hq with rfl | rfl | rfl <;> exact neN (by dsimp only; omega))
    case h2 => (intro q hq; simp only [List.mem_cons, List.not_mem_nil, or_false] at hq; rcases hq with rfl <;> exact neN (by dsimp only; omega))
    intro h' FL' NL'
    clear FL NL
    have hIe : IsI (x e) (v e) := hx e (by omega) he
    have hI0 : IsI k0.x k0.v := by
      obtain ⟨q1, _, q3, q4, q5, _⟩ := hI.is k0 (.head _)
      rw [q1, q3]; exact hx _ q4 (by omega)
    dsimp only [List.cons_append, List.nil_append] at NL'
    dsimp only
    have hKO : ∀ k ∈ [k0, k1], IsI k.x k.v ∧ k.t ≠ 0 := fun k hk => by
      obtain ⟨q1, q2, q3, q4, q5, _⟩ := hI.is k hk
      rw [q1, q2, q3]; exact ⟨hx _ q4 (by omega), ht _ q4 (by omega)⟩
    have h66 : (6 : Int) - e - 1 = 6 - (e + 1) := by omega
    rw [h66] at NL'
    k_steps
    · refine Hold.intro ?_
      rename_i hq1 tq1 hq2 tq2 hq3 hlt Tn hq4 FP NP lTn
      have hI2 := hI.put (fun k hk => by
        simp only [List.mem_cons, List.not_mem_nil, or_false] at hk
        rcases hk with rfl
        · exact e1) hlt (by omega)
      have hD2 := hI2.dis (by omega) hd
      simp only [List.pairwise_cons, List.mem_cons, List.not_mem_nil, or_false, forall_eq_or_imp, forall_eq, List.Pairwise.nil, and_true, forall_const, false_imp_iff, implies_true] at hD2
      have Dn1 := hD2
      have N10 : News g L' hq4 ((D, listOf #[.ref a0, .ref a1] 2) :: ([(a0, tupK k0 u0 w0 n0), (a1, tupK k1 u1 w1 n1), (Tn, tupK ⟨x e, t e, v e, o, e⟩ ot tk' 0)] ++ [(it, rit (e + 1) (6 - (e + 1)) 1), (L' + 1, oC)])) := nw_cons NP (by k_mem) (nw_cons NP (by k_mem) (nw_cons NP (by k_mem) (nw_cons NP (by k_mem) (nw_cons NP (by k_mem) (nw_cons NP (by k_mem) (nw_nil))))))
      have Kn : KO (tupK ⟨x e, t e, v e, o, e⟩ ot tk' 0) ⟨x e, t e, v e, o, e⟩ := ⟨⟨_, _, _, rfl⟩, hIe, ht e (by omega) he⟩
      have K0 : KO (tupK k0 u0 w0 n0) k0 := ⟨⟨_, _, _, rfl⟩, (hKO k0 (by simp)).1, (hKO k0 (by simp)).2⟩
      have K1 : KO (tupK k1 u1 w1 n1) k1 := ⟨⟨_, _, _, rfl⟩, (hKO k1 (by simp)).1, (hKO k1 (by simp)).2⟩
      refine heapreplace_max2_K (c0 := (a0, tupK k0 u0 w0 n0, k0)) (c1 := (a1, tupK k1 u1 w1 n1, k1)) (cn := (Tn, tupK ⟨x e, t e, v e, o, e⟩ ot tk' 0, ⟨x e, t e, v e, o, e⟩)) X' T' hS' ?hd ?hu FP N10 ?hne K0 K1 Kn Dn1 ?_
      case hd => exact d18 hroom
      case hu => exact u80 hun
      case hne => (intro q hq; simp only [List.mem_cons, List.mem_append, List.not_mem_nil, or_false] at hq; rcases hq with (rfl | rfl | rfl) | rfl | rfl <;> exact neN (by dsimp only; omega))
      intro h8 tk8 d0 d1 hperm f1 F8 N8'
      have hI3 := hI2.perm (hperm.map (fun c => c.2.2))
      have hlt2 : ∀ c ∈ [d0, d1], @LT.lt Nat _ D c.1 ∧ KO c.2.1 c.2.2 := fun c hc => by
        have := hperm.mem_iff.mp hc
        simp only [List.mem_cons, List.not_mem_nil, or_false] at this
        rcases this with rfl | rfl
        · exact ⟨lTn.1, Kn⟩
        · exact ⟨ha1, K1⟩
      obtain ⟨b0, p0, j0⟩ := d0
      obtain ⟨b1, p1, j1⟩ := d1
      obtain ⟨hb0, K0'⟩ := hlt2 _ (.head _)
      obtain ⟨hb1, K1'⟩ := hlt2 _ (.tail _ (.head _))
      dsimp only at K0' K1' f1 hI3 N8' hb0 hb1
      obtain ⟨⟨r0, s0, m0, rfl⟩, K0', _⟩ := K0'
      obtain ⟨⟨r1, s1, m1, rfl⟩, K1', _⟩ := K1'
      clear hperm hlt2 FP NP N10 K0 K1 Kn Dn1 hD2 hI2
      dsimp only [Cel.c, List.cons_append, List.nil_append, List.map_cons, List.map_nil] at N8' hI3
      dsimp only
      k_steps
      refine Hold.intro ?_
      rename Fr _ _ _ _ => F9
      rename News _ _ _ _ => N9
      refine tup_K (its := [.ref b1]) hh F9 N9 (by exact .head _) (by exact .tail _ (.head _)) rfl rfl rfl (by with_unfolding_all rfl) (by decide) rfl rfl rfl ?_
      intro h11 tk11 F11 N11
      clear F9 N9
      dsimp only
      refine wpAny_execs_cons (aug_add_K F11 N11 rfl rfl rfl (by with_unfolding_all rfl) ?_)
      intro h12 tk12 t12 F12 N12
      clear F11 N11
      dsimp only
      refine wpAny_execs_nil ?_
      dsimp only
      refine wpAny_execs_nil ?_
      dsimp only
      refine Hold.intro ?_
      refine ⟨(7 - (e + 1)).toNat, by omega, _, _, e + 1, o + 1, _, b0, b1, j0, j1, r0, s0, r1, s1, m0, m1, _, _, _, _, rfl, rfl, by omega, by omega, fr_congr F12 (fun y => cm_put y), N12, hI3, f1, hb0, hb1⟩
    · dsimp only
      refine Hold.intro ?_
      refine ⟨(7 - (e + 1)).toNat, by omega, _, _, e + 1, o, ot, a0, a1, k0, k1, u0, w0, u1, w1, n0, n1, _, _, y3, y4, rfl, rfl, by omega, by omega, fr_congr (by assumption) (fun y => cm_skip y), by assumption, hI.skip (fun k hk => by
        simp only [List.mem_cons, List.not_mem_nil, or_false] at hk
        rcases hk with rfl
        · exact e1) (by assumption), e1, ha0, ha1⟩
  · have h6 : e = 6 := by omega
    subst h6
    refine next_rit_end_K (pre := [_, _, _]) hh FL NL ?h1 ?h2 (by decide) ?_
    case h1 => (intro q hq; simp only [List.mem_cons, List.not_mem_nil, or_false] at hq; rcases hq with rfl | rfl | rfl <;> exact neN (by dsimp only; omega))
    case h2 => (intro q hq; simp only [List.mem_cons, List.not_mem_nil, or_false] at hq; rcases hq with rfl <;> exact neN (by dsimp only; omega))
    intro h' FL' NL'
    clear FL NL
    dsimp only [List.cons_append, List.nil_append] at NL'
    refine wpAny_execs_nil ?_
    dsimp only
    k_steps
    have hKO : ∀ k ∈ [k0, k1], IsI k.x k.v ∧ k.t ≠ 0 := fun k hk => by
      obtain ⟨q1, q2, q3, q4, q5, _⟩ := hI.is k hk
      rw [q1, q2, q3]; exact ⟨hx _ q4 (by omega), ht _ q4 (by omega)⟩
    have K0 : KO (tupK k0 u0 w0 n0) k0 := ⟨⟨_, _, _, rfl⟩, (hKO k0 (by simp)).1, (hKO k0 (by simp)).2⟩
    have K1 : KO (tupK k1 u1 w1 n1) k1 := ⟨⟨_, _, _, rfl⟩, (hKO k1 (by simp)).1, (hKO k1 (by simp)).2⟩
    have hD2 := hI.dis (by omega) hd
    have hP := hI.picked
    refine Hold.intro ?_
    refine srt_fwd_K (cs := [(a0, tupK k0 u0 w0 n0, k0), (a1, tupK k1 u1 w1 n1, k1)]) (cells := [_, _]) rfl rfl hS' FL' NL' ?hne ?hK ?hD (by simp) (by simp) kok2 ?_
    case hne => (intro q hq; simp only [List.mem_cons, List.mem_append, List.not_mem_nil, or_false] at hq; rcases hq with (rfl | rfl) | rfl <;> exact neN (by dsimp only; omega))
    case hK => (intro c hc; simp only [List.mem_cons, List.not_mem_nil, or_false] at hc; rcases hc with rfl | rfl <;> assumption)
    case hD => simpa using hD2
    intro h9 nn9 ds hperm F9 N9
    obtain ⟨ts, ets, hpt⟩ := t3_perm (all := [⟨a0, k0, u0, w0, n0⟩, ⟨a1, k1, u1, w1, n1⟩]) hperm
    subst ets
    simp only [t3_refs, t3_cels] at N9
    clear FL' NL' hI hKO K0 K1 hD2 hperm e1 ha0 ha1
    dsimp only
    k_steps
    refine Hold.intro ?_
    have hlen := hpt.length_eq
    refine lc_K (cl := []) hh F9 N9 (by rw [hlen]; simp) ?c1 ?c2 ?c3 ?c4 ?c5 (fun C => ?c6) (fun C => ?c7) (fun C => ?c8) ?c9 ?c10 ?_
    case c1 => rfl
    case c2 => decide
    case c3 => rfl
    case c4 => decide
    case c5 => (intro _; rfl)
    case c6 => rfl
    case c7 => rfl
    case c8 => rfl
    case c9 => decide
    case c10 => exact fun Q' hq => wpAny_Name (wpAny_loadName_local rfl rfl F9.ns (by with_unfolding_all rfl) hq)
    intro h10 tk10 D10 n10 F10 N10
    dsimp only
    refine hR h10 tk10 D10 n10 _ _ (t3_ints ts) (by simpa using hlen) (hP.perm (by simpa using hpt.map fun c => c.k.e)) (fun b o e => F10.keep b o (hg' b o e)) (N10.get (.head _)) ?_
    cases q : s.heap.get? D10 with
    | none => rfl
    | some o => have z := (N10 _ (.head _)).2.2; rw [hg' _ _ q] at z; cases z
end
end Mine
end

section
open PySem PySem.W PySem.Spec PySem.Calls PyProof.Rows
set_option maxRecDepth 100000
namespace Mine
section
set_option maxHeartbeats 1000000 in
theorem nsmallest3 {w : World} {A : Around} {s : Shared} {R : Result → Shared → Prop} {h₀ : Heap} {p : Program} {loose : List Str} {mean : ExcName → Option Value} {mg mb : Str → Option Value}
   {r fl : Addr} {tk t1 t2 t3 : Tok} {x : Int → UInt64} {t : Int → Tok} {v : Int → Int}
   (X : (Mine.hd.heap_39 w.params).In h₀) (T : Top p loose mean mg mb h₀) (hS : NoShare h₀) (hk : Keeps h₀ s.heap) (hroom : A.depth + 40 < recursionLimit) (hun : A.units + 150 < cLine) (hh : A.handled = none)
   (hr : IsRange s.heap r 0 6 1 t1 t2 t3) (hkey : KeyCall w s.heap fl x t) (hx : ∀ i, 0 ≤ i → i < 6 → IsI (x i) (v i)) (ht : ∀ i, 0 ≤ i → i < 6 → t i ≠ 0) (hd : ∀ i j, 0 ≤ i → i < 6 → 0 ≤ j → j < 6 → t i = t j → v i = v j)
   (hR : PickR s R (fun i => - v i) 3) :
   codeAny (model PySem.Challenge.rw_op0141_01.row.prog w) A (.call (.ref 104) ⟨[.int 3 tk, .ref r], [(Str.ofString "key", .ref fl)]⟩) R s := by
  k_with_none
  w_top off
  k_with "exec Try" => (k_here; (with_reducible show wpAny _ _ (exec (Stmt.Try _ _ _ _ _) _) _ _ _); (k_dflt (refine try_plain ?_)); walk_say "MINE try")
  k_with "call builtin:len" => (k_here; (with_reducible show wpAny _ _ (call (Value.builtin "len") [Value.ref _]) _ _ _); (k_dflt (refine' call_len_range (n := 6) ?zk1 ?zk2 ?zk3 ?_; (case zk1 => exact Fr.keep (by assumption) _ _ (by assumption)); (case zk2 => decide +kernel); (case zk3 => decide +kernel))); walk_say "MINE len")
  k_with "call builtin:iter" => (k_here; (with_reducible show wpAny _ _ (call (Value.builtin "iter") [Value.ref _]) _ _ _); (k_dflt (refine' iter_range_K ?zk1 ?zk2 ?zk3 ?_; (case zk1 => k_asm); (case zk2 => k_asm); (case zk3 => exact Fr.keep (by assumption) _ _ (by assumption)))); walk_at "M iter"; walk_say "MINE iter")
  k_with "exec Assign cons ListComp" => (k_here; (with_reducible show wpAny _ _ (exec (Stmt.Assign _ (Expr.ListComp _ _ _ _) _) _) _ _ _); refine Hold.out ?_; walk_say "MINE hold")
  k_with "call type:zip" => (k_here; (with_reducible show wpAny _ _ (call (Value.type "zip") _) _ _ _); (k_dflt (refine' zip_K (n := 3) ?zk1 ?zk2 ?zk3 ?zk4 ?zk5 ?zk6 ?_; (case zk1 => k_asm); (case zk2 => k_asm); (case zk3 => assumption); (case zk4 => decide +kernel); (case zk5 => decide +kernel); (case zk6 => k_mem))); walk_at "M zip"; walk_say "MINE zip")
  k_with "pyIter ref" => (k_here; (with_reducible show wpAny _ _ (pyIter (Value.ref _)) _ _ _); (k_dflt (refine' iter_zip_K ?zk1 ?zk2 ?_; (case zk1 => k_asm); (case zk2 => k_mem))); refine Hold.out ?_; walk_say "MINE iterzip")
  k_with "call ref" => (k_here; (with_reducible show wpAny _ _ (call (Value.ref 70) _) _ _ _); refine Hold.out ?_; walk_say "MINE hold heapify")
  k_with "call ref" => (k_here; (with_reducible show wpAny _ _ (call (Value.ref 63) _) _ _ _); refine Hold.out ?_; walk_say "MINE hold heapreplace")
  k_with "exec For Name Name cons nil" => (k_here; (with_reducible show wpAny _ _ (exec (Stmt.For _ _ _ _ _) _) _ _ _); (k_dflt (refine wpAny_For ?_)); walk_say "MINE for")
  k_with "pyIter ref" => (k_here; (with_reducible show wpAny _ _ (pyIter (Value.ref _)) (fun it s₂ => codeAny _ _ _ _ _) _ _); refine Hold.out ?_; walk_say "MINE hold for")
  k_with "callWith ref" => (k_here; (with_reducible show wpAny _ _ (callWith _ (Value.ref _) [] _ []) _ _ _); (k_dflt (refine' callKey ?zk0 ?zk1 ?zk2 ?zk3 ?zk4 ?zk5 ?zk6 ?zk7 ?_; (case zk0 => assumption); (case zk1 => k_asm); (case zk2 => k_asm); (case zk7 => exact fun Q' hq => wpAny_Name (wpAny_loadName_local rfl rfl (Fr.ns (by assumption)) (by with_unfolding_all rfl) hq)); (case zk3 => exact d5 (by assumption)); (case zk4 => exact u20 (by assumption)); (case zk5 => omega); (case zk6 => omega))); (intro _ _ _ _; walk_say "MINE key"))
  k_with "compareOp Lt float float" => (k_here; (with_reducible show wpAny _ _ (compareOp CmpOp.Lt (Value.float _ _) (Value.float _ _)) _ _ _); (refine' lt_fl ?zk1 ?zk2 ?_; (case zk1 => assumption); (case zk2 => assumption)); walk_say "MINE ltf")
  k_with "exec Assign" => (k_here; (with_reducible show wpAny _ _ (exec (Stmt.Assign [Expr.Tuple _ _ _] _ _) _) _ _ _); (refine Hold.out ?_); walk_say "MINE hold tuple")
  k_with "eval ListComp" => (k_here; (with_reducible show wpAny _ _ (eval (Expr.ListComp _ _ _ _) _) _ _ _); refine Hold.out ?_; walk_say "MINE hold lc")
  k_with "call builtin:list.sort" => (k_here; refine Hold.out ?_; walk_say "MINE hold sort")
  revert X; k_fill; intro X
  refine' enterC X T hk [] ?hh ?k6 ?k7 ?k8 ?k9 ?kB ?kD ?_ ?c2 ?c3 ?c4
  case hh => intro q hq; cases hq
  case k6 => k_is
  case k7 => k_is
  case k8 => omega
  case k9 => exact binds_K (fun a o e => hk _ _ (X a o e)) rfl (by k_is) rfl rfl rfl
  case kB => exact rfl
  case kD => decide +kernel
  case c2 => rfl
  case c3 => rfl
  case c4 => rfl
  intro g L' h₁ tk₁ cells hg hkg X' T' F' N' Y' hL
  k_cells Y'
  (try simp only [List.cons_append, List.nil_append] at N')
  have hg' : Keeps s.heap g := fun b o e => hg b o e (by intro q hq; cases hq)
  have hr' : IsRange g r 0 6 1 t1 t2 t3 := hg' _ _ hr
  have hkey' := hkey.keeps hg'
  have hS' := hS.keeps hkg
  clear hr hkey hg hL hS hk hkg
  (try dsimp only)
  k_steps
  refine Hold.intro ?_
  refine' comp_assign ?k1 ?k0 ?ks ?ky ?kp ?k2 ?k3 ?k4 ?k5 ?k6 ?_
  case k1 => k_asm
  case k0 => rfl
  case ks => with_unfolding_all rfl
  case ky => rfl
  case kp => rfl
  case k2 => rfl
  case k3 => decide
  case k4 => rfl
  case k5 => decide
  case k6 => (intro _; rfl)
  k_steps
  refine Hold.intro ?_
  refine ⟨_, by assumption, by assumption, ?_⟩
  intro g2 C D h2 tk2 gk gs F2 N2 lD
  refine ⟨fun Q' hq => wpAny_pyIter_zip (News.get N2 (.tail _ (.head _))) hq, ?_⟩
  have lz := ltN (lD _ (.head _))
  dsimp only at lz
  have hkey2 := hkey'.keeps gk
  refine nlc_turn (x := x) (t := t) (fl := fl) hh ?hd ?hu (by simp) rfl rfl rfl rfl rfl (List.Mem.head _) ?hoc hkey2 ⟨by omega, by omega, by omega, by omega, by omega, ?hr⟩ (by decide) (by decide) (by decide) (by decide) (x1' := 1) (l1' := 2) (x2' := 1) (l2' := 5) rfl rfl rfl rfl F2 N2 ?_
  case hd => exact d5 hroom
  case hu => exact u20 hun
  case hoc => assumption
  case hr => (intro q hq; simp only [List.mem_cons, List.not_mem_nil, or_false] at hq; rcases hq with rfl <;> (first | (left; omega) | (right; omega)))
  intro h3 tk3 mC3 T0 a0' b0' to0 te0 F3 N3 lT0
  refine nlc_turn (x := x) (t := t) (fl := fl) hh ?hd ?hu (by simp) rfl rfl rfl rfl rfl (List.Mem.tail _ (List.Mem.head _)) ?hoc hkey2 ⟨by omega, by omega, by omega, by omega, by omega, ?hr⟩ (by decide) (by decide) (by decide) (by decide) (x1' := 2) (l1' := 1) (x2' := 2) (l2' := 4) rfl rfl rfl rfl F3 N3 ?_
  case hd => exact d5 hroom
  case hu => exact u20 hun
  case hoc => assumption
  case hr => (intro q hq; simp only [List.mem_cons, List.not_mem_nil, or_false] at hq; rcases hq with rfl | rfl <;> (first | (left; omega) | (right; omega)))
  intro h4 tk4 mC4 T1 a1' b1' to1 te1 F4 N4 lT1
  refine nlc_turn (x := x) (t := t) (fl := fl) hh ?hd ?hu (by simp) rfl rfl rfl rfl rfl (List.Mem.tail _ (List.Mem.tail _ (List.Mem.head _))) ?hoc hkey2 ⟨by omega, by omega, by omega, by omega, by omega, ?hr⟩ (by decide) (by decide) (by decide) (by decide) (x1' := 3) (l1' := 0) (x2' := 3) (l2' := 3) rfl rfl rfl rfl F4 N4 ?_
  case hd => exact d5 hroom
  case hu => exact u20 hun
  case hoc => assumption
  case hr => (intro q hq; simp only [List.mem_cons, List.not_mem_nil, or_false] at hq; rcases hq with rfl | rfl | rfl <;> (first | (left; omega) | (right; omega)))
  intro h5 tk5 mC5 T2 a2' b2' to2 te2 F5 N5 lT2
  refine nlc_end hh ⟨by omega, by omega, by omega, by omega, by omega, ?hr⟩ (by decide) F5 N5 ?_
  case hr => (intro q hq; simp only [List.mem_cons, List.not_mem_nil, or_false] at hq; rcases hq with rfl | rfl | rfl | rfl <;> (first | (left; omega) | (right; omega)))
  intro h6 F6 N6
  refine ⟨rfl, _, _, _, F6, N6, ?_⟩
  intro h7 tk7 F7 N7
  clear F2 N2 F3 N3 F4 N4 F5 N5 F6 N6 hkey2 gk gs lD
  dsimp only [List.nil_append, List.cons_append] at N7
  rename_i oC hoC tkA hA tkB it hB lit hC FC NC hD tkD tt uu vv r1 r2 r3 r4 hE zz TI TO i1 FE NE q2 q3 q4 q1
  clear FC NC r1 r2 r3 r4 FE NE
  dsimp only
  k_steps
  refine Hold.intro ?_
  have N8 : News g L' h7 ((D, listOf #[.ref T0, .ref T1, .ref T2] 3) :: ([(T0, tup3 (x 0) (t 0) 0 to0 0 te0), (T1, tup3 (x 1) (t 1) 1 to1 1 te1), (T2, tup3 (x 2) (t 2) 2 to2 2 te2)] ++ [(it, rit 3 3 1), (L' + 1, oC)])) := nw_cons N7 (by k_mem) (nw_cons N7 (by k_mem) (nw_cons N7 (by k_mem) (nw_cons N7 (by k_mem) (nw_cons N7 (by k_mem) (nw_cons N7 (by k_mem) (nw_nil))))))
  refine heapify_max3_K (c0 := (T0, tup3 (x 0) (t 0) 0 to0 0 te0, ⟨x 0, t 0, v 0, 0, 0⟩)) (c1 := (T1, tup3 (x 1) (t 1) 1 to1 1 te1, ⟨x 1, t 1, v 1, 1, 1⟩)) (c2 := (T2, tup3 (x 2) (t 2) 2 to2 2 te2, ⟨x 2, t 2, v 2, 2, 2⟩)) X' T' hS' ?hd ?hu hh F7 N8 ?hne ⟨⟨_, _, _, rfl⟩, hx 0 (by decide) (by decide), ht 0 (by decide) (by decide)⟩ ⟨⟨_, _, _, rfl⟩, hx 1 (by decide) (by decide), ht 1 (by decide) (by decide)⟩ ⟨⟨_, _, _, rfl⟩, hx 2 (by decide) (by decide), ht 2 (by decide) (by decide)⟩ ⟨hd 0 1 (by decide) (by decide) (by decide) (by decide), by show (0 : Int) ≠ 1; decide⟩ ⟨hd 0 2 (by decide) (by decide) (by decide) (by decide), by show (0 : Int) ≠ 2; decide⟩ ⟨hd 1 2 (by decide) (by decide) (by decide) (by decide), by show (1 : Int) ≠ 2; decide⟩ ?_
  case hd => exact d18 hroom
  case hu => exact u80 hun
  case hne => (intro q hq; simp only [List.mem_cons, List.mem_append, List.not_mem_nil, or_false] at hq; rcases hq with (rfl | rfl | rfl) | rfl | rfl <;> exact neN (by dsimp only; omega))
  intro h8 tk8 d0 d1 d2 hperm e1 e2 F8 N8'
  clear F7 N7 N8
  have hI0 : InvS x t v 3 3 [⟨x 0, t 0, v 0, 0, 0⟩, ⟨x 1, t 1, v 1, 1, 1⟩, ⟨x 2, t 2, v 2, 2, 2⟩] := invS_start3
  have hI1 := hI0.perm (hperm.map (fun c => c.2.2))
  have hlt : ∀ c ∈ [d0, d1, d2], @LT.lt Nat _ D c.1 := fun c hc => by
    have := hperm.mem_iff.mp hc
    simp only [List.mem_cons, List.not_mem_nil, or_false] at this
    rcases this with rfl | rfl | rfl
    · exact lT0
    · exact lT1
    · exact lT2
  have hKO : ∀ c ∈ [d0, d1, d2], KO c.2.1 c.2.2 := fun c hc => by
    have := hperm.mem_iff.mp hc
    simp only [List.mem_cons, List.not_mem_nil, or_false] at this
    rcases this with rfl | rfl | rfl
    · exact ⟨⟨_, _, _, rfl⟩, hx 0 (by decide) (by decide), ht 0 (by decide) (by decide)⟩
    · exact ⟨⟨_, _, _, rfl⟩, hx 1 (by decide) (by decide), ht 1 (by decide) (by decide)⟩
    · exact ⟨⟨_, _, _, rfl⟩, hx 2 (by decide) (by decide), ht 2 (by decide) (by decide)⟩
  obtain ⟨a0, p0, k0⟩ := d0
  obtain ⟨a1, p1, k1⟩ := d1
  obtain ⟨a2, p2, k2⟩ := d2
  have K0 := hKO _ (.head _)
  have K1 := hKO _ (.tail _ (.head _))
  have K2 := hKO _ (.tail _ (.tail _ (.head _)))
  dsimp only at K0 K1 K2 e1 e2 hI1 N8'
  obtain ⟨⟨u0, w0, n0, rfl⟩, K0⟩ := K0
  obtain ⟨⟨u1, w1, n1, rfl⟩, K1⟩ := K1
  obtain ⟨⟨u2, w2, n2, rfl⟩, K2⟩ := K2
  clear hperm hKO hI0
  dsimp only [Cel.c, List.cons_append, List.nil_append, List.map_cons, List.map_nil] at N8' hI1
  dsimp only
  have ha0 : @LT.lt Nat _ D a0 := hlt _ (.head _)
  have ha1 : @LT.lt Nat _ D a1 := hlt _ (.tail _ (.head _))
  have ha2 : @LT.lt Nat _ D a2 := hlt _ (.tail _ (.tail _ (.head _)))
  clear hlt
  have pk := Hold.intro (And.intro hI1 (And.intro e1 (And.intro e2 (And.intro ha0 (And.intro ha1 (And.intro ha2 (And.intro hx (And.intro ht (And.intro hd (And.intro hkey' hR))))))))))
  clear hI1 e1 e2 ha0 ha1 ha2 hx ht hd hkey' hR K0 K1 K2
  k_steps
  obtain ⟨hI1, e1, e2, ha0, ha1, ha2, hx, ht, hd, hkey', hR⟩ := Hold.out pk
  clear pk
  refine Hold.intro ?_
  rename Fr _ _ _ _ => F9
  rename News _ _ _ _ => N9
  refine iter_rit_K N9 (by k_mem) ?_
  have F9' := cm_start (vo := some (.int 3 _)) (vt := some (.float k0.x k0.t)) F9 (by with_unfolding_all rfl) (by with_unfolding_all rfl)
  (try dsimp only)
  refine for_LIG (LI3G (InvS x t v) (fun a b => Ky.lt b a) g L' D it (L' + 1) oC s) (n := 4) F9' ⟨_, _, 3, 3, _, a0, a1, a2, k0, k1, k2, _, _, _, _, _, _, _, _, _, _, _, _, _, rfl, rfl, by decide, by decide, F9', N9, hI1, e1, e2, ha0, ha1, ha2⟩ ?_
  rintro n s' ⟨h, tk', e, o, ot, a0, a1, a2, k0, k1, k2, u0, w0, u1, w1, u2, w2, n0, n1, n2, y1, y2, y3, y4, rfl, rfl, le3, le6, FL, NL, hI, e1, e2, ha0, ha1, ha2⟩
  clear F9 N9 F9'
  by_cases he : e < 6
  · refine next_rit_K (pre := [_, _, _, _]) FL NL ?h1 ?h2 (by omega) ?_
    case h1 => (intro q hq; simp only [List.mem_cons, List.not_mem_nil, or_false] at hq; rcases hq with rfl | rfl | rfl | rfl <;> exact neN (by dsimp only; omega))
    case h2 => (intro q hq; simp only [List.mem_cons, List.not_mem_nil, or_false] at hq; rcases hq with rfl <;> exact neN (by dsimp only; omega))
    intro h' FL' NL'
    clear FL NL
    have hIe : IsI (x e) (v e) := hx e (by omega) he
    have hI0 : IsI k0.x k0.v := by
      obtain ⟨q1, _, q3, q4, q5, _⟩ := hI.is k0 (.head _)
      rw [q1, q3]; exact hx _ q4 (by omega)
    dsimp only [List.cons_append, List.nil_append] at NL'
    dsimp only
    have hKO : ∀ k ∈ [k0, k1, k2], IsI k.x k.v ∧ k.t ≠ 0 := fun k hk => by
      obtain ⟨q1, q2, q3, q4, q5, _⟩ := hI.is k hk
      rw [q1, q2, q3]; exact ⟨hx _ q4 (by omega), ht _ q4 (by omega)⟩
    have h66 : (6 : Int) - e - 1 = 6 - (e + 1) := by omega
    rw [h66] at NL'
    k_steps
    · refine Hold.intro ?_
      rename_i hq1 tq1 hq2 tq2 hq3 hlt Tn hq4 FP NP lTn
      have hI2 := hI.put (fun k hk => by
        simp only [List.mem_cons, List.not_mem_nil, or_false] at hk
        rcases hk with rfl | rfl
        · exact e1
        · exact e2) hlt (by omega)
      have hD2 := hI2.dis (by omega) hd
      simp only [List.pairwise_cons, List.mem_cons, List.not_mem_nil, or_false, forall_eq_or_imp, forall_eq, List.Pairwise.nil, and_true, forall_const, false_imp_iff, implies_true] at hD2
      obtain ⟨⟨Dn1, Dn2⟩, D12⟩ := hD2
      have N10 : News g L' hq4 ((D, listOf #[.ref a0, .ref a1, .ref a2] 3) :: ([(a0, tupK k0 u0 w0 n0), (a1, tupK k1 u1 w1 n1), (a2, tupK k2 u2 w2 n2), (Tn, tupK ⟨x e, t e, v e, o, e⟩ ot tk' 0)] ++ [(it, rit (e + 1) (6 - (e + 1)) 1), (L' + 1, oC)])) := nw_cons NP (by k_mem) (nw_cons NP (by k_mem) (nw_cons NP (by k_mem) (nw_cons NP (by k_mem) (nw_cons NP (by k_mem) (nw_cons NP (by k_mem) (nw_cons NP (by k_mem) (nw_nil)))))))
      have Kn : KO (tupK ⟨x e, t e, v e, o, e⟩ ot tk' 0) ⟨x e, t e, v e, o, e⟩ := ⟨⟨_, _, _, rfl⟩, hIe, ht e (by omega) he⟩
      have K0 : KO (tupK k0 u0 w0 n0) k0 := ⟨⟨_, _, _, rfl⟩, (hKO k0 (by simp)).1, (hKO k0 (by simp)).2⟩
      have K1 : KO (tupK k1 u1 w1 n1) k1 := ⟨⟨_, _, _, rfl⟩, (hKO k1 (by simp)).1, (hKO k1 (by simp)).2⟩
      have K2 : KO (tupK k2 u2 w2 n2) k2 := ⟨⟨_, _, _, rfl⟩, (hKO k2 (by simp)).1, (hKO k2 (by simp)).2⟩
      refine heapreplace_max3_K (c0 := (a0, tupK k0 u0 w0 n0, k0)) (c1 := (a1, tupK k1 u1 w1 n1, k1)) (c2 := (a2, tupK k2 u2 w2 n2, k2)) (cn := (Tn, tupK ⟨x e, t e, v e, o, e⟩ ot tk' 0, ⟨x e, t e, v e, o, e⟩)) X' T' hS' ?hd ?hu FP N10 ?hne K0 K1 K2 Kn Dn1 Dn2 D12 ?_
      case hd => exact d18 hroom
      case hu => exact u80 hun
      case hne => (intro q hq; simp only [List.mem_cons, List.mem_append, List.not_mem_nil, or_false] at hq; rcases hq with (rfl | rfl | rfl | rfl) | rfl | rfl <;> exact neN (by dsimp only; omega))
      intro h8 tk8 d0 d1 d2 hperm f1 f2 F8 N8'
      have hI3 := hI2.perm (hperm.map (fun c => c.2.2))
      have hlt2 : ∀ c ∈ [d0, d1, d2], @LT.lt Nat _ D c.1 ∧ KO c.2.1 c.2.2 := fun c hc => by
        have := hperm.mem_iff.mp hc
        simp only [List.mem_cons, List.not_mem_nil, or_false] at this
        rcases this with rfl | rfl | rfl
        · exact ⟨lTn.1, Kn⟩
        · exact ⟨ha1, K1⟩
        · exact ⟨ha2, K2⟩
      obtain ⟨b0, p0, j0⟩ := d0
      obtain ⟨b1, p1, j1⟩ := d1
      obtain ⟨b2, p2, j2⟩ := d2
      obtain ⟨hb0, K0'⟩ := hlt2 _ (.head _)
      obtain ⟨hb1, K1'⟩ := hlt2 _ (.tail _ (.head _))
      obtain ⟨hb2, K2'⟩ := hlt2 _ (.tail _ (.tail _ (.head _)))
      dsimp only at K0' K1' K2' f1 f2 hI3 N8' hb0 hb1 hb2
      obtain ⟨⟨r0, s0, m0, rfl⟩, K0', _⟩ := K0'
      obtain ⟨⟨r1, s1, m1, rfl⟩, K1', _⟩ := K1'
      obtain ⟨⟨r2, s2, m2, rfl⟩, K2', _⟩ := K2'
      clear hperm hlt2 FP NP N10 K0 K1 K2 Kn Dn1 Dn2 D12 hI2
      dsimp only [Cel.c, List.cons_append, List.nil_append, List.map_cons, List.map_nil] at N8' hI3
      dsimp only
      k_steps
      refine Hold.intro ?_
      rename Fr _ _ _ _ => F9
      rename News _ _ _ _ => N9
      refine tup_K (its := [.ref b1, .ref b2]) hh F9 N9 (by exact .head _) (by exact .tail _ (.head _)) rfl rfl rfl (by with_unfolding_all rfl) (by decide) rfl rfl rfl ?_
      intro h11 tk11 F11 N11
      clear F9 N9
      dsimp only
      refine wpAny_execs_cons (aug_add_K F11 N11 rfl rfl rfl (by with_unfolding_all rfl) ?_)
      intro h12 tk12 t12 F12 N12
      clear F11 N11
      dsimp only
      refine wpAny_execs_nil ?_
      dsimp only
      refine wpAny_execs_nil ?_
      dsimp only
      refine Hold.intro ?_
      refine ⟨(7 - (e + 1)).toNat, by omega, _, _, e + 1, o + 1, _, b0, b1, b2, j0, j1, j2, r0, s0, r1, s1, r2, s2, m0, m1, m2, _, _, _, _, rfl, rfl, by omega, by omega, fr_congr F12 (fun y => cm_put y), N12, hI3, f1, f2, hb0, hb1, hb2⟩
    · dsimp only
      refine Hold.intro ?_
      refine ⟨(7 - (e + 1)).toNat, by omega, _, _, e + 1, o, ot, a0, a1, a2, k0, k1, k2, u0, w0, u1, w1, u2, w2, n0, n1, n2, _, _, y3, y4, rfl, rfl, by omega, by omega, fr_congr (by assumption) (fun y => cm_skip y), by assumption, hI.skip (fun k hk => by
        simp only [List.mem_cons, List.not_mem_nil, or_false] at hk
        rcases hk with rfl | rfl
        · exact e1
        · exact e2) (by assumption), e1, e2, ha0, ha1, ha2⟩
  · have h6 : e = 6 := by omega
    subst h6
    refine next_rit_end_K (pre := [_, _, _, _]) hh FL NL ?h1 ?h2 (by decide) ?_
    case h1 => (intro q hq; simp only [List.mem_cons, List.not_mem_nil, or_false] at hq; rcases hq with rfl | rfl | rfl | rfl <;> exact neN (by dsimp only; omega))
    case h2 => (intro q hq; simp only [List.mem_cons, List.not_mem_nil, or_false] at hq; rcases hq with rfl <;> exact neN (by dsimp only; omega))
    intro h' FL' NL'
    clear FL NL
    dsimp only [List.cons_append, List.nil_append] at NL'
    refine wpAny_execs_nil ?_
    dsimp only
    k_steps
    have hKO : ∀ k ∈ [k0, k1, k2], IsI k.x k.v ∧ k.t ≠ 0 := fun k hk => by
      obtain ⟨q1, q2, q3, q4, q5, _⟩ := hI.is k hk
      rw [q1, q2, q3]; exact ⟨hx _ q4 (by omega), ht _ q4 (by omega)⟩
    have K0 : KO (tupK k0 u0 w0 n0) k0 := ⟨⟨_, _, _, rfl⟩, (hKO k0 (by simp)).1, (hKO k0 (by simp)).2⟩
    have K1 : KO (tupK k1 u1 w1 n1) k1 := ⟨⟨_, _, _, rfl⟩, (hKO k1 (by simp)).1, (hKO k1 (by simp)).2⟩
    have K2 : KO (tupK k2 u2 w2 n2) k2 := ⟨⟨_, _, _, rfl⟩, (hKO k2 (by simp)).1, (hKO k2 (by simp)).2⟩
    have hD2 := hI.dis (by omega) hd
    have hP := hI.picked
    refine Hold.intro ?_
    refine srt_fwd_K (cs := [(a0, tupK k0 u0 w0 n0, k0), (a1, tupK k1 u1 w1 n1, k1), (a2, tupK k2 u2 w2 n2, k2)]) (cells := [_, _, _]) rfl rfl hS' FL' NL' ?hne ?hK ?hD (by simp) (by simp) kok3 ?_
    case hne => (intro q hq; simp only [List.mem_cons, List.mem_append, List.not_mem_nil, or_false] at hq; rcases hq with (rfl | rfl | rfl) | rfl <;> exact neN (by dsimp only; omega))
    case hK => (intro c hc; simp only [List.mem_cons, List.not_mem_nil, or_false] at hc; rcases hc with rfl | rfl | rfl <;> assumption)
    case hD => simpa using hD2
    intro h9 nn9 ds hperm F9 N9
    obtain ⟨ts, ets, hpt⟩ := t3_perm (all := [⟨a0, k0, u0, w0, n0⟩, ⟨a1, k1, u1, w1, n1⟩, ⟨a2, k2, u2, w2, n2⟩]) hperm
    subst ets
    simp only [t3_refs, t3_cels] at N9
    clear FL' NL' hI hKO K0 K1 K2 hD2 hperm e1 e2 ha0 ha1 ha2
    dsimp only
    k_steps
    refine Hold.intro ?_
    have hlen := hpt.length_eq
    refine lc_K (cl := []) hh F9 N9 (by rw [hlen]; simp) ?c1 ?c2 ?c3 ?c4 ?c5 (fun C => ?c6) (fun C => ?c7) (fun C => ?c8) ?c9 ?c10 ?_
    case c1 => rfl
    case c2 => decide
    case c3 => rfl
    case c4 => decide
    case c5 => (intro _; rfl)
    case c6 => rfl
    case c7 => rfl
    case c8 => rfl
    case c9 => decide
    case c10 => exact fun Q' hq => wpAny_Name (wpAny_loadName_local rfl rfl F9.ns (by with_unfolding_all rfl) hq)
    intro h10 tk10 D10 n10 F10 N10
    dsimp only
    refine hR h10 tk10 D10 n10 _ _ (t3_ints ts) (by simpa using hlen) (hP.perm (by simpa using hpt.map fun c => c.k.e)) (fun b o e => F10.keep b o (hg' b o e)) (N10.get (.head _)) ?_
    cases q : s.heap.get? D10 with
    | none => rfl
    | some o => have z := (N10 _ (.head _)).2.2; rw [hg' _ _ q] at z; cases z
end
end Mine
end

section
open PySem PySem.W PySem.Spec PySem.Calls PyProof.Rows
set_option maxRecDepth 100000
namespace Mine
section
variable {prog : Program} {w : World} {A : Around} {E : Value → Shared → Prop} {s : Shared} {env : Env} {g : Heap} {L : Addr} {m : Str → Option Value}
/-- what a comprehension's block asks of its source, tests and element -/
def LcSrc (prog : Program) (w : World) (A : Around) (env : Env) (g : Heap) (L : Addr) (m : Str → Option Value) (elt : Expr) (x : Str) (ifs : List Expr) (scope : Scope) (cl : List (Str × Addr)) (p : Value → Bool) (FF : Value → Value → Prop) (Q : Value → Shared → Prop) (itv : Value) (s₂ : Shared) : Prop :=
  ∃ I oI fp n P St news, itv = .ref I ∧ Walks prog w A I fp [I] n P St ∧ n ≤ sizeLine ∧ St 0 s₂.heap ∧ (∀ b ∈ fp, ∃ o, s₂.heap.get? b = some o) ∧
    Fr g L s₂.heap m ∧ News g L s₂.heap ((I, oI) :: news) ∧ (∀ q ∈ news, q.1 ≠ I) ∧
    (∀ C i v s₃ m₃, P i v → s₃.heap.Ns C m₃ → m₃ x = some v → (∀ b o, b ≠ I → s₂.heap.get? b = some o → s₃.heap.get? b = some o) →
      wpAny (model prog w) A (forIn ifs true fun c r => if r = true then do let ok ← isTrue c (compEnvC scope cl C env) (eval c (compEnvC scope cl C env)); pure (ForInStep.yield ok) else pure (ForInStep.yield r))
        (fun ok s₄ => ok = p v ∧ PySem.Keeps s₃ s₄) (fun _ _ => False) s₃) ∧
    (∀ C i v s₃ m₃, P i v → p v = true → s₃.heap.Ns C m₃ → m₃ x = some v → (∀ b o, b ≠ I → s₂.heap.get? b = some o → s₃.heap.get? b = some o) →
      wpAny (model prog w) A (eval elt (compEnvC scope cl C env)) (fun y s₄ => FF v y ∧ PySem.Keeps s₃ s₄) (fun _ _ => False) s₃) ∧
    (∀ D h' tk (ys vs : List Value) n', vs.length = n → (∀ j v, vs[j]? = some v → P j v) → Paired FF (vs.filter p) ys → Fr g L h' m → News g L h' ((D, lsto ys n') :: news) → (∀ q ∈ news, q.1 < D) → Q (.ref D) { s₂ with heap := h', toks := tk })
theorem lcw {elt iter : Expr} {x : Str} {px pos : Pos} {ifs : List Expr} {scope : Scope} {cl : List (Str × Addr)} {Q : Value → Shared → Prop} (p : Value → Bool) (FF : Value → Value → Prop) (F₀ : Fr g L s.heap m)
    (hclos : closureFor scope env = pure cl) (hcell : ∀ y ∈ scope.names, y.2 ≠ .cell) (hkind : scope.kind = .function)
    (hnames : ∀ y ∈ scope.names, y.2 = .local → scope.names.lookup y.1 = some .local) (hs : ∀ x, foldedSetIterable iter env x = pure x)
    (hx : ∀ C, (compEnvC scope cl C env).kindOf x = some .local)
    (h : wpAny (model prog w) A (eval iter env) (fun xv s₁ => wpAny (model prog w) A (pyIter xv) (LcSrc prog w A env g L m elt x ifs scope cl p FF Q) E s₁) E s) :
    wpAny (model prog w) A (eval (.ListComp elt [⟨.Name x px, iter, ifs, 0⟩] scope pos) env) Q E s := by
  refine comp_enterF F₀ hclos hcell hkind hnames hs (wpAny_mono h (fun xv s₁ h₁ => wpAny_mono h₁ (fun itv s₂ h₂ => ?_) fun _ _ e => e) fun _ _ e => e)
  obtain ⟨I, oI, fp, n, P, St, news, rfl, W, hsz, hst, hfp, F, N, hne, htest, helt, hQ⟩ := h₂
  refine ⟨(I, oI) :: news, F, N, ?_⟩
  intro g2 C D h₁ tk kg ks F2 N2 hlt
  have old : ∀ b o, s₂.heap.get? b = some o → h₁.get? b = some o ∧ b ≠ D ∧ b ≠ C := fun b o e => by
    by_cases hb : ∃ q ∈ (I, oI) :: news, b = q.1
    · obtain ⟨q, hq, rfl⟩ := hb
      have z := N2 q (.tail _ hq)
      have zz := N q hq
      rw [zz.1] at e; cases e
      exact ⟨z.1, Nat.ne_of_lt (hlt q hq), z.2.1⟩
    · have z := ks b o e (fun q hq e2 => hb ⟨q, hq, e2⟩)
      refine ⟨F2.keep _ _ z, fun e2 => ?_, fun e2 => ?_⟩
      · have := (N2 _ (.head _)).2.2; dsimp only at this; rw [← e2, z] at this; cases this
      · have z1 := Heap.lt_size z; have z2 := F2.above; rw [e2] at z1; exact absurd (Nat.lt_of_lt_of_le z1 z2) (Nat.lt_irrefl _)
  have hst1 : St 0 h₁ := W.frame _ _ _ hst fun b _ o e => (old b o e).1
  refine ⟨fun Q' hq => W.self 0 _ _ _ hst1 hq, ?_⟩
  have nD := N2 (D, lsto [] 0) (.head _)
  have nI := N2 (I, oI) (.tail _ (.head _))
  have hID : I ≠ D := Nat.ne_of_lt (hlt _ (.head _))
  refine codeAny_compLoop_walk (hsz := hsz) (cenv := compEnvC scope cl C env) (m := fun _ => none) W p FF (hx C) (by show (scope.kind == .class || (scope.kind == .module && _)) = false; rw [hkind]; rfl) nD.2.1
    (fun hm => by obtain ⟨o, e⟩ := hfp _ hm; exact (old _ _ e).2.1 rfl) (fun hm => by obtain ⟨o, e⟩ := hfp _ hm; exact (old _ _ e).2.2 rfl) hst1 ⟨_, nD.1⟩ F2.ns ?t ?e ?r
  case t =>
    intro i v s₃ m₃ hv hn hm hk htk
    exact wpAny_mono (htest C i v s₃ m₃ hv hn hm fun b o hb e => hk b o (old _ _ e).2.2 (by simpa using hb) (old _ _ e).2.1 (old _ _ e).1) (fun _ _ x => x) fun _ _ x => x.elim
  case e =>
    intro i v s₃ m₃ hv hpv hn hm hk htk
    exact wpAny_mono (helt C i v s₃ m₃ hv hpv hn hm fun b o hb e => hk b o (old _ _ e).2.2 (by simpa using hb) (old _ _ e).2.1 (old _ _ e).1) (fun _ _ x => x) fun _ _ x => x.elim
  case r =>
    intro h' tk' m' ys vs hn hl hpl hlen hP hF hk
    obtain ⟨n', hD'⟩ := hpl
    have kp : ∀ b o, b ∉ [C, I, D] → h₁.get? b = some o → h'.get? b = some o := fun b o hb e => by
      simp only [List.mem_cons, List.not_mem_nil, or_false, not_or] at hb
      exact hk b o hb.1 (by simpa using hb.2.1) hb.2.2 e
    have eD : ({ cls := .type "list", data := .seq ys n' } : Obj) = lsto ys.toList n' := by simp [lsto]
    refine ⟨rfl, m', lsto ys.toList n', news, ?_, ?_, ?_⟩
    · refine ⟨hn, fun b o e => kp b o (fun q => ?_) (F2.keep b o e), F2.above⟩
      simp only [List.mem_cons, List.not_mem_nil, or_false] at q
      rcases q with rfl | rfl | rfl
      · have z1 := Heap.lt_size e; have z2 := F2.above; exact absurd (Nat.lt_of_lt_of_le z1 z2) (Nat.lt_irrefl _)
      · rw [nI.2.2] at e; cases e
      · rw [nD.2.2] at e; cases e
    · intro q hq
      rcases List.mem_cons.mp hq with rfl | hq
      · exact ⟨by rw [← eD]; exact hD', nD.2⟩
      · have z := N2 q (.tail _ (.tail _ hq))
        refine ⟨kp _ _ (fun qq => ?_) z.1, z.2⟩
        simp only [List.mem_cons, List.not_mem_nil, or_false] at qq
        rcases qq with qq | qq | qq
        · exact z.2.1 qq
        · exact hne q hq qq
        · exact Nat.ne_of_lt (hlt q (.tail _ hq)) qq
    · intro h'' F'' N''
      exact hQ D h'' tk' ys.toList vs n' hlen hP hF F'' N'' (fun q hq => hlt q (.tail _ hq))
end
end Mine
end

section
open PySem PySem.W PySem.Spec PySem.Calls PyProof.Rows
set_option maxRecDepth 100000
namespace Mine
section
variable {prog : Program} {w : World} {A : Around} {E : Value → Shared → Prop} {s : Shared} {env : Env} {g : Heap} {L : Addr} {m : Str → Option Value} {news : List (Addr × Obj)}
/-- the tests of a block, at one item -/
abbrev Tests (prog : Program) (w : World) (A : Around) (env : Env) (ifs : List Expr) (scope : Scope) (cl : List (Str × Addr)) (C : Addr) (Q : Bool → Shared → Prop) (s : Shared) : Prop :=
  wpAny (model prog w) A (forIn ifs true fun c r => if r = true then do let ok ← isTrue c (compEnvC scope cl C env) (eval c (compEnvC scope cl C env)); pure (ForInStep.yield ok) else pure (ForInStep.yield r)) Q (fun _ _ => False) s
theorem tests_none {scope : Scope} {cl : List (Str × Addr)} {C : Addr} {Q : Bool → Shared → Prop} (h : Q true s) : Tests prog w A env [] scope cl C Q s := wpAny_pure h
theorem tests_one {c : Expr} {scope : Scope} {cl : List (Str × Addr)} {C : Addr} {Q : Bool → Shared → Prop}
    (h : wpAny (model prog w) A (isTrue c (compEnvC scope cl C env) (eval c (compEnvC scope cl C env))) Q (fun _ _ => False) s) : Tests prog w A env [c] scope cl C Q s := by
  unfold Tests
  rw [List.forIn_cons]
  refine wpAny_bind ?_
  simp only [if_true]
  refine wpAny_bind (wpAny_mono h (fun ok s' hq => wpAny_pure ?_) fun _ _ x => x)
  exact wpAny_pure hq
theorem src_list {elt : Expr} {x : Str} {ifs : List Expr} {scope : Scope} {cl : List (Str × Addr)} {p : Value → Bool} {FF : Value → Value → Prop} {Q : Value → Shared → Prop} {l : Addr} {cs : List Value}
    (hh : A.handled = none) (F : Fr g L s.heap m) (N : News g L s.heap news) (hl : s.heap.IsList l cs.toArray) (h64 : cs.length ≤ sizeLine)
    (htest : ∀ C v s₃ m₃, v ∈ cs → s₃.heap.Ns C m₃ → m₃ x = some v → (∀ b o, s.heap.get? b = some o → s₃.heap.get? b = some o) → Tests prog w A env ifs scope cl C (fun ok s₄ => ok = p v ∧ PySem.Keeps s₃ s₄) s₃)
    (helt : ∀ C v s₃ m₃, v ∈ cs → p v = true → s₃.heap.Ns C m₃ → m₃ x = some v → (∀ b o, s.heap.get? b = some o → s₃.heap.get? b = some o) →
      wpAny (model prog w) A (eval elt (compEnvC scope cl C env)) (fun y s₄ => FF v y ∧ PySem.Keeps s₃ s₄) (fun _ _ => False) s₃)
    (hQ : ∀ D h' tk ys n', Paired FF (cs.filter p) ys → Fr g L h' m → News g L h' ((D, lsto ys n') :: news) → (∀ q ∈ news, q.1 < D) → Q (.ref D) { s with heap := h', toks := tk }) :
    wpAny (model prog w) A (pyIter (.ref l)) (LcSrc prog w A env g L m elt x ifs scope cl p FF Q) E s := by
  obtain ⟨ol, hol, _⟩ := id hl
  have hlI : l ≠ s.heap.objs.size := Nat.ne_of_lt (Heap.lt_size hol)
  refine wpAny_pyIter_list hl ?_
  have up : ∀ b o, s.heap.get? b = some o → (s.heap.push { cls := .type "list_iterator", data := .fields #[.ref l, .int 0 0] }).get? b = some o := fun b o e => Heap.get?_push_of_some _ e
  have hlt : ∀ b o, s.heap.get? b = some o → b ≠ s.heap.objs.size := fun b o e => Nat.ne_of_lt (Heap.lt_size e)
  obtain ⟨F2, N2, l2⟩ := led_push F N { cls := .type "list_iterator", data := .fields #[.ref l, .int 0 0] }
  refine ⟨_, _, _, _, _, _, news, rfl, Walks.list hh s.heap.objs.size l hlI cs.toArray, by rw [List.size_toArray]; exact h64, ⟨⟨_, Heap.get?_push_size _ rfl, rfl, rfl⟩, hl.at fun o e => up _ _ e⟩, ?_, F2, N2, fun q hq => Nat.ne_of_lt (l2 q hq), ?_, ?_, ?_⟩
  · intro b hb
    simp only [List.mem_cons, List.not_mem_nil, or_false] at hb
    rcases hb with rfl | rfl
    · exact ⟨_, Heap.get?_push_size _ rfl⟩
    · exact ⟨_, up _ _ hol⟩
  · intro C i v s₃ m₃ hP hn hm hk
    exact htest C v s₃ m₃ (List.mem_of_getElem? (by simpa using hP)) hn hm fun b o e => hk b o (hlt b o e) (up _ _ e)
  · intro C i v s₃ m₃ hP hp hn hm hk
    exact helt C v s₃ m₃ (List.mem_of_getElem? (by simpa using hP)) hp hn hm fun b o e => hk b o (hlt b o e) (up _ _ e)
  · intro D h' tk ys vs n' hlen hP hF F' N' hD
    have : vs = cs := by
      apply List.ext_getElem?
      intro i
      cases e : vs[i]? with
      | some v => have := hP i v e; simpa using this.symm
      | none => have := List.getElem?_eq_none_iff.mp e; rw [hlen, List.size_toArray] at this; exact (List.getElem?_eq_none this).symm
    subst this
    exact hQ D h' tk ys n' hF F' N' hD
theorem walks_range (hh : A.handled = none) (I : Addr) (n : Nat) :
    Walks prog w A I [I] [I] n (fun i v => i < n ∧ ∃ t, v = .int (0 + i * 1) t) (fun i h => IsRangeIter h I (0 + (i : Nat) * 1) ((n : Int) - (i : Nat)) 1) where
  sub := (Walks.range (prog := prog) (w := w) hh I 0 1 n).sub
  frame := (Walks.range (prog := prog) (w := w) hh I 0 1 n).frame
  item := fun i s Q E hi st hQ => (Walks.range hh I 0 1 n).item i s Q E hi st fun v h' tk hv => hQ v h' tk ⟨hi, hv⟩
  done := (Walks.range hh I 0 1 n).done
  self := (Walks.range hh I 0 1 n).self
theorem src_range {elt : Expr} {x : Str} {ifs : List Expr} {scope : Scope} {cl : List (Str × Addr)} {p : Value → Bool} {FF : Value → Value → Prop} {Q : Value → Shared → Prop} {r : Addr} {t u v : Tok} {n : Nat}
    (hh : A.handled = none) (F : Fr g L s.heap m) (N : News g L s.heap news) (hr : IsRange s.heap r 0 n 1 t u v) (hsm : Builtin.Range.small 0 n 1 = true) (hn : n < 100)
    (htest : ∀ C i ti s₃ m₃, i < n → s₃.heap.Ns C m₃ → m₃ x = some (.int i ti) → (∀ b o, s.heap.get? b = some o → s₃.heap.get? b = some o) → Tests prog w A env ifs scope cl C (fun ok s₄ => ok = p (.int i ti) ∧ PySem.Keeps s₃ s₄) s₃)
    (helt : ∀ C i ti s₃ m₃, i < n → p (.int i ti) = true → s₃.heap.Ns C m₃ → m₃ x = some (.int i ti) → (∀ b o, s.heap.get? b = some o → s₃.heap.get? b = some o) →
      wpAny (model prog w) A (eval elt (compEnvC scope cl C env)) (fun y s₄ => FF (.int i ti) y ∧ PySem.Keeps s₃ s₄) (fun _ _ => False) s₃)
    (hQ : ∀ D h' tk ys n' (ts : Nat → Tok), Paired FF (((List.range n).map fun (i : Nat) => Value.int (i : Int) (ts i)).filter p) ys → Fr g L h' m → News g L h' ((D, lsto ys n') :: news) → (∀ q ∈ news, q.1 < D) → Q (.ref D) { s with heap := h', toks := tk }) :
    wpAny (model prog w) A (pyIter (.ref r)) (LcSrc prog w A env g L m elt x ifs scope cl p FF Q) E s := by
  have hsz : Builtin.Range.rangeSize 0 n 1 = n := by
    unfold Builtin.Range.rangeSize
    rw [if_pos (by decide)]
    by_cases h0 : (0 : Int) < n
    · rw [if_pos h0]; omega
    · rw [if_neg h0]; omega
  refine wpAny_pyIter_range hr hsm ?_
  have up : ∀ b o, s.heap.get? b = some o → (s.heap.push { cls := .type "range_iterator", data := .fields #[rawInt 0, rawInt (Builtin.Range.rangeSize 0 n 1), rawInt 1] }).get? b = some o := fun b o e => Heap.get?_push_of_some _ e
  have hlt : ∀ b o, s.heap.get? b = some o → b ≠ s.heap.objs.size := fun b o e => Nat.ne_of_lt (Heap.lt_size e)
  obtain ⟨F2, N2, l2⟩ := led_push F N { cls := .type "range_iterator", data := .fields #[rawInt 0, rawInt (Builtin.Range.rangeSize 0 n 1), rawInt 1] }
  refine ⟨_, _, _, _, _, _, news, rfl, walks_range hh s.heap.objs.size n, by rw [sizeLine_eq]; omega, ?_, ?_, F2, N2, fun q hq => Nat.ne_of_lt (l2 q hq), ?_, ?_, ?_⟩
  · show IsRangeIter _ _ _ _ _
    have : (s.heap.push { cls := .type "range_iterator", data := .fields #[rawInt 0, rawInt (Builtin.Range.rangeSize 0 n 1), rawInt 1] }).get? s.heap.objs.size = _ := Heap.get?_push_size _ rfl
    rw [hsz] at this
    simpa [hsz, IsRangeIter] using this
  · intro b hb
    simp only [List.mem_cons, List.not_mem_nil, or_false] at hb
    rcases hb with rfl
    exact ⟨_, Heap.get?_push_size _ rfl⟩
  · intro C i v s₃ m₃ hP hn' hm hk
    obtain ⟨ti, rfl⟩ := hP.2
    have ei : (0 : Int) + (i : Nat) * 1 = (i : Nat) := by omega
    rw [ei] at hm ⊢
    exact htest C i ti s₃ m₃ hP.1 hn' hm fun b o e => hk b o (hlt b o e) (up _ _ e)
  · intro C i v s₃ m₃ hP hp hn' hm hk
    obtain ⟨ti, rfl⟩ := hP.2
    have ei : (0 : Int) + (i : Nat) * 1 = (i : Nat) := by omega
    rw [ei] at hm hp ⊢
    exact helt C i ti s₃ m₃ hP.1 hp hn' hm fun b o e => hk b o (hlt b o e) (up _ _ e)
  · intro D h' tk ys vs n' hlen hP hF F' N' hD
    have ht : ∀ j, ∃ t : Tok, j < n → vs[j]? = some (.int (j : Nat) t) := fun j => by
      by_cases hj : j < n
      · have hj' : j < vs.length := by omega
        obtain ⟨_, t, e⟩ := hP j vs[j] (List.getElem?_eq_getElem hj')
        refine ⟨t, fun _ => ?_⟩
        rw [List.getElem?_eq_getElem hj', e]
        have e0 : (0 : Int) + (j : Nat) * 1 = (j : Nat) := by omega
        rw [e0]
      · exact ⟨0, fun h => absurd h hj⟩
    obtain ⟨ts, hts⟩ : ∃ ts : Nat → Tok, ∀ j, j < n → vs[j]? = some (.int (j : Nat) (ts j)) := ⟨fun j => Classical.choose (ht j), fun j => Classical.choose_spec (ht j)⟩
    have hv : vs = (List.range n).map fun (i : Nat) => Value.int (i : Int) (ts i) := by
      apply List.ext_getElem?
      intro i
      by_cases hi : i < n
      · rw [hts i hi]; simp [hi]
      · rw [List.getElem?_eq_none (by omega), List.getElem?_eq_none (by simp; omega)]
    rw [hv] at hF
    exact hQ D h' tk ys n' ts hF F' N' hD
end
end Mine
end

section
open PySem PySem.W PySem.Spec PySem.Calls PyProof.Rows
set_option maxRecDepth 100000
namespace Mine
abbrev seqL (its : Array Value) (c : Nat) : Obj := seqObj "list" its c
section
variable {prog : Program} {w : World} {A : Around} {E : Value → Shared → Prop} {s : Shared}
/-- the walk's state is not touched by the list of the best -/
theorem walk_frame {I S : Addr} {fp : List Addr} {n : Nat} {Pd : Nat → Value → Prop} {St : Nat → Heap → Prop} (W : Walks prog w A I fp [I] n Pd St) (hS : S ∉ fp) {i : Nat} {h h' : Heap} (st : St i h) (hs : Heap.SameBut S h h') : St i h' :=
  W.frame _ _ _ st fun b hb o e => hs.extBut b o (fun q => hS (q ▸ hb)) e
end
section
variable {prog : Program} {w : World} {A : Around} {E : Value → Shared → Prop} {s : Shared}
theorem maxN_loop {R : Result → Shared → Prop} {I S : Addr} {fp : List Addr} {n : Nat} {Pd : Nat → Value → Prop} {St : Nat → Heap → Prop} {kw : List (Str × Value)} (kf : Nat → Int)
    (W : Walks prog w A.in1 I fp [I] n Pd St) (hSI : S ≠ I) (hSf : S ∉ fp)
    (hflt : ∀ i v, Pd i v → ∃ x t, v = .float x t ∧ IsI x (kf i))
    (hR : ∀ i v h' tk', i < n → Pd i v → (∀ j, j < n → kf j ≤ kf i) → (∀ b o, b ≠ I → b ≠ S → s.heap.get? b = some o → h'.get? b = some o) → R (.ok (.ret v)) { s with heap := h', toks := tk' }) :
    ∀ (r j i : Nat) (h : Heap) (tk : Nat) (vb : Value) (xb : UInt64) (tb : Tok) (c : Nat), n - j = r → j ≤ n → i < j → (∀ j', j' < j → kf j' ≤ kf i) → St j h → h.get? S = some (seqL #[vb, .float xb tb] c) → IsI xb (kf i) → Pd i vb →
      (∀ b o, b ≠ I → b ≠ S → s.heap.get? b = some o → h.get? b = some o) →
      codeAny (model prog w) A (.builtin "max.loop" ⟨[.ref I, .none, .ref S], kw⟩) R { s with heap := h, toks := tk } := by
  have hname : (toString "max" ++ toString ".loop" : String) = "max.loop" := by decide
  intro r
  induction r with
  | zero =>
    intro j i h tk vb xb tb c hr hj hij hbest st hS ix hP hk
    have hjn : j = n := by omega
    subst hjn
    refine codeAny_builtin PySem.F.entry_max_loop ?_
    rw [Around.under_plainId PySem.F.plain_max_loop _]
    show wpAny _ A.in1 (seqItems? (.ref S) >>= _) _ _ _
    refine wpAny_bind (wpAny_seqItems hS rfl ?_)
    show wpAny _ A.in1 (tryCatch (pyNext (.ref I)) _ >>= _) _ _ _
    refine wpAny_bind (wpAny_tryCatch (W.done _ _ _ st fun h' tk' hk' => ?_))
    have hS' := hk' S _ (by simpa using hSI) hS
    have s1 := Heap.SameBut.update h' S (Obj.mapSeq fun _ => (#[] : Array Value))
    show wpAny _ A.in1 (updateSeq S (fun _ => #[]) >>= _) _ _ _
    refine wpAny_bind ?_
    refine wpAny_updateSeq hS' rfl (wpAny_bind (wpAny_letGo (wpAny_pure ?_)))
    exact hR i vb _ _ hij hP hbest fun b o b1 b2 e => s1.extBut _ _ b2 (hk' _ _ (by simpa using b1) (hk _ _ b1 b2 e))
  | succ r ih =>
    intro j i h tk vb xb tb c hr hj hij hbest st hS ix hP hk
    have hlt : j < n := by omega
    refine codeAny_builtin PySem.F.entry_max_loop ?_
    rw [Around.under_plainId PySem.F.plain_max_loop _]
    show wpAny _ A.in1 (seqItems? (.ref S) >>= _) _ _ _
    refine wpAny_bind (wpAny_seqItems hS rfl ?_)
    show wpAny _ A.in1 (tryCatch (pyNext (.ref I)) _ >>= _) _ _ _
    refine wpAny_bind (wpAny_tryCatch (W.item j _ _ _ hlt st fun v h' tk' hPv hst' hk' => ?_))
    have hS' := hk' S _ (by simpa using hSI) hS
    have hk1 : ∀ b o, b ≠ I → b ≠ S → s.heap.get? b = some o → h'.get? b = some o := fun b o b1 b2 e => hk' _ _ (by simpa using b1) (hk _ _ b1 b2 e)
    obtain ⟨x2, t2, rfl, ix2⟩ := hflt j v hPv
    have hkk := hk1
    have hS2 := hS'
    have st2 := hst'
    generalize h' = h2 at *
    show wpAny _ A.in1 (tryCatch (holding [.float x2 t2, .float x2 t2] (richCompare .Gt (.float x2 t2) (.float xb tb) >>= _)) _ >>= _) _ _ _
    refine wpAny_bind (wpAny_tryCatch (wpAny_holding (wpAny_bind (Flt.gt_num (.float _ _) (.float _ _) ?_))))
    refine wpAny_bind (wpAny_holding (wpAny_truthy_bool ?_))
    refine wpAny_bind (wpAny_letGo (wpAny_pure ?_))
    have hc : (Float64.cmp xb x2 == some .lt) = decide (kf i < kf j) := IsI_lt ix ix2
    by_cases hb' : kf i < kf j
    · have s1 := Heap.SameBut.update h2 S (Obj.mapSeq fun _ => #[.float x2 t2, .float x2 t2])
      obtain ⟨c2, hc2⟩ : ∃ c2, (h2.update S (Obj.mapSeq fun _ => #[.float x2 t2, .float x2 t2])).get? S = some (seqL #[.float x2 t2, .float x2 t2] c2) := ⟨_, get?_update_seq hS2 fun _ => #[.float x2 t2, .float x2 t2]⟩
      show wpAny _ A.in1 (if (Float64.cmp xb x2 == some .lt) = true then _ else _) _ _ _
      rw [hc, if_pos (by simpa using hb')]
      refine wpAny_bind ?_
      refine wpAny_updateSeq hS2 rfl (wpAny_bind (wpAny_letGo ?_))
      rw [hname]
      refine wpAny_pure ⟨plainId_quiet PySem.F.plain_max_loop _, ih (j + 1) j _ _ _ x2 t2 c2 (by omega) hlt (Nat.lt_succ_self _) (fun j' hj' => ?_) (walk_frame W hSf st2 s1) hc2 ix2 hPv fun b o b1 b2 e => s1.extBut _ _ b2 (hkk b o b1 b2 e)⟩
      by_cases e : j' = j
      · subst e; exact Int.le_refl _
      · have := hbest j' (by omega); omega
    · show wpAny _ A.in1 (if (Float64.cmp xb x2 == some .lt) = true then _ else _) _ _ _
      rw [hc, if_neg (by simpa using hb')]
      refine wpAny_bind (wpAny_letGo ?_)
      rw [hname]
      refine wpAny_pure ⟨plainId_quiet PySem.F.plain_max_loop _, ih (j + 1) i _ _ vb xb tb c (by omega) hlt (by omega) (fun j' hj' => ?_) st2 hS2 ix hP hkk⟩
      by_cases e : j' = j
      · subst e; omega
      · exact hbest j' (by omega)
theorem maxN_loop0 {R : Result → Shared → Prop} {I S : Addr} {fp : List Addr} {n : Nat} {Pd : Nat → Value → Prop} {St : Nat → Heap → Prop} {kw : List (Str × Value)} (kf : Nat → Int)
    (W : Walks prog w A.in1 I fp [I] n Pd St) (hSI : S ≠ I) (hSf : S ∉ fp) (hn : 0 < n)
    (hflt : ∀ i v, Pd i v → ∃ x t, v = .float x t ∧ IsI x (kf i))
    (hR : ∀ i v h' tk', i < n → Pd i v → (∀ j, j < n → kf j ≤ kf i) → (∀ b o, b ≠ I → b ≠ S → s.heap.get? b = some o → h'.get? b = some o) → R (.ok (.ret v)) { s with heap := h', toks := tk' })
    {h : Heap} {tk : Nat} {c : Nat} (st : St 0 h) (hS : h.get? S = some (seqL #[] c)) (hk : ∀ b o, b ≠ I → b ≠ S → s.heap.get? b = some o → h.get? b = some o) :
      codeAny (model prog w) A (.builtin "max.loop" ⟨[.ref I, .none, .ref S], kw⟩) R { s with heap := h, toks := tk } := by
  have hname : (toString "max" ++ toString ".loop" : String) = "max.loop" := by decide
  refine codeAny_builtin PySem.F.entry_max_loop ?_
  rw [Around.under_plainId PySem.F.plain_max_loop _]
  show wpAny _ A.in1 (seqItems? (.ref S) >>= _) _ _ _
  refine wpAny_bind (wpAny_seqItems hS rfl ?_)
  show wpAny _ A.in1 (tryCatch (pyNext (.ref I)) _ >>= _) _ _ _
  refine wpAny_bind (wpAny_tryCatch (W.item 0 _ _ _ hn st fun v h' tk' hPv hst' hk' => ?_))
  have hS' := hk' S _ (by simpa using hSI) hS
  have hk1 : ∀ b o, b ≠ I → b ≠ S → s.heap.get? b = some o → h'.get? b = some o := fun b o b1 b2 e => hk' _ _ (by simpa using b1) (hk _ _ b1 b2 e)
  obtain ⟨x2, t2, rfl, ix2⟩ := hflt 0 v hPv
  have hkk := hk1
  have hS2 := hS'
  have st2 := hst'
  generalize h' = h2 at *
  have s1 := Heap.SameBut.update h2 S (Obj.mapSeq fun _ => #[.float x2 t2, .float x2 t2])
  obtain ⟨c2, hc2⟩ : ∃ c2, (h2.update S (Obj.mapSeq fun _ => #[.float x2 t2, .float x2 t2])).get? S = some (seqL #[.float x2 t2, .float x2 t2] c2) := ⟨_, get?_update_seq hS2 fun _ => #[.float x2 t2, .float x2 t2]⟩
  show wpAny _ A.in1 (updateSeq S (fun _ => #[.float x2 t2, .float x2 t2]) >>= _) _ _ _
  refine wpAny_bind ?_
  refine wpAny_updateSeq hS2 rfl ?_
  rw [hname]
  refine wpAny_pure ⟨plainId_quiet PySem.F.plain_max_loop _, ?_⟩
  refine maxN_loop kf W hSI hSf hflt hR (n - 1) 1 0 _ _ _ x2 t2 c2 (by omega) hn (by omega) (fun j' hj' => ?_) (walk_frame W hSf st2 s1) hc2 ix2 hPv fun b o b1 b2 e => s1.extBut _ _ b2 (hkk b o b1 b2 e)
  have : j' = 0 := by omega
  subst this; exact Int.le_refl _
end
section
variable {prog : Program} {w : World} {A : Around} {E : Value → Shared → Prop} {s : Shared}
theorem maxK_loop {R : Result → Shared → Prop} {I S q : Addr} {fp : List Addr} {n : Nat} {Pd : Nat → Value → Prop} {St : Nat → Heap → Prop} {kw : List (Str × Value)} (kf : Nat → Int)
    (W : Walks prog w A.in1 I fp [I] n Pd St) (hSI : S ≠ I) (hSf : S ∉ fp)
    (hkey : ∀ (i : Nat) (v : Value) (s₂ : Shared) (Q : Value → Shared → Prop) (E : Value → Shared → Prop), i < n → Pd i v → (∀ b o, b ≠ I → b ≠ S → s.heap.get? b = some o → s₂.heap.get? b = some o) →
      (∀ h' tk' x t, (∀ b o, s₂.heap.get? b = some o → h'.get? b = some o) → IsI x (kf i) → Q (.float x t) { s₂ with heap := h', toks := tk' }) → wpAny (model prog w) A.in1 (call (.ref q) [v]) Q E s₂)
    (hR : ∀ i v h' tk', i < n → Pd i v → (∀ j, j < n → kf j ≤ kf i) → (∀ b o, b ≠ I → b ≠ S → s.heap.get? b = some o → h'.get? b = some o) → R (.ok (.ret v)) { s with heap := h', toks := tk' }) :
    ∀ (r j i : Nat) (h : Heap) (tk : Nat) (vb : Value) (xb : UInt64) (tb : Tok) (c : Nat), n - j = r → j ≤ n → i < j → (∀ j', j' < j → kf j' ≤ kf i) → St j h → h.get? S = some (seqL #[vb, .float xb tb] c) → IsI xb (kf i) → Pd i vb →
      (∀ b o, b ≠ I → b ≠ S → s.heap.get? b = some o → h.get? b = some o) →
      codeAny (model prog w) A (.builtin "max.loop" ⟨[.ref I, (.ref q), .ref S], kw⟩) R { s with heap := h, toks := tk } := by
  have hname : (toString "max" ++ toString ".loop" : String) = "max.loop" := by decide
  intro r
  induction r with
  | zero =>
    intro j i h tk vb xb tb c hr hj hij hbest st hS ix hP hk
    have hjn : j = n := by omega
    subst hjn
    refine codeAny_builtin PySem.F.entry_max_loop ?_
    rw [Around.under_plainId PySem.F.plain_max_loop _]
    show wpAny _ A.in1 (seqItems? (.ref S) >>= _) _ _ _
    refine wpAny_bind (wpAny_seqItems hS rfl ?_)
    show wpAny _ A.in1 (tryCatch (pyNext (.ref I)) _ >>= _) _ _ _
    refine wpAny_bind (wpAny_tryCatch (W.done _ _ _ st fun h' tk' hk' => ?_))
    have hS' := hk' S _ (by simpa using hSI) hS
    have s1 := Heap.SameBut.update h' S (Obj.mapSeq fun _ => (#[] : Array Value))
    show wpAny _ A.in1 (updateSeq S (fun _ => #[]) >>= _) _ _ _
    refine wpAny_bind ?_
    refine wpAny_updateSeq hS' rfl (wpAny_bind (wpAny_letGo (wpAny_pure ?_)))
    exact hR i vb _ _ hij hP hbest fun b o b1 b2 e => s1.extBut _ _ b2 (hk' _ _ (by simpa using b1) (hk _ _ b1 b2 e))
  | succ r ih =>
    intro j i h tk vb xb tb c hr hj hij hbest st hS ix hP hk
    have hlt : j < n := by omega
    refine codeAny_builtin PySem.F.entry_max_loop ?_
    rw [Around.under_plainId PySem.F.plain_max_loop _]
    show wpAny _ A.in1 (seqItems? (.ref S) >>= _) _ _ _
    refine wpAny_bind (wpAny_seqItems hS rfl ?_)
    show wpAny _ A.in1 (tryCatch (pyNext (.ref I)) _ >>= _) _ _ _
    refine wpAny_bind (wpAny_tryCatch (W.item j _ _ _ hlt st fun v h' tk' hPv hst' hk' => ?_))
    have hS' := hk' S _ (by simpa using hSI) hS
    have hk1 : ∀ b o, b ≠ I → b ≠ S → s.heap.get? b = some o → h'.get? b = some o := fun b o b1 b2 e => hk' _ _ (by simpa using b1) (hk _ _ b1 b2 e)
    show wpAny _ A.in1 (tryCatch (holding [v] (call (.ref q) [v])) _ >>= _) _ _ _
    refine wpAny_bind (wpAny_tryCatch (wpAny_holding (hkey j v _ _ _ hlt hPv hk1 fun h2 tk2 x2 t2 hk2 ix2 => ?_)))
    have hS2 := hk2 _ _ hS'
    have st2 : St (j + 1) h2 := W.frame _ _ _ hst' fun b _ o e => hk2 _ _ e
    have hkk : ∀ b o, b ≠ I → b ≠ S → s.heap.get? b = some o → h2.get? b = some o := fun b o b1 b2 e => hk2 _ _ (hk1 b o b1 b2 e)
    show wpAny _ A.in1 (tryCatch (holding [v, .float x2 t2] (richCompare .Gt (.float x2 t2) (.float xb tb) >>= _)) _ >>= _) _ _ _
    refine wpAny_bind (wpAny_tryCatch (wpAny_holding (wpAny_bind (Flt.gt_num (.float _ _) (.float _ _) ?_))))
    refine wpAny_bind (wpAny_holding (wpAny_truthy_bool ?_))
    refine wpAny_bind (wpAny_letGo (wpAny_pure ?_))
    have hc : (Float64.cmp xb x2 == some .lt) = decide (kf i < kf j) := IsI_lt ix ix2
    by_cases hb' : kf i < kf j
    · have s1 := Heap.SameBut.update h2 S (Obj.mapSeq fun _ => #[v, .float x2 t2])
      obtain ⟨c2, hc2⟩ : ∃ c2, (h2.update S (Obj.mapSeq fun _ => #[v, .float x2 t2])).get? S = some (seqL #[v, .float x2 t2] c2) := ⟨_, get?_update_seq hS2 fun _ => #[v, .float x2 t2]⟩
      show wpAny _ A.in1 (if (Float64.cmp xb x2 == some .lt) = true then _ else _) _ _ _
      rw [hc, if_pos (by simpa using hb')]
      refine wpAny_bind ?_
      refine wpAny_updateSeq hS2 rfl (wpAny_bind (wpAny_letGo ?_))
      rw [hname]
      refine wpAny_pure ⟨plainId_quiet PySem.F.plain_max_loop _, ih (j + 1) j _ _ _ x2 t2 c2 (by omega) hlt (Nat.lt_succ_self _) (fun j' hj' => ?_) (walk_frame W hSf st2 s1) hc2 ix2 hPv fun b o b1 b2 e => s1.extBut _ _ b2 (hkk b o b1 b2 e)⟩
      by_cases e : j' = j
      · subst e; exact Int.le_refl _
      · have := hbest j' (by omega); omega
    · show wpAny _ A.in1 (if (Float64.cmp xb x2 == some .lt) = true then _ else _) _ _ _
      rw [hc, if_neg (by simpa using hb')]
      refine wpAny_bind (wpAny_letGo ?_)
      rw [hname]
      refine wpAny_pure ⟨plainId_quiet PySem.F.plain_max_loop _, ih (j + 1) i _ _ vb xb tb c (by omega) hlt (by omega) (fun j' hj' => ?_) st2 hS2 ix hP hkk⟩
      by_cases e : j' = j
      · subst e; omega
      · exact hbest j' (by omega)
theorem maxK_loop0 {R : Result → Shared → Prop} {I S q : Addr} {fp : List Addr} {n : Nat} {Pd : Nat → Value → Prop} {St : Nat → Heap → Prop} {kw : List (Str × Value)} (kf : Nat → Int)
    (W : Walks prog w A.in1 I fp [I] n Pd St) (hSI : S ≠ I) (hSf : S ∉ fp) (hn : 0 < n)
    (hkey : ∀ (i : Nat) (v : Value) (s₂ : Shared) (Q : Value → Shared → Prop) (E : Value → Shared → Prop), i < n → Pd i v → (∀ b o, b ≠ I → b ≠ S → s.heap.get? b = some o → s₂.heap.get? b = some o) →
      (∀ h' tk' x t, (∀ b o, s₂.heap.get? b = some o → h'.get? b = some o) → IsI x (kf i) → Q (.float x t) { s₂ with heap := h', toks := tk' }) → wpAny (model prog w) A.in1 (call (.ref q) [v]) Q E s₂)
    (hR : ∀ i v h' tk', i < n → Pd i v → (∀ j, j < n → kf j ≤ kf i) → (∀ b o, b ≠ I → b ≠ S → s.heap.get? b = some o → h'.get? b = some o) → R (.ok (.ret v)) { s with heap := h', toks := tk' })
    {h : Heap} {tk : Nat} {c : Nat} (st : St 0 h) (hS : h.get? S = some (seqL #[] c)) (hk : ∀ b o, b ≠ I → b ≠ S → s.heap.get? b = some o → h.get? b = some o) :
      codeAny (model prog w) A (.builtin "max.loop" ⟨[.ref I, (.ref q), .ref S], kw⟩) R { s with heap := h, toks := tk } := by
  have hname : (toString "max" ++ toString ".loop" : String) = "max.loop" := by decide
  refine codeAny_builtin PySem.F.entry_max_loop ?_
  rw [Around.under_plainId PySem.F.plain_max_loop _]
  show wpAny _ A.in1 (seqItems? (.ref S) >>= _) _ _ _
  refine wpAny_bind (wpAny_seqItems hS rfl ?_)
  show wpAny _ A.in1 (tryCatch (pyNext (.ref I)) _ >>= _) _ _ _
  refine wpAny_bind (wpAny_tryCatch (W.item 0 _ _ _ hn st fun v h' tk' hPv hst' hk' => ?_))
  have hS' := hk' S _ (by simpa using hSI) hS
  have hk1 : ∀ b o, b ≠ I → b ≠ S → s.heap.get? b = some o → h'.get? b = some o := fun b o b1 b2 e => hk' _ _ (by simpa using b1) (hk _ _ b1 b2 e)
  show wpAny _ A.in1 (tryCatch (holding [v] (call (.ref q) [v])) _ >>= _) _ _ _
  refine wpAny_bind (wpAny_tryCatch (wpAny_holding (hkey 0 v _ _ _ hn hPv hk1 fun h2 tk2 x2 t2 hk2 ix2 => ?_)))
  have hS2 := hk2 _ _ hS'
  have st2 : St (0 + 1) h2 := W.frame _ _ _ hst' fun b _ o e => hk2 _ _ e
  have hkk : ∀ b o, b ≠ I → b ≠ S → s.heap.get? b = some o → h2.get? b = some o := fun b o b1 b2 e => hk2 _ _ (hk1 b o b1 b2 e)
  have s1 := Heap.SameBut.update h2 S (Obj.mapSeq fun _ => #[v, .float x2 t2])
  obtain ⟨c2, hc2⟩ : ∃ c2, (h2.update S (Obj.mapSeq fun _ => #[v, .float x2 t2])).get? S = some (seqL #[v, .float x2 t2] c2) := ⟨_, get?_update_seq hS2 fun _ => #[v, .float x2 t2]⟩
  show wpAny _ A.in1 (updateSeq S (fun _ => #[v, .float x2 t2]) >>= _) _ _ _
  refine wpAny_bind ?_
  refine wpAny_updateSeq hS2 rfl ?_
  rw [hname]
  refine wpAny_pure ⟨plainId_quiet PySem.F.plain_max_loop _, ?_⟩
  refine maxK_loop kf W hSI hSf hkey hR (n - 1) 1 0 _ _ _ x2 t2 c2 (by omega) hn (by omega) (fun j' hj' => ?_) (walk_frame W hSf st2 s1) hc2 ix2 hPv fun b o b1 b2 e => s1.extBut _ _ b2 (hkk b o b1 b2 e)
  have : j' = 0 := by omega
  subst this; exact Int.le_refl _
end
section
variable {prog : Program} {w : World} {A : Around} {E : Value → Shared → Prop} {s : Shared}
theorem minN_loop {R : Result → Shared → Prop} {I S : Addr} {fp : List Addr} {n : Nat} {Pd : Nat → Value → Prop} {St : Nat → Heap → Prop} {kw : List (Str × Value)} (kf : Nat → Int)
    (W : Walks prog w A.in1 I fp [I] n Pd St) (hSI : S ≠ I) (hSf : S ∉ fp)
    (hflt : ∀ i v, Pd i v → ∃ x t, v = .float x t ∧ IsI x (kf i))
    (hR : ∀ i v h' tk', i < n → Pd i v → (∀ j, j < n → kf i ≤ kf j) → (∀ b o, b ≠ I → b ≠ S → s.heap.get? b = some o → h'.get? b = some o) → R (.ok (.ret v)) { s with heap := h', toks := tk' }) :
    ∀ (r j i : Nat) (h : Heap) (tk : Nat) (vb : Value) (xb : UInt64) (tb : Tok) (c : Nat), n - j = r → j ≤ n → i < j → (∀ j', j' < j → kf i ≤ kf j') → St j h → h.get? S = some (seqL #[vb, .float xb tb] c) → IsI xb (kf i) → Pd i vb →
      (∀ b o, b ≠ I → b ≠ S → s.heap.get? b = some o → h.get? b = some o) →
      codeAny (model prog w) A (.builtin "min.loop" ⟨[.ref I, .none, .ref S], kw⟩) R { s with heap := h, toks := tk } := by
  have hname : (toString "min" ++ toString ".loop" : String) = "min.loop" := by decide
  intro r
  induction r with
  | zero =>
    intro j i h tk vb xb tb c hr hj hij hbest st hS ix hP hk
    have hjn : j = n := by omega
    subst hjn
    refine codeAny_builtin PySem.F.entry_min_loop ?_
    rw [Around.under_plainId PySem.F.plain_min_loop _]
    show wpAny _ A.in1 (seqItems? (.ref S) >>= _) _ _ _
    refine wpAny_bind (wpAny_seqItems hS rfl ?_)
    show wpAny _ A.in1 (tryCatch (pyNext (.ref I)) _ >>= _) _ _ _
    refine wpAny_bind (wpAny_tryCatch (W.done _ _ _ st fun h' tk' hk' => ?_))
    have hS' := hk' S _ (by simpa using hSI) hS
    have s1 := Heap.SameBut.update h' S (Obj.mapSeq fun _ => (#[] : Array Value))
    show wpAny _ A.in1 (updateSeq S (fun _ => #[]) >>= _) _ _ _
    refine wpAny_bind ?_
    refine wpAny_updateSeq hS' rfl (wpAny_bind (wpAny_letGo (wpAny_pure ?_)))
    exact hR i vb _ _ hij hP hbest fun b o b1 b2 e => s1.extBut _ _ b2 (hk' _ _ (by simpa using b1) (hk _ _ b1 b2 e))
  | succ r ih =>
    intro j i h tk vb xb tb c hr hj hij hbest st hS ix hP hk
    have hlt : j < n := by omega
    refine codeAny_builtin PySem.F.entry_min_loop ?_
    rw [Around.under_plainId PySem.F.plain_min_loop _]
    show wpAny _ A.in1 (seqItems? (.ref S) >>= _) _ _ _
    refine wpAny_bind (wpAny_seqItems hS rfl ?_)
    show wpAny _ A.in1 (tryCatch (pyNext (.ref I)) _ >>= _) _ _ _
    refine wpAny_bind (wpAny_tryCatch (W.item j _ _ _ hlt st fun v h' tk' hPv hst' hk' => ?_))
    have hS' := hk' S _ (by simpa using hSI) hS
    have hk1 : ∀ b o, b ≠ I → b ≠ S → s.heap.get? b = some o → h'.get? b = some o := fun b o b1 b2 e => hk' _ _ (by simpa using b1) (hk _ _ b1 b2 e)
    obtain ⟨x2, t2, rfl, ix2⟩ := hflt j v hPv
    have hkk := hk1
    have hS2 := hS'
    have st2 := hst'
    generalize h' = h2 at *
    show wpAny _ A.in1 (tryCatch (holding [.float x2 t2, .float x2 t2] (richCompare .Lt (.float x2 t2) (.float xb tb) >>= _)) _ >>= _) _ _ _
    refine wpAny_bind (wpAny_tryCatch (wpAny_holding (wpAny_bind (Flt.lt_num (.float _ _) (.float _ _) ?_))))
    refine wpAny_bind (wpAny_holding (wpAny_truthy_bool ?_))
    refine wpAny_bind (wpAny_letGo (wpAny_pure ?_))
    have hc : (Float64.cmp x2 xb == some .lt) = decide (kf j < kf i) := IsI_lt ix2 ix
    by_cases hb' : kf j < kf i
    · have s1 := Heap.SameBut.update h2 S (Obj.mapSeq fun _ => #[.float x2 t2, .float x2 t2])
      obtain ⟨c2, hc2⟩ : ∃ c2, (h2.update S (Obj.mapSeq fun _ => #[.float x2 t2, .float x2 t2])).get? S = some (seqL #[.float x2 t2, .float x2 t2] c2) := ⟨_, get?_update_seq hS2 fun _ => #[.float x2 t2, .float x2 t2]⟩
      show wpAny _ A.in1 (if (Float64.cmp x2 xb == some .lt) = true then _ else _) _ _ _
      rw [hc, if_pos (by simpa using hb')]
      refine wpAny_bind ?_
      refine wpAny_updateSeq hS2 rfl (wpAny_bind (wpAny_letGo ?_))
      rw [hname]
      refine wpAny_pure ⟨plainId_quiet PySem.F.plain_min_loop _, ih (j + 1) j _ _ _ x2 t2 c2 (by omega) hlt (Nat.lt_succ_self _) (fun j' hj' => ?_) (walk_frame W hSf st2 s1) hc2 ix2 hPv fun b o b1 b2 e => s1.extBut _ _ b2 (hkk b o b1 b2 e)⟩
      by_cases e : j' = j
      · subst e; exact Int.le_refl _
      · have := hbest j' (by omega); omega
    · show wpAny _ A.in1 (if (Float64.cmp x2 xb == some .lt) = true then _ else _) _ _ _
      rw [hc, if_neg (by simpa using hb')]
      refine wpAny_bind (wpAny_letGo ?_)
      rw [hname]
      refine wpAny_pure ⟨plainId_quiet PySem.F.plain_min_loop _, ih (j + 1) i _ _ vb xb tb c (by omega) hlt (by omega) (fun j' hj' => ?_) st2 hS2 ix hP hkk⟩
      by_cases e : j' = j
      · subst e; omega
      · exact hbest j' (by omega)
theorem minN_loop0 {R : Result → Shared → Prop} {I S : Addr} {fp : List Addr} {n : Nat} {Pd : Nat → Value → Prop} {St : Nat → Heap → Prop} {kw : List (Str × Value)} (kf : Nat → Int)
    (W : Walks prog w A.in1 I fp [I] n Pd St) (hSI : S ≠ I) (hSf : S ∉ fp) (hn : 0 < n)
    (hflt : ∀ i v, Pd i v → ∃ x t, v = .float x t ∧ IsI x (kf i))
    (hR : ∀ i v h' tk', i < n → Pd i v → (∀ j, j < n → kf i ≤ kf j) → (∀ b o, b ≠ I → b ≠ S → s.heap.get? b = some o → h'.get? b = some o) → R (.ok (.ret v)) { s with heap := h', toks := tk' })
    {h : Heap} {tk : Nat} {c : Nat} (st : St 0 h) (hS : h.get? S = some (seqL #[] c)) (hk : ∀ b o, b ≠ I → b ≠ S → s.heap.get? b = some o → h.get? b = some o) :
      codeAny (model prog w) A (.builtin "min.loop" ⟨[.ref I, .none, .ref S], kw⟩) R { s with heap := h, toks := tk } := by
  have hname : (toString "min" ++ toString ".loop" : String) = "min.loop" := by decide
  refine codeAny_builtin PySem.F.entry_min_loop ?_
  rw [Around.under_plainId PySem.F.plain_min_loop _]
  show wpAny _ A.in1 (seqItems? (.ref S) >>= _) _ _ _
  refine wpAny_bind (wpAny_seqItems hS rfl ?_)
  show wpAny _ A.in1 (tryCatch (pyNext (.ref I)) _ >>= _) _ _ _
  refine wpAny_bind (wpAny_tryCatch (W.item 0 _ _ _ hn st fun v h' tk' hPv hst' hk' => ?_))
  have hS' := hk' S _ (by simpa using hSI) hS
  have hk1 : ∀ b o, b ≠ I → b ≠ S → s.heap.get? b = some o → h'.get? b = some o := fun b o b1 b2 e => hk' _ _ (by simpa using b1) (hk _ _ b1 b2 e)
  obtain ⟨x2, t2, rfl, ix2⟩ := hflt 0 v hPv
  have hkk := hk1
  have hS2 := hS'
  have st2 := hst'
  generalize h' = h2 at *
  have s1 := Heap.SameBut.update h2 S (Obj.mapSeq fun _ => #[.float x2 t2, .float x2 t2])
  obtain ⟨c2, hc2⟩ : ∃ c2, (h2.update S (Obj.mapSeq fun _ => #[.float x2 t2, .float x2 t2])).get? S = some (seqL #[.float x2 t2, .float x2 t2] c2) := ⟨_, get?_update_seq hS2 fun _ => #[.float x2 t2, .float x2 t2]⟩
  show wpAny _ A.in1 (updateSeq S (fun _ => #[.float x2 t2, .float x2 t2]) >>= _) _ _ _
  refine wpAny_bind ?_
  refine wpAny_updateSeq hS2 rfl ?_
  rw [hname]
  refine wpAny_pure ⟨plainId_quiet PySem.F.plain_min_loop _, ?_⟩
  refine minN_loop kf W hSI hSf hflt hR (n - 1) 1 0 _ _ _ x2 t2 c2 (by omega) hn (by omega) (fun j' hj' => ?_) (walk_frame W hSf st2 s1) hc2 ix2 hPv fun b o b1 b2 e => s1.extBut _ _ b2 (hkk b o b1 b2 e)
  have : j' = 0 := by omega
  subst this; exact Int.le_refl _
end
section
variable {prog : Program} {w : World} {A : Around} {E : Value → Shared → Prop} {s : Shared}
theorem minK_loop {R : Result → Shared → Prop} {I S q : Addr} {fp : List Addr} {n : Nat} {Pd : Nat → Value → Prop} {St : Nat → Heap → Prop} {kw : List (Str × Value)} (kf : Nat → Int)
    (W : Walks prog w A.in1 I fp [I] n Pd St) (hSI : S ≠ I) (hSf : S ∉ fp)
    (hkey : ∀ (i : Nat) (v : Value) (s₂ : Shared) (Q : Value → Shared → Prop) (E : Value → Shared → Prop), i < n → Pd i v → (∀ b o, b ≠ I → b ≠ S → s.heap.get? b = some o → s₂.heap.get? b = some o) →
      (∀ h' tk' x t, (∀ b o, s₂.heap.get? b = some o → h'.get? b = some o) → IsI x (kf i) → Q (.float x t) { s₂ with heap := h', toks := tk' }) → wpAny (model prog w) A.in1 (call (.ref q) [v]) Q E s₂)
    (hR : ∀ i v h' tk', i < n → Pd i v → (∀ j, j < n → kf i ≤ kf j) → (∀ b o, b ≠ I → b ≠ S → s.heap.get? b = some o → h'.get? b = some o) → R (.ok (.ret v)) { s with heap := h', toks := tk' }) :
    ∀ (r j i : Nat) (h : Heap) (tk : Nat) (vb : Value) (xb : UInt64) (tb : Tok) (c : Nat), n - j = r → j ≤ n → i < j → (∀ j', j' < j → kf i ≤ kf j') → St j h → h.get? S = some (seqL #[vb, .float xb tb] c) → IsI xb (kf i) → Pd i vb →
      (∀ b o, b ≠ I → b ≠ S → s.heap.get? b = some o → h.get? b = some o) →
      codeAny (model prog w) A (.builtin "min.loop" ⟨[.ref I, (.ref q), .ref S], kw⟩) R { s with heap := h, toks := tk } := by
  have hname : (toString "min" ++ toString ".loop" : String) = "min.loop" := by decide
  intro r
  induction r with
  | zero =>
    intro j i h tk vb xb tb c hr hj hij hbest st hS ix hP hk
    have hjn : j = n := by omega
    subst hjn
    refine codeAny_builtin PySem.F.entry_min_loop ?_
    rw [Around.under_plainId PySem.F.plain_min_loop _]
    show wpAny _ A.in1 (seqItems? (.ref S) >>= _) _ _ _
    refine wpAny_bind (wpAny_seqItems hS rfl ?_)
    show wpAny _ A.in1 (tryCatch (pyNext (.ref I)) _ >>= _) _ _ _
    refine wpAny_bind (wpAny_tryCatch (W.done _ _ _ st fun h' tk' hk' => ?_))
    have hS' := hk' S _ (by simpa using hSI) hS
    have s1 := Heap.SameBut.update h' S (Obj.mapSeq fun _ => (#[] : Array Value))
    show wpAny _ A.in1 (updateSeq S (fun _ => #[]) >>= _) _ _ _
    refine wpAny_bind ?_
    refine wpAny_updateSeq hS' rfl (wpAny_bind (wpAny_letGo (wpAny_pure ?_)))
    exact hR i vb _ _ hij hP hbest fun b o b1 b2 e => s1.extBut _ _ b2 (hk' _ _ (by simpa using b1) (hk _ _ b1 b2 e))
  | succ r ih =>
    intro j i h tk vb xb tb c hr hj hij hbest st hS ix hP hk
    have hlt : j < n := by omega
    refine codeAny_builtin PySem.F.entry_min_loop ?_
    rw [Around.under_plainId PySem.F.plain_min_loop _]
    show wpAny _ A.in1 (seqItems? (.ref S) >>= _) _ _ _
    refine wpAny_bind (wpAny_seqItems hS rfl ?_)
    show wpAny _ A.in1 (tryCatch (pyNext (.ref I)) _ >>= _) _ _ _
    refine wpAny_bind (wpAny_tryCatch (W.item j _ _ _ hlt st fun v h' tk' hPv hst' hk' => ?_))
    have hS' := hk' S _ (by simpa using hSI) hS
    have hk1 : ∀ b o, b ≠ I → b ≠ S → s.heap.get? b = some o → h'.get? b = some o := fun b o b1 b2 e => hk' _ _ (by simpa using b1) (hk _ _ b1 b2 e)
    show wpAny _ A.in1 (tryCatch (holding [v] (call (.ref q) [v])) _ >>= _) _ _ _
    refine wpAny_bind (wpAny_tryCatch (wpAny_holding (hkey j v _ _ _ hlt hPv hk1 fun h2 tk2 x2 t2 hk2 ix2 => ?_)))
    have hS2 := hk2 _ _ hS'
    have st2 : St (j + 1) h2 := W.frame _ _ _ hst' fun b _ o e => hk2 _ _ e
    have hkk : ∀ b o, b ≠ I → b ≠ S → s.heap.get? b = some o → h2.get? b = some o := fun b o b1 b2 e => hk2 _ _ (hk1 b o b1 b2 e)
    show wpAny _ A.in1 (tryCatch (holding [v, .float x2 t2] (richCompare .Lt (.float x2 t2) (.float xb tb) >>= _)) _ >>= _) _ _ _
    refine wpAny_bind (wpAny_tryCatch (wpAny_holding (wpAny_bind (Flt.lt_num (.float _ _) (.float _ _) ?_))))
    refine wpAny_bind (wpAny_holding (wpAny_truthy_bool ?_))
    refine wpAny_bind (wpAny_letGo (wpAny_pure ?_))
    have hc : (Float64.cmp x2 xb == some .lt) = decide (kf j < kf i) := IsI_lt ix2 ix
    by_cases hb' : kf j < kf i
    · have s1 := Heap.SameBut.update h2 S (Obj.mapSeq fun _ => #[v, .float x2 t2])
      obtain ⟨c2, hc2⟩ : ∃ c2, (h2.update S (Obj.mapSeq fun _ => #[v, .float x2 t2])).get? S = some (seqL #[v, .float x2 t2] c2) := ⟨_, get?_update_seq hS2 fun _ => #[v, .float x2 t2]⟩
      show wpAny _ A.in1 (if (Float64.cmp x2 xb == some .lt) = true then _ else _) _ _ _
      rw [hc, if_pos (by simpa using hb')]
      refine wpAny_bind ?_
      refine wpAny_updateSeq hS2 rfl (wpAny_bind (wpAny_letGo ?_))
      rw [hname]
      refine wpAny_pure ⟨plainId_quiet PySem.F.plain_min_loop _, ih (j + 1) j _ _ _ x2 t2 c2 (by omega) hlt (Nat.lt_succ_self _) (fun j' hj' => ?_) (walk_frame W hSf st2 s1) hc2 ix2 hPv fun b o b1 b2 e => s1.extBut _ _ b2 (hkk b o b1 b2 e)⟩
      by_cases e : j' = j
      · subst e; exact Int.le_refl _
      · have := hbest j' (by omega); omega
    · show wpAny _ A.in1 (if (Float64.cmp x2 xb == some .lt) = true then _ else _) _ _ _
      rw [hc, if_neg (by simpa using hb')]
      refine wpAny_bind (wpAny_letGo ?_)
      rw [hname]
      refine wpAny_pure ⟨plainId_quiet PySem.F.plain_min_loop _, ih (j + 1) i _ _ vb xb tb c (by omega) hlt (by omega) (fun j' hj' => ?_) st2 hS2 ix hP hkk⟩
      by_cases e : j' = j
      · subst e; omega
      · exact hbest j' (by omega)
theorem minK_loop0 {R : Result → Shared → Prop} {I S q : Addr} {fp : List Addr} {n : Nat} {Pd : Nat → Value → Prop} {St : Nat → Heap → Prop} {kw : List (Str × Value)} (kf : Nat → Int)
    (W : Walks prog w A.in1 I fp [I] n Pd St) (hSI : S ≠ I) (hSf : S ∉ fp) (hn : 0 < n)
    (hkey : ∀ (i : Nat) (v : Value) (s₂ : Shared) (Q : Value → Shared → Prop) (E : Value → Shared → Prop), i < n → Pd i v → (∀ b o, b ≠ I → b ≠ S → s.heap.get? b = some o → s₂.heap.get? b = some o) →
      (∀ h' tk' x t, (∀ b o, s₂.heap.get? b = some o → h'.get? b = some o) → IsI x (kf i) → Q (.float x t) { s₂ with heap := h', toks := tk' }) → wpAny (model prog w) A.in1 (call (.ref q) [v]) Q E s₂)
    (hR : ∀ i v h' tk', i < n → Pd i v → (∀ j, j < n → kf i ≤ kf j) → (∀ b o, b ≠ I → b ≠ S → s.heap.get? b = some o → h'.get? b = some o) → R (.ok (.ret v)) { s with heap := h', toks := tk' })
    {h : Heap} {tk : Nat} {c : Nat} (st : St 0 h) (hS : h.get? S = some (seqL #[] c)) (hk : ∀ b o, b ≠ I → b ≠ S → s.heap.get? b = some o → h.get? b = some o) :
      codeAny (model prog w) A (.builtin "min.loop" ⟨[.ref I, (.ref q), .ref S], kw⟩) R { s with heap := h, toks := tk } := by
  have hname : (toString "min" ++ toString ".loop" : String) = "min.loop" := by decide
  refine codeAny_builtin PySem.F.entry_min_loop ?_
  rw [Around.under_plainId PySem.F.plain_min_loop _]
  show wpAny _ A.in1 (seqItems? (.ref S) >>= _) _ _ _
  refine wpAny_bind (wpAny_seqItems hS rfl ?_)
  show wpAny _ A.in1 (tryCatch (pyNext (.ref I)) _ >>= _) _ _ _
  refine wpAny_bind (wpAny_tryCatch (W.item 0 _ _ _ hn st fun v h' tk' hPv hst' hk' => ?_))
  have hS' := hk' S _ (by simpa using hSI) hS
  have hk1 : ∀ b o, b ≠ I → b ≠ S → s.heap.get? b = some o → h'.get? b = some o := fun b o b1 b2 e => hk' _ _ (by simpa using b1) (hk _ _ b1 b2 e)
  show wpAny _ A.in1 (tryCatch (holding [v] (call (.ref q) [v])) _ >>= _) _ _ _
  refine wpAny_bind (wpAny_tryCatch (wpAny_holding (hkey 0 v _ _ _ hn hPv hk1 fun h2 tk2 x2 t2 hk2 ix2 => ?_)))
  have hS2 := hk2 _ _ hS'
  have st2 : St (0 + 1) h2 := W.frame _ _ _ hst' fun b _ o e => hk2 _ _ e
  have hkk : ∀ b o, b ≠ I → b ≠ S → s.heap.get? b = some o → h2.get? b = some o := fun b o b1 b2 e => hk2 _ _ (hk1 b o b1 b2 e)
  have s1 := Heap.SameBut.update h2 S (Obj.mapSeq fun _ => #[v, .float x2 t2])
  obtain ⟨c2, hc2⟩ : ∃ c2, (h2.update S (Obj.mapSeq fun _ => #[v, .float x2 t2])).get? S = some (seqL #[v, .float x2 t2] c2) := ⟨_, get?_update_seq hS2 fun _ => #[v, .float x2 t2]⟩
  show wpAny _ A.in1 (updateSeq S (fun _ => #[v, .float x2 t2]) >>= _) _ _ _
  refine wpAny_bind ?_
  refine wpAny_updateSeq hS2 rfl ?_
  rw [hname]
  refine wpAny_pure ⟨plainId_quiet PySem.F.plain_min_loop _, ?_⟩
  refine minK_loop kf W hSI hSf hkey hR (n - 1) 1 0 _ _ _ x2 t2 c2 (by omega) hn (by omega) (fun j' hj' => ?_) (walk_frame W hSf st2 s1) hc2 ix2 hPv fun b o b1 b2 e => s1.extBut _ _ b2 (hkk b o b1 b2 e)
  have : j' = 0 := by omega
  subst this; exact Int.le_refl _
end
end Mine
end

section
open PySem PySem.W PySem.Spec PySem.Calls PyProof.Rows
set_option maxRecDepth 100000
namespace Mine
theorem paired_at {α β : Type} {F : α → β → Prop} : ∀ {l : List α} {l' : List β}, Paired F l l' → ∀ {i : Nat} {a : α}, l[i]? = some a → ∃ b, l'[i]? = some b ∧ F a b
  | _, _, .nil, i, a, h => by simp at h
  | _, _, .cons h r, 0, a, e => by
    have : _ = a := Option.some.inj e
    subst this
    exact ⟨_, rfl, h⟩
  | _, _, .cons h r, i + 1, a, e => paired_at r (i := i) (by simpa using e)
theorem args_max_dk (a d v : Value) : argsOk "max" ⟨[a], [(Str.ofString "default", d), (Str.ofString "key", v)]⟩ := by unfold argsOk; kernel_rfl
theorem args_max_1 (a : Value) : argsOk "max" ⟨[a], []⟩ := by unfold argsOk; kernel_rfl
section
variable {w : World} {A : Around} {E : Value → Shared → Prop} {s : Shared} {g : Heap} {L : Addr} {m : Str → Option Value} {news news' : List (Addr × Obj)}
theorem max_key {it fl : Addr} {d : Value} {x : Int → UInt64} {t : Int → Tok} {v : Int → Int} {Q : Value → Shared → Prop} (hh : A.handled = none) (F : Fr g L s.heap m) (N : News g L s.heap news) (hm : (it, rit 0 6 1) ∈ news) (hsub : ∀ q ∈ news', q ∈ news ∧ q.1 ≠ it)
    (hkey : KeyCall w g fl x t) (hx : ∀ i, 0 ≤ i → i < 6 → IsI (x i) (v i)) (hd : A.depth + 6 < recursionLimit) (hu : A.units + 30 < cLine)
    (hQ : ∀ e te h' tk', 0 ≤ e → e < 6 → (∀ j, 0 ≤ j → j < 6 → v j ≤ v e) → Fr g L h' m → News g L h' news' → Q (.int e te) { s with heap := h', toks := tk' }) :
    wpAny (model PySem.Challenge.rw_op0141_01.row.prog w) A (call (.builtin "max") [.ref it] [(Str.ofString "default", d), (Str.ofString "key", .ref fl)]) Q E s := by
  have hname : (toString "max" ++ toString ".loop" : String) = "max.loop" := by decide
  have nI := N _ hm
  refine kmk_tree PySem.F.kind_max PySem.F.plain_max PySem.F.entry_max (args_max_dk _ _ _) ?_
  show wpAny _ A.in1 (Builtin.Builtins.bindParams "max" ["key", "default"] 0 ⟨[], [(Str.ofString "default", d), (Str.ofString "key", .ref fl)]⟩ >>= _) _ _ s
  refine wpAny_bind (wpAny_of_eq (show Builtin.Builtins.bindParams "max" ["key", "default"] 0 ⟨[], [(Str.ofString "default", d), (Str.ofString "key", .ref fl)]⟩ = pure [some (.ref fl), some d] from rfl) ?_)
  refine wpAny_bind (wpAny_pure ?_)
  refine wpAny_bind (wpAny_pyIter_rangeiter (x := 0) (left := 6) (step := 1) nI.1 ?_)
  refine wpAny_bind (wpAny_newList ?_ (Nat.zero_le _))
  rw [hname]
  have hIS : it ≠ s.heap.objs.size := Nat.ne_of_lt (Heap.lt_size nI.1)
  have up : ∀ b o, s.heap.get? b = some o → (s.heap.push (seqL #[] 0)).get? b = some o := fun b o e => Heap.get?_push_of_some _ e
  refine wpAny_pure ⟨plainId_quiet PySem.F.plain_max_loop _, ?_⟩
  have W := walks_range (prog := PySem.Challenge.rw_op0141_01.row.prog) (w := w) (A := A.in1) hh it 6
  have keepF : ∀ h', (∀ b o, b ≠ it → b ≠ s.heap.objs.size → s.heap.get? b = some o → h'.get? b = some o) → Fr g L h' m ∧ News g L h' news' := fun h' hk => by
    have ne : ∀ b o, s.heap.get? b = some o → b ≠ s.heap.objs.size := fun b o e => Nat.ne_of_lt (Heap.lt_size e)
    obtain ⟨oL, es, ep, hL, r⟩ := F.ns
    refine ⟨⟨⟨oL, es, ep, hk _ _ (fun q => nI.2.1 q.symm) (ne _ _ hL) hL, r⟩, fun b o e => hk _ _ (fun q => ?_) (ne _ _ (F.keep b o e)) (F.keep b o e), F.above⟩, fun q hq => ?_⟩
    · rw [q, nI.2.2] at e; cases e
    · have z := N q (hsub q hq).1
      exact ⟨hk _ _ (hsub q hq).2 (ne _ _ z.1) z.1, z.2⟩
  refine maxK_loop0 (s := s) (q := fl) (fun i => v (i : Int)) W hIS.symm (by simpa using hIS.symm) (by decide) ?_ ?_ (st := ?_) (hS := Heap.get?_push_size _ rfl) (hk := fun b o _ _ e => up _ _ e)
  · intro i vv s₂ Q' E' hi hP hk hq
    obtain ⟨_, ti, rfl⟩ := hP
    have ei : (0 : Int) + (i : Nat) * 1 = (i : Nat) := by omega
    rw [ei]
    refine hkey.call _ _ _ _ _ _ (fun b o e => (keepF _ hk).1.keep b o e) (by rw [depth_in1]; omega) (by rw [units_in1]; omega) (by omega) (by omega) fun h' tk' hk' => hq h' tk' _ _ hk' (hx _ (by omega) (by omega))
  · intro i vv h' tk' hi hP hbest hk
    obtain ⟨_, ti, rfl⟩ := hP
    have ei : (0 : Int) + (i : Nat) * 1 = (i : Nat) := by omega
    rw [ei]
    refine hQ (i : Nat) ti h' tk' (by omega) (by omega) (fun j h0 h6 => ?_) (keepF _ hk).1 (keepF _ hk).2
    have := hbest j.toNat (by omega)
    have e : ((j.toNat : Nat) : Int) = j := by omega
    rw [e] at this
    exact this
  · show IsRangeIter _ _ _ _ _
    exact up _ _ nI.1
theorem max_list {l : Addr} {vs : List Value} {qs : List Int} {Q : Value → Shared → Prop} (hh : A.handled = none) (hl : s.heap.IsList l vs.toArray) (hv : Paired (fun v q => ∃ x t, v = .float x t ∧ IsI x q) vs qs) (hne : 0 < vs.length)
    (hQ : ∀ x t q h' tk', q ∈ qs → (∀ j ∈ qs, j ≤ q) → IsI x q → Keeps s.heap h' → Q (.float x t) { s with heap := h', toks := tk' }) :
    wpAny (model PySem.Challenge.rw_op0141_01.row.prog w) A (call (.builtin "max") [.ref l] []) Q E s := by
  have hname : (toString "max" ++ toString ".loop" : String) = "max.loop" := by decide
  obtain ⟨ol, hol, _⟩ := id hl
  have hll : @LT.lt Nat _ l s.heap.objs.size := Heap.lt_size hol
  refine kmk_tree PySem.F.kind_max PySem.F.plain_max PySem.F.entry_max (args_max_1 _) ?_
  show wpAny _ A.in1 (Builtin.Builtins.bindParams "max" ["key", "default"] 0 ⟨[], []⟩ >>= _) _ _ s
  refine wpAny_bind (wpAny_of_eq (show Builtin.Builtins.bindParams "max" ["key", "default"] 0 ⟨[], []⟩ = pure [none, none] from rfl) ?_)
  refine wpAny_bind (wpAny_pure ?_)
  refine wpAny_bind (wpAny_pyIter_list hl ?_)
  refine wpAny_bind (wpAny_newList ?_ (Nat.zero_le _))
  rw [hname]
  have up0 : ∀ b o, s.heap.get? b = some o → (s.heap.push { cls := .type "list_iterator", data := .fields #[.ref l, .int 0 0] }).get? b = some o := fun b o e => Heap.get?_push_of_some _ e
  have gI : (s.heap.push { cls := .type "list_iterator", data := .fields #[.ref l, .int 0 0] }).get? s.heap.objs.size = some { cls := .type "list_iterator", data := .fields #[.ref l, .int 0 0] } := Heap.get?_push_size _ rfl
  have sz : (s.heap.push { cls := .type "list_iterator", data := .fields #[.ref l, .int 0 0] }).objs.size = s.heap.objs.size + 1 := Heap.size_push ..
  generalize s.heap.push { cls := .type "list_iterator", data := .fields #[.ref l, .int 0 0] } = h1 at *
  have up : ∀ b o, h1.get? b = some o → (h1.push (seqL #[] 0)).get? b = some o := fun b o e => Heap.get?_push_of_some _ e
  refine wpAny_pure ⟨plainId_quiet PySem.F.plain_max_loop _, ?_⟩
  have W := Walks.list (prog := PySem.Challenge.rw_op0141_01.row.prog) (w := w) (A := A.in1) hh s.heap.objs.size l (Nat.ne_of_lt hll) vs.toArray
  rw [List.size_toArray] at W
  have hlen : vs.length = qs.length := hv.length
  have hS1 : h1.objs.size ≠ s.heap.objs.size := neN (by omega)
  have hS2 : h1.objs.size ≠ l := neN (by omega)
  have hat : ∀ (i : Nat) (v : Value), vs[i]? = some v → ∃ x t, v = .float x t ∧ IsI x (qs.getD i 0) := fun i v e => by
    obtain ⟨q, hq, x, t, e1, e2⟩ := paired_at hv e
    exact ⟨x, t, e1, by simpa [hq] using e2⟩
  show codeAny _ A (.builtin "max.loop" ⟨[.ref s.heap.objs.size, .none, .ref h1.objs.size], []⟩) _ { s with heap := h1.push (seqL #[] 0) }
  refine maxN_loop0 (s := s) (I := s.heap.objs.size) (S := h1.objs.size) (fun i => qs.getD i 0) W hS1 (fun hm => by rcases List.mem_cons.mp hm with q | q; exact hS1 q; rcases List.mem_cons.mp q with q | q; exact hS2 q; cases q) (by simpa using hne) (fun i v e => hat i v (by simpa using e)) ?_ (st := ⟨⟨_, up _ _ gI, rfl, rfl⟩, hl.at fun o e => up _ _ (up0 _ _ e)⟩) (hS := Heap.get?_push_size _ rfl) (hk := fun b o _ _ e => up _ _ (up0 _ _ e))
  intro i v h' tk' hi hP hbest hk
  have hi : i < vs.length := by simpa using hi
  have hbest : ∀ j, j < vs.length → qs.getD j 0 ≤ qs.getD i 0 := fun j hj => hbest j (by simpa using hj)
  obtain ⟨x, t, rfl, ix⟩ := hat i v (by simpa using hP)
  refine hQ x t _ h' tk' ?_ (fun j hj => ?_) ix fun b o e => hk b o (Nat.ne_of_lt (Heap.lt_size e)) (neN (by have : @LT.lt Nat _ b s.heap.objs.size := Heap.lt_size e; omega)) e
  · have : i < qs.length := by omega
    simp [this]
  · obtain ⟨i2, hi2, e2⟩ := List.getElem_of_mem hj
    have := hbest i2 (by omega)
    simpa [hi2, e2] using this
end
theorem args_min_dk (a d v : Value) : argsOk "min" ⟨[a], [(Str.ofString "default", d), (Str.ofString "key", v)]⟩ := by unfold argsOk; kernel_rfl
theorem args_min_1 (a : Value) : argsOk "min" ⟨[a], []⟩ := by unfold argsOk; kernel_rfl
section
variable {w : World} {A : Around} {E : Value → Shared → Prop} {s : Shared} {g : Heap} {L : Addr} {m : Str → Option Value} {news news' : List (Addr × Obj)}
theorem min_key {it fl : Addr} {d : Value} {x : Int → UInt64} {t : Int → Tok} {v : Int → Int} {Q : Value → Shared → Prop} (hh : A.handled = none) (F : Fr g L s.heap m) (N : News g L s.heap news) (hm : (it, rit 0 6 1) ∈ news) (hsub : ∀ q ∈ news', q ∈ news ∧ q.1 ≠ it)
    (hkey : KeyCall w g fl x t) (hx : ∀ i, 0 ≤ i → i < 6 → IsI (x i) (v i)) (hd : A.depth + 6 < recursionLimit) (hu : A.units + 30 < cLine)
    (hQ : ∀ e te h' tk', 0 ≤ e → e < 6 → (∀ j, 0 ≤ j → j < 6 → v e ≤ v j) → Fr g L h' m → News g L h' news' → Q (.int e te) { s with heap := h', toks := tk' }) :
    wpAny (model PySem.Challenge.rw_op0141_01.row.prog w) A (call (.builtin "min") [.ref it] [(Str.ofString "default", d), (Str.ofString "key", .ref fl)]) Q E s := by
  have hname : (toString "min" ++ toString ".loop" : String) = "min.loop" := by decide
  have nI := N _ hm
  refine kmk_tree PySem.F.kind_min PySem.F.plain_min PySem.F.entry_min (args_min_dk _ _ _) ?_
  show wpAny _ A.in1 (Builtin.Builtins.bindParams "min" ["key", "default"] 0 ⟨[], [(Str.ofString "default", d), (Str.ofString "key", .ref fl)]⟩ >>= _) _ _ s
  refine wpAny_bind (wpAny_of_eq (show Builtin.Builtins.bindParams "min" ["key", "default"] 0 ⟨[], [(Str.ofString "default", d), (Str.ofString "key", .ref fl)]⟩ = pure [some (.ref fl), some d] from rfl) ?_)
  refine wpAny_bind (wpAny_pure ?_)
  refine wpAny_bind (wpAny_pyIter_rangeiter (x := 0) (left := 6) (step := 1) nI.1 ?_)
  refine wpAny_bind (wpAny_newList ?_ (Nat.zero_le _))
  rw [hname]
  have hIS : it ≠ s.heap.objs.size := Nat.ne_of_lt (Heap.lt_size nI.1)
  have up : ∀ b o, s.heap.get? b = some o → (s.heap.push (seqL #[] 0)).get? b = some o := fun b o e => Heap.get?_push_of_some _ e
  refine wpAny_pure ⟨plainId_quiet PySem.F.plain_min_loop _, ?_⟩
  have W := walks_range (prog := PySem.Challenge.rw_op0141_01.row.prog) (w := w) (A := A.in1) hh it 6
  have keepF : ∀ h', (∀ b o, b ≠ it → b ≠ s.heap.objs.size → s.heap.get? b = some o → h'.get? b = some o) → Fr g L h' m ∧ News g L h' news' := fun h' hk => by
    have ne : ∀ b o, s.heap.get? b = some o → b ≠ s.heap.objs.size := fun b o e => Nat.ne_of_lt (Heap.lt_size e)
    obtain ⟨oL, es, ep, hL, r⟩ := F.ns
    refine ⟨⟨⟨oL, es, ep, hk _ _ (fun q => nI.2.1 q.symm) (ne _ _ hL) hL, r⟩, fun b o e => hk _ _ (fun q => ?_) (ne _ _ (F.keep b o e)) (F.keep b o e), F.above⟩, fun q hq => ?_⟩
    · rw [q, nI.2.2] at e; cases e
    · have z := N q (hsub q hq).1
      exact ⟨hk _ _ (hsub q hq).2 (ne _ _ z.1) z.1, z.2⟩
  refine minK_loop0 (s := s) (q := fl) (fun i => v (i : Int)) W hIS.symm (by simpa using hIS.symm) (by decide) ?_ ?_ (st := ?_) (hS := Heap.get?_push_size _ rfl) (hk := fun b o _ _ e => up _ _ e)
  · intro i vv s₂ Q' E' hi hP hk hq
    obtain ⟨_, ti, rfl⟩ := hP
    have ei : (0 : Int) + (i : Nat) * 1 = (i : Nat) := by omega
    rw [ei]
    refine hkey.call _ _ _ _ _ _ (fun b o e => (keepF _ hk).1.keep b o e) (by rw [depth_in1]; omega) (by rw [units_in1]; omega) (by omega) (by omega) fun h' tk' hk' => hq h' tk' _ _ hk' (hx _ (by omega) (by omega))
  · intro i vv h' tk' hi hP hbest hk
    obtain ⟨_, ti, rfl⟩ := hP
    have ei : (0 : Int) + (i : Nat) * 1 = (i : Nat) := by omega
    rw [ei]
    refine hQ (i : Nat) ti h' tk' (by omega) (by omega) (fun j h0 h6 => ?_) (keepF _ hk).1 (keepF _ hk).2
    have := hbest j.toNat (by omega)
    have e : ((j.toNat : Nat) : Int) = j := by omega
    rw [e] at this
    exact this
  · show IsRangeIter _ _ _ _ _
    exact up _ _ nI.1
theorem min_list {l : Addr} {vs : List Value} {qs : List Int} {Q : Value → Shared → Prop} (hh : A.handled = none) (hl : s.heap.IsList l vs.toArray) (hv : Paired (fun v q => ∃ x t, v = .float x t ∧ IsI x q) vs qs) (hne : 0 < vs.length)
    (hQ : ∀ x t q h' tk', q ∈ qs → (∀ j ∈ qs, q ≤ j) → IsI x q → Keeps s.heap h' → Q (.float x t) { s with heap := h', toks := tk' }) :
    wpAny (model PySem.Challenge.rw_op0141_01.row.prog w) A (call (.builtin "min") [.ref l] []) Q E s := by
  have hname : (toString "min" ++ toString ".loop" : String) = "min.loop" := by decide
  obtain ⟨ol, hol, _⟩ := id hl
  have hll : @LT.lt Nat _ l s.heap.objs.size := Heap.lt_size hol
  refine kmk_tree PySem.F.kind_min PySem.F.plain_min PySem.F.entry_min (args_min_1 _) ?_
  show wpAny _ A.in1 (Builtin.Builtins.bindParams "min" ["key", "default"] 0 ⟨[], []⟩ >>= _) _ _ s
  refine wpAny_bind (wpAny_of_eq (show Builtin.Builtins.bindParams "min" ["key", "default"] 0 ⟨[], []⟩ = pure [none, none] from rfl) ?_)
  refine wpAny_bind (wpAny_pure ?_)
  refine wpAny_bind (wpAny_pyIter_list hl ?_)
  refine wpAny_bind (wpAny_newList ?_ (Nat.zero_le _))
  rw [hname]
  have up0 : ∀ b o, s.heap.get? b = some o → (s.heap.push { cls := .type "list_iterator", data := .fields #[.ref l, .int 0 0] }).get? b = some o := fun b o e => Heap.get?_push_of_some _ e
  have gI : (s.heap.push { cls := .type "list_iterator", data := .fields #[.ref l, .int 0 0] }).get? s.heap.objs.size = some { cls := .type "list_iterator", data := .fields #[.ref l, .int 0 0] } := Heap.get?_push_size _ rfl
  have sz : (s.heap.push { cls := .type "list_iterator", data := .fields #[.ref l, .int 0 0] }).objs.size = s.heap.objs.size + 1 := Heap.size_push ..
  generalize s.heap.push { cls := .type "list_iterator", data := .fields #[.ref l, .int 0 0] } = h1 at *
  have up : ∀ b o, h1.get? b = some o → (h1.push (seqL #[] 0)).get? b = some o := fun b o e => Heap.get?_push_of_some _ e
  refine wpAny_pure ⟨plainId_quiet PySem.F.plain_min_loop _, ?_⟩
  have W := Walks.list (prog := PySem.Challenge.rw_op0141_01.row.prog) (w := w) (A := A.in1) hh s.heap.objs.size l (Nat.ne_of_lt hll) vs.toArray
  rw [List.size_toArray] at W
  have hlen : vs.length = qs.length := hv.length
  have hS1 : h1.objs.size ≠ s.heap.objs.size := neN (by omega)
  have hS2 : h1.objs.size ≠ l := neN (by omega)
  have hat : ∀ (i : Nat) (v : Value), vs[i]? = some v → ∃ x t, v = .float x t ∧ IsI x (qs.getD i 0) := fun i v e => by
    obtain ⟨q, hq, x, t, e1, e2⟩ := paired_at hv e
    exact ⟨x, t, e1, by simpa [hq] using e2⟩
  show codeAny _ A (.builtin "min.loop" ⟨[.ref s.heap.objs.size, .none, .ref h1.objs.size], []⟩) _ { s with heap := h1.push (seqL #[] 0) }
  refine minN_loop0 (s := s) (I := s.heap.objs.size) (S := h1.objs.size) (fun i => qs.getD i 0) W hS1 (fun hm => by rcases List.mem_cons.mp hm with q | q; exact hS1 q; rcases List.mem_cons.mp q with q | q; exact hS2 q; cases q) (by simpa using hne) (fun i v e => hat i v (by simpa using e)) ?_ (st := ⟨⟨_, up _ _ gI, rfl, rfl⟩, hl.at fun o e => up _ _ (up0 _ _ e)⟩) (hS := Heap.get?_push_size _ rfl) (hk := fun b o _ _ e => up _ _ (up0 _ _ e))
  intro i v h' tk' hi hP hbest hk
  have hi : i < vs.length := by simpa using hi
  have hbest : ∀ j, j < vs.length → qs.getD i 0 ≤ qs.getD j 0 := fun j hj => hbest j (by simpa using hj)
  obtain ⟨x, t, rfl, ix⟩ := hat i v (by simpa using hP)
  refine hQ x t _ h' tk' ?_ (fun j hj => ?_) ix fun b o e => hk b o (Nat.ne_of_lt (Heap.lt_size e)) (neN (by have : @LT.lt Nat _ b s.heap.objs.size := Heap.lt_size e; omega)) e
  · have : i < qs.length := by omega
    simp [this]
  · obtain ⟨i2, hi2, e2⟩ := List.getElem_of_mem hj
    have := hbest i2 (by omega)
    simpa [hi2, e2] using this
end
end Mine
end

section
open PySem PySem.W PySem.Spec PySem.Calls PyProof.Rows
set_option maxRecDepth 100000
namespace Mine
theorem obj_mro : mroOf (.type "object") = pure [.type "object"] := by rw [mroOf_type]; kernel_rfl
theorem obj_lookup_new : typeLookup (.type "object") "__new__" = pure (some (.builtin "object.__new__")) := by rw [typeLookup_type, builtinLookup_eq_fast]; kernel_rfl
theorem obj_made : Bind.madeBy (.type "object") = pure (some "object.__new__") := madeBy_type obj_mro obj_lookup_new (by decide +kernel)
theorem obj_sub : isSubtype (.type "object") (.type "object") = pure true := by rw [isSubtype_type]; kernel_rfl
theorem obj_kind : builtinKind "object.__new__" = some .builtinFn := by decide +kernel
theorem obj_split : splitId "object.__new__" = some ("object", "__new__") := by decide +kernel
theorem obj_base : Bind.staticBase (.type "object") = pure (.type "object") := by first | rfl | kernel_rfl
theorem obj_newCall : checkBuiltinCall "object.__new__" ⟨[.type "object"], []⟩ = pure () := by
  unfold checkBuiltinCall
  rw [signature?_of (id := "object.__new__") (n := ['_', '_', 'w', 'e', 'n', '_', '_']) (o := ['t', 'c', 'e', 'j', 'b', 'o']) (by kernel_rfl) PySem.F.owner_object, obj_kind, obj_split]
  have h1 : isType (.type "object") = pure true := rfl
  have h2 : (Manifest.find? "object").elim false (fun x => x.noNew) = false := by decide +kernel
  simp only [obj_sub, h1, h2, obj_base, obj_made, pure_bind, beq_self_eq_true, if_true, Bool.not_true, Bool.false_eq_true, if_false, bne_self_eq_false]
  kernel_rfl
theorem obj_madeHere : Bind.madeHere "object.__new__" (.type "object") = pure () := by
  unfold Bind.madeHere
  rw [obj_base]
  simp only [pure_bind, obj_made, Option.map_some, bne_self_eq_false, Bool.false_eq_true, if_false]
theorem obj_called : TypeCalled "object" "object.__new__" "object.__init__" :=
  ⟨by decide +kernel, by decide +kernel, ⟨_, _, obj_mro⟩, obj_made, by decide +kernel, obj_sub, PySem.F.slot_object_init⟩
theorem obj_typeCall : checkTypeCall "object" ⟨[], []⟩ = pure () := by kernel_rfl
abbrev plainO : Obj := { cls := .type "object", dict := none, data := .plain }
theorem obj_new_meets : Meets (Builtin.«object.__new__» ⟨[.type "object"], []⟩) (fun _ R s => R (.ok (.ret (.ref s.heap.objs.size))) { s with heap := s.heap.push plainO }) :=
  Meets.of_wp fun prog w A R s hs => by
    unfold Builtin.«object.__new__»
    refine wpAny_bind (m := isType (.type "object")) (wpAny_pure (a := true) ?_)
    simp only [Bool.not_true, Bool.false_eq_true, if_false]
    have h2 : ((Manifest.find? "object").elim false fun x => x.mro.any fun t => (Manifest.find? t).elim false fun x => x.noNew) = false := by decide +kernel
    rw [h2]
    simp only [Bool.false_eq_true, if_false, obj_madeHere, pure_bind]
    have h3 : typeHasDict (.type "object") = false := by decide +kernel
    have h4 : diesByItsTypesDel "object" = false := by decide +kernel
    have h5 : (!([] : List Value).isEmpty || !([] : List (Str × Value)).isEmpty) = false := rfl
    rw [h5, h3]
    simp only [Bool.false_eq_true, if_false, pure_bind]
    refine wpAny_bind (wpAny_newObj_type ?_)
    rw [h4]
    simp only [Bool.false_eq_true, if_false]
    exact wpAny_pure ⟨_, rfl, hs⟩
theorem obj_init_meets (a : Value) : Meets (Builtin.«object.__init__» ⟨[a], []⟩) (fun _ R s => R (.ok (.ret .none)) s) :=
  Meets.of_wp fun prog w A R s hs => wpAny_pure ⟨_, rfl, hs⟩
section
variable {prog : Program} {w : World} {A : Around} {E : Value → Shared → Prop} {s : Shared} {g : Heap} {L : Addr} {m : Str → Option Value} {news : List (Addr × Obj)}
theorem call_object {Q : Value → Shared → Prop} (h : Q (.ref s.heap.objs.size) { s with heap := s.heap.push plainO }) : wpAny (model prog w) A (call (.type "object") []) Q E s :=
  callType_meets (Q₁ := fun v s₁ => v = .ref s.heap.objs.size ∧ s₁ = { s with heap := s.heap.push plainO }) obj_called obj_typeCall obj_newCall PySem.F.entry_object_new PySem.F.entry_object_init obj_new_meets ⟨rfl, rfl⟩ fun obj s₁ hq => by
    obtain ⟨rfl, rfl⟩ := hq
    exact ⟨⟨_, Heap.get?_push_size _ rfl, rfl⟩, PySem.F.args_object_init_1 _, _, obj_init_meets _, rfl, h⟩
theorem object_K {Q : Value → Shared → Prop} (F : Fr g L s.heap m) (N : News g L s.heap news) (h : ∀ h' D, Fr g L h' m → News g L h' ((D, plainO) :: news) → (∀ q ∈ news, q.1 < D) → Q (.ref D) { s with heap := h' }) :
    wpAny (model prog w) A (call (.type "object") []) Q E s := by
  obtain ⟨F2, N2, l2⟩ := led_push F N plainO
  exact call_object (h _ _ F2 N2 l2)
end
end Mine
end

section
open PySem PySem.W PySem.Spec PySem.Calls PyProof.Rows
set_option maxRecDepth 100000
namespace Mine
section
theorem picked1 {v : Int → Int} {e : Int} (h0 : 0 ≤ e) (h6 : e < 6) (hb : ∀ j, 0 ≤ j → j < 6 → v j ≤ v e) : Picked v [e] :=
  ⟨fun i hi => by simp only [List.mem_singleton] at hi; subst hi; exact ⟨h0, h6⟩, by simp, fun j a b _ i hi => by simp only [List.mem_singleton] at hi; subst hi; exact hb j a b⟩
set_option maxHeartbeats 1000000 in
theorem nlargest1 {w : World} {A : Around} {s : Shared} {R : Result → Shared → Prop} {h₀ : Heap} {p : Program} {loose : List Str} {mean : ExcName → Option Value} {mg mb : Str → Option Value}
   {r fl : Addr} {tk t1 t2 t3 : Tok} {x : Int → UInt64} {t : Int → Tok} {v : Int → Int}
   (X : (Mine.hd.heap_39 w.params).In h₀) (T : Top p loose mean mg mb h₀) (hS : NoShare h₀) (hk : Keeps h₀ s.heap) (hroom : A.depth + 40 < recursionLimit) (hun : A.units + 150 < cLine) (hh : A.handled = none)
   (hr : IsRange s.heap r 0 6 1 t1 t2 t3) (hkey : KeyCall w s.heap fl x t) (hx : ∀ i, 0 ≤ i → i < 6 → IsI (x i) (v i)) (ht : ∀ i, 0 ≤ i → i < 6 → t i ≠ 0) (hd : ∀ i j, 0 ≤ i → i < 6 → 0 ≤ j → j < 6 → t i = t j → v i = v j)
   (hR : PickR s R v 1) :
   codeAny (model PySem.Challenge.rw_op0141_01.row.prog w) A (.call (.ref 110) ⟨[.int 1 tk, .ref r], [(Str.ofString "key", .ref fl)]⟩) R s := by
  k_with_none
  w_top off
  k_with "call builtin:iter" => (k_here; (with_reducible show wpAny _ _ (call (Value.builtin "iter") [Value.ref _]) _ _ _); (k_dflt (refine' iter_range_K ?zk1 ?zk2 ?zk3 ?_; (case zk1 => k_asm); (case zk2 => k_asm); (case zk3 => exact Fr.keep (by assumption) _ _ (by assumption)))); walk_at "M 5"; walk_say "MINE iter")
  k_with "call type:object" => (k_here; (k_dflt (refine' object_K ?zk1 ?zk2 ?_; (case zk1 => k_asm); (case zk2 => k_asm))); walk_at "M 5"; walk_say "MINE object")
  k_with "callWith type:object" => (k_here; (k_dflt (refine callWith_type0 ?_)); walk_say "MINE cw")
  k_with "call builtin:max" => (k_here; refine Hold.out ?_; walk_say "MINE hold max")
  k_with "call builtin:min" => (k_here; refine Hold.out ?_; walk_say "MINE hold min")
  revert X; k_fill; intro X
  refine' enterC X T hk [] ?hh ?k6 ?k7 ?k8 ?k9 ?kB ?kD ?_ ?c2 ?c3 ?c4
  case hh => intro q hq; cases hq
  case k6 => k_is
  case k7 => k_is
  case k8 => omega
  case k9 => exact binds_K (fun a o e => hk _ _ (X a o e)) rfl (by k_is) rfl rfl rfl
  case kB => exact rfl
  case kD => decide +kernel
  case c2 => rfl
  case c3 => rfl
  case c4 => rfl
  intro g L' h₁ tk₁ cells hg hkg X' T' F' N' Y' hL
  k_cells Y'
  (try simp only [List.cons_append, List.nil_append] at N')
  have hg' : Keeps s.heap g := fun b o e => hg b o e (by intro q hq; cases hq)
  have hr' : IsRange g r 0 6 1 t1 t2 t3 := hg' _ _ hr
  have hkey' := hkey.keeps hg'
  clear hr hkey hg hL hS hk hkg ht hd
  (try dsimp only)
  k_steps
  refine Hold.intro ?_
  rename Fr _ _ _ _ => F1
  rename News _ _ _ _ => N1
  rename_i o1 d1 tq1 it hq1 lt1 hq2 hq3 D1 lt2 hq4
  have lt2' := lt2.1
  show wpAny _ _ (call (Value.builtin "max") [Value.ref it] [(Str.ofString "default", _), (Str.ofString "key", Value.ref fl)]) _ _ _
  refine max_key (news' := [(D1, plainO), (L' + 1, o1)]) hh F1 N1 (by exact .tail _ (.head _)) ?hs hkey' hx ?hd ?hu ?_
  case hs => (intro q hq; simp only [List.mem_cons, List.not_mem_nil, or_false] at hq; rcases hq with rfl | rfl; exact ⟨.head _, neN (by dsimp only; omega)⟩; exact ⟨.tail _ (.tail _ (.head _)), neN (by dsimp only; omega)⟩)
  case hd => show A.depth + 1 + 6 < _; omega
  case hu => show A.units + 3 + 30 < _; omega
  intro e te h5 tk5 he0 he6 hb F5 N5
  clear F1 N1
  dsimp only
  k_steps
  refine wpAny_is_other rfl (fun q => nomatch q) ?_
  dsimp only
  k_steps
  rename Fr _ _ _ _ => F7
  rename News _ _ _ _ => N7
  refine hR _ _ _ 0 [.int e te] [e] (.cons _ _ .nil) rfl (picked1 he0 he6 hb) (fun b o q => F7.keep b o (hg' _ _ q)) (N7.get (.head _)) ?_
  cases q : s.heap.get? _ with
  | none => rfl
  | some o => have z := (N7 _ (.head _)).2.2; rw [hg' _ _ q] at z; cases z
set_option maxHeartbeats 1000000 in
theorem nsmallest1 {w : World} {A : Around} {s : Shared} {R : Result → Shared → Prop} {h₀ : Heap} {p : Program} {loose : List Str} {mean : ExcName → Option Value} {mg mb : Str → Option Value}
   {r fl : Addr} {tk t1 t2 t3 : Tok} {x : Int → UInt64} {t : Int → Tok} {v : Int → Int}
   (X : (Mine.hd.heap_39 w.params).In h₀) (T : Top p loose mean mg mb h₀) (hS : NoShare h₀) (hk : Keeps h₀ s.heap) (hroom : A.depth + 40 < recursionLimit) (hun : A.units + 150 < cLine) (hh : A.handled = none)
   (hr : IsRange s.heap r 0 6 1 t1 t2 t3) (hkey : KeyCall w s.heap fl x t) (hx : ∀ i, 0 ≤ i → i < 6 → IsI (x i) (v i)) (ht : ∀ i, 0 ≤ i → i < 6 → t i ≠ 0) (hd : ∀ i j, 0 ≤ i → i < 6 → 0 ≤ j → j < 6 → t i = t j → v i = v j)
   (hR : PickR s R (fun i => - v i) 1) :
   codeAny (model PySem.Challenge.rw_op0141_01.row.prog w) A (.call (.ref 104) ⟨[.int 1 tk, .ref r], [(Str.ofString "key", .ref fl)]⟩) R s := by
  revert X; k_fill; intro X
  refine' enterC X T hk [] ?hh ?k6 ?k7 ?k8 ?k9 ?kB ?kD ?_ ?c2 ?c3 ?c4
  case hh => intro q hq; cases hq
  case k6 => k_is
  case k7 => k_is
  case k8 => omega
  case k9 => exact binds_K (fun a o e => hk _ _ (X a o e)) rfl (by k_is) rfl rfl rfl
  case kB => exact rfl
  case kD => decide +kernel
  case c2 => rfl
  case c3 => rfl
  case c4 => rfl
  intro g L' h₁ tk₁ cells hg hkg X' T' F' N' Y' hL
  k_cells Y'
  (try simp only [List.cons_append, List.nil_append] at N')
  have hg' : Keeps s.heap g := fun b o e => hg b o e (by intro q hq; cases hq)
  have hr' : IsRange g r 0 6 1 t1 t2 t3 := hg' _ _ hr
  have hkey' := hkey.keeps hg'
  clear hr hkey hg hL hS hk hkg ht hd
  (try dsimp only)
  k_steps
  refine Hold.intro ?_
  rename Fr _ _ _ _ => F1
  rename News _ _ _ _ => N1
  rename_i o1 d1 tq1 it hq1 lt1 hq2 hq3 D1 lt2 hq4
  have lt2' := lt2.1
  show wpAny _ _ (call (Value.builtin "min") [Value.ref it] [(Str.ofString "default", _), (Str.ofString "key", Value.ref fl)]) _ _ _
  refine min_key (news' := [(D1, plainO), (L' + 1, o1)]) hh F1 N1 (by exact .tail _ (.head _)) ?hs hkey' hx ?hd ?hu ?_
  case hs => (intro q hq; simp only [List.mem_cons, List.not_mem_nil, or_false] at hq; rcases hq with rfl | rfl; exact ⟨.head _, neN (by dsimp only; omega)⟩; exact ⟨.tail _ (.tail _ (.head _)), neN (by dsimp only; omega)⟩)
  case hd => show A.depth + 1 + 6 < _; omega
  case hu => show A.units + 3 + 30 < _; omega
  intro e te h5 tk5 he0 he6 hb F5 N5
  clear F1 N1
  dsimp only
  k_steps
  refine wpAny_is_other rfl (fun q => nomatch q) ?_
  dsimp only
  k_steps
  rename Fr _ _ _ _ => F7
  rename News _ _ _ _ => N7
  refine hR _ _ _ 0 [.int e te] [e] (.cons _ _ .nil) rfl (picked1 he0 he6 (fun j a b => by have := hb j a b; omega)) (fun b o q => F7.keep b o (hg' _ _ q)) (N7.get (.head _)) ?_
  cases q : s.heap.get? _ with
  | none => rfl
  | some o => have z := (N7 _ (.head _)).2.2; rw [hg' _ _ q] at z; cases z
end
end Mine
end

section
open PySem PySem.W PySem.Spec PySem.Calls PyProof.Rows
set_option maxRecDepth 100000
namespace Mine
section
variable {prog : Program} {w : World} {A : Around} {E : Value → Shared → Prop} {s : Shared} {env : Env} {g : Heap} {L : Addr} {m : Str → Option Value}
/-- what a comprehension with a word of its own (J: turns, items, objects made, tokens) asks -/
structure LcJ (prog : Program) (w : World) (A : Around) (env : Env) (elt : Expr) (x : Str) (ifs : List Expr) (scope : Scope) (cl : List (Str × Addr)) (P : Nat → Value → Prop) (J : Nat → List Value → List (Addr × Obj) → Nat → Prop) (I : Addr) (n : Nat) (s₂ : Shared) : Prop where
  mono : ∀ i ys os t t', J i ys os t → t ≤ t' → J i ys os t'
  start : ∀ t, J 0 [] [] t
  turn : ∀ C i v ys os s₃ m₃, i < n → P i v → J i ys os s₃.toks → s₃.heap.Ns C m₃ → m₃ x = some v → (∀ b o, b ≠ I → s₂.heap.get? b = some o → s₃.heap.get? b = some o) → (∀ p ∈ os, s₃.heap.get? p.1 = some p.2) →
    Tests prog w A env ifs scope cl C (fun ok s₄ => PySem.Keeps s₃ s₄ ∧ (if ok = true then
      wpAny (model prog w) A (eval elt (compEnvC scope cl C env)) (fun y s₅ => PySem.Keeps s₄ s₅ ∧ ys.length < 10000 ∧ ∃ os', J (i + 1) (ys ++ [y]) os' s₅.toks ∧ ∀ p ∈ os', p ∈ os ∨ (s₄.heap.objs.size ≤ p.1 ∧ s₅.heap.get? p.1 = some p.2)) (fun _ _ => False) s₄
      else J (i + 1) ys os s₄.toks)) s₃
theorem lcj_loop {elt iter : Expr} {x : Str} {px pos : Pos} {ifs : List Expr} {scope : Scope} {cl : List (Str × Addr)} {C D I : Addr} {fp : List Addr} {n : Nat} {P : Nat → Value → Prop} {St : Nat → Heap → Prop} {J : Nat → List Value → List (Addr × Obj) → Nat → Prop} {R : Result → Shared → Prop} {s₂ : Shared}
    (W : Walks prog w A I fp [I] n P St) (Z : LcJ prog w A env elt x ifs scope cl P J I n s₂)
    (hkind : scope.kind = .function) (hx : (compEnvC scope cl C env).kindOf x = some .local)
    (hDC : D ≠ C) (hDf : D ∉ fp) (hCf : C ∉ fp) (hID : @LT.lt Nat _ I D) (hIC : I ≠ C)
    (hold : ∀ b o, s₂.heap.get? b = some o → s.heap.get? b = some o ∧ b ≠ D ∧ b ≠ C)
    (hst : St 0 s.heap) (hD : s.heap.get? D = some (lsto [] 0)) (hn : s.heap.Ns C (fun _ => none))
    (hR : ∀ h' tk m' ys os n', J n ys os tk → h'.Ns C m' → h'.get? D = some (lsto ys n') → (∀ p ∈ os, h'.get? p.1 = some p.2 ∧ @LT.lt Nat _ D p.1 ∧ @LT.lt Nat _ C p.1) → (∀ b o, b ≠ C → b ≠ I → b ≠ D → s.heap.get? b = some o → h'.get? b = some o) → R (.ok .next) { s with heap := h', toks := tk }) :
    codeAny (model prog w) A (.compLoop (.ListComp elt [⟨.Name x px, iter, ifs, 0⟩] scope pos) 0 (.ref I) (.ref D) (compEnvC scope cl C env)) R s := by
  refine codeAny_compLoop_tests
    (fun k s' => ∃ h' tk m' ys os i n', s' = { s with heap := h', toks := tk } ∧ i ≤ n ∧ k = n + 1 - i ∧ J i ys os tk ∧ St i h' ∧ h'.get? D = some (lsto ys n') ∧ h'.Ns C m' ∧ (∀ p ∈ os, h'.get? p.1 = some p.2 ∧ @LT.lt Nat _ D p.1 ∧ @LT.lt Nat _ C p.1) ∧
      (∀ b o, b ≠ C → b ≠ I → b ≠ D → s.heap.get? b = some o → h'.get? b = some o)) ?_ (n + 1)
    ⟨s.heap, s.toks, _, [], [], 0, 0, rfl, Nat.zero_le _, rfl, Z.start _, hst, hD, hn, (fun p hp => by cases hp), (fun _ _ _ _ _ e => e)⟩
  rintro k s' ⟨H, tk, m', ys, os, i, n', rfl, hi, rfl, hJ, hst', hD', hn', hos, hk⟩
  have hosne : ∀ p ∈ os, p.1 ≠ C ∧ p.1 ≠ I ∧ p.1 ≠ D := fun p hp => by
    have := hos p hp
    exact ⟨neN (by omega), neN (by omega), neN (by omega)⟩
  have hDI : D ≠ I := neN (by omega)
  by_cases hlt : i < n
  · refine wpAny_with_toks (n := tk) (Nat.le_refl _) (W.item i _ _ _ hlt hst' fun v h₁ tk₁ hPv hst₁ hk₁ htk₁ => ?_)
    replace hk₁ : ∀ b o, b ≠ I → H.get? b = some o → h₁.get? b = some o := fun b o hb e => hk₁ b o (by simpa using hb) e
    refine wpAny_assign_Name (wpAny_storeName_local hx (hn'.at' fun o e => hk₁ _ o hIC.symm e) (fun h₂ hn₂ hs₂ => ?_) (by show (scope.kind == .class || (scope.kind == .module && _)) = false; rw [hkind]; rfl))
    replace hs₂ : Heap.SameBut C h₁ h₂ := hs₂
    replace hn₂ : h₂.Ns C (fun y => if y = x then some v else m' y) := hn₂
    have up₂ : ∀ b o, b ≠ C → b ≠ I → H.get? b = some o → h₂.get? b = some o := fun b o hbC hbI e => hs₂.extBut b o hbC (hk₁ b o hbI e)
    have hst₂ : St (i + 1) h₂ := W.frame _ _ _ hst₁ fun b hb o e => hs₂.extBut b o (fun h => hCf (h ▸ hb)) e
    have hJ₂ := Z.mono _ _ _ _ (tk₁ + 1) hJ (Nat.le_succ_of_le htk₁)
    refine wpAny_mono (wpAny_toks_of (n := tk₁ + 1) (Nat.le_refl _) (Z.turn C i v ys os _ _ hlt hPv hJ₂ hn₂ (by simp) (fun b o hb e => up₂ b o (hold b o e).2.2 hb (hk b o (hold b o e).2.2 hb (hold b o e).2.1 (hold b o e).1)) (fun p hp => up₂ _ _ (hosne p hp).1 (hosne p hp).2.1 (hos p hp).1))) (fun ok s₃ h₃ => ?_) fun _ _ e => e.2.elim
    obtain ⟨htk₃, ⟨h₃, tk₃, rfl, hk₃⟩, hres⟩ := h₃
    have hn₃ := hn₂.keeps hk₃
    have hst₃ : St (i + 1) h₃ := W.frame _ _ _ hst₂ fun b _ o e => hk₃ b o e
    have hD₃ := hk₃ _ _ (up₂ D _ hDC hDI hD')
    cases ok with
    | false =>
      simp only [Bool.false_eq_true, if_false] at hres ⊢
      refine ⟨n + 1 - (i + 1), by omega, h₃, tk₃, _, ys, os, i + 1, n', rfl, hlt, rfl, hres, hst₃, hD₃, hn₃, fun p hp => ⟨hk₃ _ _ (up₂ _ _ (hosne p hp).1 (hosne p hp).2.1 (hos p hp).1), (hos p hp).2⟩, fun b o hbC hbI hbD e => hk₃ b o (up₂ b o hbC hbI (hk b o hbC hbI hbD e))⟩
    | true =>
      simp only [if_true] at hres ⊢
      refine wpAny_mono (wpAny_toks_of (n := tk₃) (Nat.le_refl _) hres) (fun y s₅ h₅ => ?_) fun _ _ e => e.2.elim
      obtain ⟨htk₅, ⟨h₅, tk₅, rfl, hk₅⟩, hlen, os', hJ', hos'⟩ := h₅
      have hD₅ := hk₅ _ _ hD₃
      have hn₅ := hn₃.keeps hk₅
      refine append_at hD₅ (fun h₆ s₆ d₆ => ?_) (by rw [List.size_toArray, sizeLine_eq]; omega)
      have hlD : @LT.lt Nat _ D h₃.objs.size := Heap.lt_size hD₃
      have hlC : @LT.lt Nat _ C h₃.objs.size := hn₃.lt
      have hst₆ : St (i + 1) h₆ := W.frame _ _ _ hst₃ fun b hb o e => s₆.extBut b o (fun h => hDf (h ▸ hb)) (hk₅ _ _ e)
      refine ⟨n + 1 - (i + 1), by omega, h₆, tk₅, _, ys ++ [y], os', i + 1, n' + 1, rfl, hlt, rfl, hJ', hst₆, by rw [d₆]; simp [lsto], hn₅.sameBut s₆ hDC.symm, fun p hp => ?_, fun b o hbC hbI hbD e => s₆.extBut _ _ hbD (hk₅ _ _ (hk₃ b o (up₂ b o hbC hbI (hk b o hbC hbI hbD e))))⟩
      rcases hos' p hp with hp | ⟨hp1, hp2⟩
      · exact ⟨s₆.extBut _ _ (hosne p hp).2.2 (hk₅ _ _ (hk₃ _ _ (up₂ _ _ (hosne p hp).1 (hosne p hp).2.1 (hos p hp).1))), (hos p hp).2⟩
      · have q1 : @LT.lt Nat _ D p.1 := Nat.lt_of_lt_of_le hlD hp1
        have q2 : @LT.lt Nat _ C p.1 := Nat.lt_of_lt_of_le hlC hp1
        exact ⟨s₆.extBut _ _ (neN (by omega)) hp2, q1, q2⟩
  · have hin : i = n := by omega
    subst hin
    refine wpAny_with_toks (n := tk) (Nat.le_refl _) (W.done _ _ _ hst' fun h₁ tk₁ hk₁ htk₁ => ?_)
    replace hk₁ : ∀ b o, b ≠ I → H.get? b = some o → h₁.get? b = some o := fun b o hb e => hk₁ b o (by simpa using hb) e
    exact hR h₁ tk₁ m' ys os n' (Z.mono _ _ _ _ _ hJ htk₁) (hn'.at' fun o e => hk₁ _ o hIC.symm e) (hk₁ _ _ hDI hD') (fun p hp => ⟨hk₁ _ _ (hosne p hp).2.1 (hos p hp).1, (hos p hp).2⟩) fun b o hbC hbI hbD e => hk₁ b o hbI (hk b o hbC hbI hbD e)
/-- the source of such a comprehension -/
def LcSrcJ (prog : Program) (w : World) (A : Around) (env : Env) (g : Heap) (L : Addr) (m : Str → Option Value) (elt : Expr) (x : Str) (ifs : List Expr) (scope : Scope) (cl : List (Str × Addr)) (J : Nat → List Value → List (Addr × Obj) → Nat → Prop) (Q : Value → Shared → Prop) (itv : Value) (s₂ : Shared) : Prop :=
  ∃ I oI fp n P St news, itv = .ref I ∧ Walks prog w A I fp [I] n P St ∧ St 0 s₂.heap ∧ (∀ b ∈ fp, ∃ o, s₂.heap.get? b = some o) ∧
    Fr g L s₂.heap m ∧ News g L s₂.heap ((I, oI) :: news) ∧ (∀ q ∈ news, q.1 ≠ I) ∧ LcJ prog w A env elt x ifs scope cl P J I n s₂ ∧
    (∀ D h' tk ys os n', J n ys os tk → Fr g L h' m → News g L h' ((D, lsto ys n') :: (os ++ news)) → (∀ q ∈ news, @LT.lt Nat _ q.1 D) → (∀ q ∈ os, @LT.lt Nat _ D q.1) → Q (.ref D) { s₂ with heap := h', toks := tk })
theorem lcj {elt iter : Expr} {x : Str} {px pos : Pos} {ifs : List Expr} {scope : Scope} {cl : List (Str × Addr)} {Q : Value → Shared → Prop} (J : Nat → List Value → List (Addr × Obj) → Nat → Prop) (F₀ : Fr g L s.heap m)
    (hclos : closureFor scope env = pure cl) (hcell : ∀ y ∈ scope.names, y.2 ≠ .cell) (hkind : scope.kind = .function)
    (hnames : ∀ y ∈ scope.names, y.2 = .local → scope.names.lookup y.1 = some .local) (hs : ∀ x, foldedSetIterable iter env x = pure x)
    (hx : ∀ C, (compEnvC scope cl C env).kindOf x = some .local)
    (h : wpAny (model prog w) A (eval iter env) (fun xv s₁ => wpAny (model prog w) A (pyIter xv) (LcSrcJ prog w A env g L m elt x ifs scope cl J Q) E s₁) E s) :
    wpAny (model prog w) A (eval (.ListComp elt [⟨.Name x px, iter, ifs, 0⟩] scope pos) env) Q E s := by
  refine comp_enterF F₀ hclos hcell hkind hnames hs (wpAny_mono h (fun xv s₁ h₁ => wpAny_mono h₁ (fun itv s₂ h₂ => ?_) fun _ _ e => e) fun _ _ e => e)
  obtain ⟨I, oI, fp, n, P, St, news, rfl, W, hst, hfp, F, N, hne, Z, hQ⟩ := h₂
  refine ⟨(I, oI) :: news, F, N, ?_⟩
  intro g2 C D h₁ tk kg ks F2 N2 hlt
  have old : ∀ b o, s₂.heap.get? b = some o → h₁.get? b = some o ∧ b ≠ D ∧ b ≠ C := fun b o e => by
    by_cases hb : ∃ q ∈ (I, oI) :: news, b = q.1
    · obtain ⟨q, hq, rfl⟩ := hb
      have z := N2 q (.tail _ hq)
      have zz := N q hq
      rw [zz.1] at e; cases e
      exact ⟨z.1, Nat.ne_of_lt (hlt q hq), z.2.1⟩
    · have z := ks b o e (fun q hq e2 => hb ⟨q, hq, e2⟩)
      refine ⟨F2.keep _ _ z, fun e2 => ?_, fun e2 => ?_⟩
      · have := (N2 _ (.head _)).2.2; dsimp only at this; rw [← e2, z] at this; cases this
      · have z1 := Heap.lt_size z; have z2 := F2.above; rw [e2] at z1; exact absurd (Nat.lt_of_lt_of_le z1 z2) (Nat.lt_irrefl _)
  have hst1 : St 0 h₁ := W.frame _ _ _ hst fun b _ o e => (old b o e).1
  refine ⟨fun Q' hq => W.self 0 _ _ _ hst1 hq, ?_⟩
  have nD := N2 (D, lsto [] 0) (.head _)
  have nI := N2 (I, oI) (.tail _ (.head _))
  refine lcj_loop (s := { s₂ with heap := h₁, toks := tk }) (C := C) (D := D) W Z hkind (hx C) nD.2.1 (fun hm => by obtain ⟨o, e⟩ := hfp _ hm; exact (old _ _ e).2.1 rfl) (fun hm => by obtain ⟨o, e⟩ := hfp _ hm; exact (old _ _ e).2.2 rfl) (hlt _ (.head _)) nI.2.1 old hst1 nD.1 F2.ns ?_
  intro h' tk' m' ys os n' hJ hn hD' hos hk
  have kp : ∀ b o, b ∉ [C, I, D] → h₁.get? b = some o → h'.get? b = some o := fun b o hb e => by
    simp only [List.mem_cons, List.not_mem_nil, or_false, not_or] at hb
    exact hk b o hb.1 hb.2.1 hb.2.2 e
  refine ⟨rfl, m', lsto ys n', os ++ news, ?_, ?_, ?_⟩
  · refine ⟨hn, fun b o e => kp b o (fun q => ?_) (F2.keep b o e), F2.above⟩
    simp only [List.mem_cons, List.not_mem_nil, or_false] at q
    rcases q with rfl | rfl | rfl
    · have z1 := Heap.lt_size e; have z2 := F2.above; exact absurd (Nat.lt_of_lt_of_le z1 z2) (Nat.lt_irrefl _)
    · rw [nI.2.2] at e; cases e
    · rw [nD.2.2] at e; cases e
  · intro q hq
    rcases List.mem_cons.mp hq with rfl | hq
    · exact ⟨hD', nD.2⟩
    · rcases List.mem_append.mp hq with hq | hq
      · have z := hos q hq
        refine ⟨z.1, neN (by omega), Heap.get?_none_of_le (Nat.le_trans F2.above (Nat.le_of_lt z.2.2))⟩
      · have z := N2 q (.tail _ (.tail _ hq))
        refine ⟨kp _ _ (fun qq => ?_) z.1, z.2⟩
        simp only [List.mem_cons, List.not_mem_nil, or_false] at qq
        rcases qq with qq | qq | qq
        · exact z.2.1 qq
        · exact hne q hq qq
        · exact Nat.ne_of_lt (hlt q (.tail _ hq)) qq
  · intro h'' F'' N''
    exact hQ D h'' tk' ys os n' hJ F'' N'' (fun q hq => hlt q (.tail _ hq)) (fun q hq => (hos q hq).2.1)
end
end Mine
end

section
open PySem PySem.W PySem.Spec PySem.Calls PyProof.Rows
set_option maxRecDepth 100000
namespace Mine
section
variable {prog : Program} {w : World} {A : Around} {E : Value → Shared → Prop} {s : Shared} {env : Env} {g : Heap} {L : Addr} {m : Str → Option Value} {news : List (Addr × Obj)}
/-- the turns of a comprehension, the heap at its start kept -/
structure LcT (prog : Program) (w : World) (A : Around) (env : Env) (elt : Expr) (x : Str) (ifs : List Expr) (scope : Scope) (cl : List (Str × Addr)) (P : Nat → Value → Prop) (J : Nat → List Value → List (Addr × Obj) → Nat → Prop) (n : Nat) (s : Shared) : Prop where
  mono : ∀ i ys os t t', J i ys os t → t ≤ t' → J i ys os t'
  start : ∀ t, J 0 [] [] t
  turn : ∀ C i v ys os s₃ m₃, i < n → P i v → J i ys os s₃.toks → s₃.heap.Ns C m₃ → m₃ x = some v → (∀ b o, s.heap.get? b = some o → s₃.heap.get? b = some o) → (∀ p ∈ os, s₃.heap.get? p.1 = some p.2) →
    Tests prog w A env ifs scope cl C (fun ok s₄ => PySem.Keeps s₃ s₄ ∧ (if ok = true then
      wpAny (model prog w) A (eval elt (compEnvC scope cl C env)) (fun y s₅ => PySem.Keeps s₄ s₅ ∧ ys.length < 10000 ∧ ∃ os', J (i + 1) (ys ++ [y]) os' s₅.toks ∧ ∀ p ∈ os', p ∈ os ∨ (s₄.heap.objs.size ≤ p.1 ∧ s₅.heap.get? p.1 = some p.2)) (fun _ _ => False) s₄
      else J (i + 1) ys os s₄.toks)) s₃
theorem srcJ_list {elt : Expr} {x : Str} {ifs : List Expr} {scope : Scope} {cl : List (Str × Addr)} {J : Nat → List Value → List (Addr × Obj) → Nat → Prop} {Q : Value → Shared → Prop} {l : Addr} {cs : List Value}
    (hh : A.handled = none) (F : Fr g L s.heap m) (N : News g L s.heap news) (hl : s.heap.IsList l cs.toArray)
    (Z : LcT prog w A env elt x ifs scope cl (fun i v => cs[i]? = some v) J cs.length s)
    (hQ : ∀ D h' tk ys os n', J cs.length ys os tk → Fr g L h' m → News g L h' ((D, lsto ys n') :: (os ++ news)) → (∀ q ∈ news, @LT.lt Nat _ q.1 D) → (∀ q ∈ os, @LT.lt Nat _ D q.1) → Q (.ref D) { s with heap := h', toks := tk }) :
    wpAny (model prog w) A (pyIter (.ref l)) (LcSrcJ prog w A env g L m elt x ifs scope cl J Q) E s := by
  obtain ⟨ol, hol, _⟩ := id hl
  have hlI : l ≠ s.heap.objs.size := Nat.ne_of_lt (Heap.lt_size hol)
  refine wpAny_pyIter_list hl ?_
  have up : ∀ b o, s.heap.get? b = some o → (s.heap.push { cls := .type "list_iterator", data := .fields #[.ref l, .int 0 0] }).get? b = some o := fun b o e => Heap.get?_push_of_some _ e
  have hlt : ∀ b o, s.heap.get? b = some o → b ≠ s.heap.objs.size := fun b o e => Nat.ne_of_lt (Heap.lt_size e)
  obtain ⟨F2, N2, l2⟩ := led_push F N { cls := .type "list_iterator", data := .fields #[.ref l, .int 0 0] }
  have W := Walks.list (prog := prog) (w := w) (A := A) hh s.heap.objs.size l hlI cs.toArray
  rw [List.size_toArray] at W
  refine ⟨_, _, _, _, _, _, news, rfl, W, ⟨⟨_, Heap.get?_push_size _ rfl, rfl, rfl⟩, hl.at fun o e => up _ _ e⟩, ?_, F2, N2, fun q hq => Nat.ne_of_lt (l2 q hq), ⟨Z.mono, Z.start, ?_⟩, hQ⟩
  · intro b hb
    simp only [List.mem_cons, List.not_mem_nil, or_false] at hb
    rcases hb with rfl | rfl
    · exact ⟨_, Heap.get?_push_size _ rfl⟩
    · exact ⟨_, up _ _ hol⟩
  · intro C i v ys os s₃ m₃ hi hP hJ hn hm hk hos
    exact Z.turn C i v ys os s₃ m₃ hi (by simpa using hP) hJ hn hm (fun b o e => hk b o (hlt b o e) (up _ _ e)) hos
theorem srcJ_range {elt : Expr} {x : Str} {ifs : List Expr} {scope : Scope} {cl : List (Str × Addr)} {J : Nat → List Value → List (Addr × Obj) → Nat → Prop} {Q : Value → Shared → Prop} {r : Addr} {t u v : Tok} {n : Nat}
    (hh : A.handled = none) (F : Fr g L s.heap m) (N : News g L s.heap news) (hr : IsRange s.heap r 0 n 1 t u v) (hsm : Builtin.Range.small 0 n 1 = true)
    (Z : LcT prog w A env elt x ifs scope cl (fun i v => ∃ t, v = .int (i : Nat) t) J n s)
    (hQ : ∀ D h' tk ys os n', J n ys os tk → Fr g L h' m → News g L h' ((D, lsto ys n') :: (os ++ news)) → (∀ q ∈ news, @LT.lt Nat _ q.1 D) → (∀ q ∈ os, @LT.lt Nat _ D q.1) → Q (.ref D) { s with heap := h', toks := tk }) :
    wpAny (model prog w) A (pyIter (.ref r)) (LcSrcJ prog w A env g L m elt x ifs scope cl J Q) E s := by
  have hsz : Builtin.Range.rangeSize 0 n 1 = n := by
    unfold Builtin.Range.rangeSize
    rw [if_pos (by decide)]
    by_cases h0 : (0 : Int) < n
    · rw [if_pos h0]; omega
    · rw [if_neg h0]; omega
  refine wpAny_pyIter_range hr hsm ?_
  have up : ∀ b o, s.heap.get? b = some o → (s.heap.push { cls := .type "range_iterator", data := .fields #[rawInt 0, rawInt (Builtin.Range.rangeSize 0 n 1), rawInt 1] }).get? b = some o := fun b o e => Heap.get?_push_of_some _ e
  have hlt : ∀ b o, s.heap.get? b = some o → b ≠ s.heap.objs.size := fun b o e => Nat.ne_of_lt (Heap.lt_size e)
  obtain ⟨F2, N2, l2⟩ := led_push F N { cls := .type "range_iterator", data := .fields #[rawInt 0, rawInt (Builtin.Range.rangeSize 0 n 1), rawInt 1] }
  refine ⟨_, _, _, _, _, _, news, rfl, Walks.range hh s.heap.objs.size 0 1 n, ?_, ?_, F2, N2, fun q hq => Nat.ne_of_lt (l2 q hq), ⟨Z.mono, Z.start, ?_⟩, hQ⟩
  · show IsRangeIter _ _ _ _ _
    have : (s.heap.push { cls := .type "range_iterator", data := .fields #[rawInt 0, rawInt (Builtin.Range.rangeSize 0 n 1), rawInt 1] }).get? s.heap.objs.size = _ := Heap.get?_push_size _ rfl
    rw [hsz] at this
    simpa [hsz, IsRangeIter] using this
  · intro b hb
    simp only [List.mem_cons, List.not_mem_nil, or_false] at hb
    rcases hb with rfl
    exact ⟨_, Heap.get?_push_size _ rfl⟩
  · intro C i v ys os s₃ m₃ hi hP hJ hn hm hk hos
    obtain ⟨ti, rfl⟩ := hP
    have ei : (0 : Int) + (i : Nat) * 1 = (i : Nat) := by omega
    rw [ei] at hm
    exact Z.turn C i _ ys os s₃ m₃ hi ⟨ti, rfl⟩ hJ hn hm (fun b o e => hk b o (hlt b o e) (up _ _ e)) hos
end
end Mine
end

section
open PySem PySem.W PySem.Spec PySem.Calls PyProof.Rows
set_option maxRecDepth 100000
namespace Mine
section
variable {prog : Program} {w : World} {A : Around} {E : Value → Shared → Prop} {s : Shared} {env : Env}
/-- a built-in's name, from any frame -/
theorem name_bi {K : Frag} {h₀ : Heap} {p : Program} {loose : List Str} {mean : ExcName → Option Value} {mg mb : Str → Option Value} {x : Str} {pos : Pos} {v : Value} {Q : Value → Shared → Prop}
    (X : K.In h₀) (T : Top p loose mean mg mb h₀) (kp : Keeps h₀ s.heap) (e : nsIn K mainGlobals x = some none) (hv : bootBuiltins x = some v) (hn : x ≠ "__name__") (h : Q v s)
    (hg : env.globals = mainGlobals) (hb : env.builtins = builtinsNs) (hk : env.scope.kind = .function) (hx : env.kindOf x = some .globalImplicit) (hd : (x == Str.ofString "__debug__") = false) :
    wpAny (model prog w) A (eval (.Name x pos) env) Q E s :=
  Name_function_global hk hx (loadGlobal_builtin (env := env) (by rw [hg]; exact T.g.keeps kp) (mg_none_of X T.g e) (by rw [hb]; exact T.b.keeps kp) ((T.builtins x hn).trans hv) h) hd
theorem concat_at {l b : Addr} {vs us : List Value} {Q : Value → Shared → Prop} (hl : s.heap.IsList l vs.toArray) (hb : s.heap.IsList b us.toArray)
    (hsz : vs.length + us.length ≤ sizeLine) (h : Q (.ref s.heap.objs.size) { s with heap := s.heap.push (lsto (vs ++ us) 0) }) : wpAny (model prog w) A (binaryOp .Add (.ref l) (.ref b)) Q E s := by
  obtain ⟨⟨c1, d1, a1, s1⟩, e1, rfl, n1, rfl⟩ := hl
  obtain ⟨⟨c2, d2, a2, s2⟩, e2, rfl, n2, rfl⟩ := hb
  refine concat_meets ⟨_, e1, rfl⟩ ⟨_, e2, rfl⟩ noFill_list_add seq_list_add PySem.F.slot_list_add PySem.F.entry_list_add (PySem.F.args_list_add_2 _ _) (list_addW l b vs.toArray us.toArray n1 n2 d1 d2 s1 s2 (by simpa using hsz)) ⟨e1, e2, ?_⟩
  have ha : vs.toArray ++ us.toArray = (vs ++ us).toArray := by simp
  rw [ha]
  exact h
end
/-- a list of ints among the choices -/
structure Sub where
  a : Addr
  cs : List Value
  n : Nat
  es : List Int
  ok : IntsAre cs es
abbrev Sub.c (s : Sub) : Addr × Obj := (s.a, lsto s.cs s.n)
abbrev Sub.v (s : Sub) : Value := .ref s.a
section
variable {w : World} {A : Around} {E : Value → Shared → Prop} {s : Shared} {env : Env} {g : Heap} {L : Addr} {m : Str → Option Value} {news : List (Addr × Obj)} {p : Program} {loose : List Str} {mean : ExcName → Option Value} {mg mb : Str → Option Value}
theorem len_name {pl pn pc : Pos} {y : Str} {l : Addr} {cs : List Value} {Q : Value → Shared → Prop} (X : (Mine.hd.heap_39 w.params).In g) (T : Top p loose mean mg mb g) (kp : Keeps g s.heap)
    (hg : env.globals = mainGlobals) (hb : env.builtins = builtinsNs) (hk : env.scope.kind = .function) (hx : env.kindOf (Str.ofString "len") = some .globalImplicit)
    (hn : ∀ Q' : Value → Shared → Prop, Q' (.ref l) s → wpAny (model PySem.Challenge.rw_op0141_01.row.prog w) A (eval (.Name y pn) env) Q' E s) (hl : s.heap.IsList l cs.toArray) (hc : cs.length < 1000)
    (h : ∀ t tk, Q (.int cs.length t) { s with toks := tk }) :
    wpAny (model PySem.Challenge.rw_op0141_01.row.prog w) A (eval (.Call (.Name (Str.ofString "len") pl) [.Name y pn] [] pc) env) Q E s := by
  refine Call_Name1 ?_
  revert X; k_fill; intro X
  refine name_bi X T kp (by k_is) PySem.boot_len (by decide) ?_ hg hb hk hx (by decide)
  refine Calls.callWith_builtin rfl (Calls.evalArgs_plain (Calls.spliced_cons (hn _ (Calls.spliced_nil ?_))))
  show wpAny _ A (call (.builtin "len") [.ref l]) Q E s
  refine call_len_list hl (by rw [List.size_toArray]; omega) ?_
  rw [List.size_toArray]
  exact h _ _
theorem keeps_refl (s : Shared) : PySem.Keeps s s := ⟨s.heap, s.toks, rfl, fun _ _ e => e⟩
theorem keeps_toks (s : Shared) (tk : Nat) : PySem.Keeps s { s with toks := tk } := ⟨s.heap, tk, rfl, fun _ _ e => e⟩
/-- one more thing on each choice that has room -/
def grow (k : Int) (i : Int) (LL : List (List Int)) : List (List Int) := (LL.filter fun es => decide ((es.length : Int) < k)).map (· ++ [i])
theorem ch_grow {one iN kN : Str} {p1 p2 p3 p4 p5 p6 p7 p8 p9 px pos : Pos} {iter : Expr} {scope : Scope} {cl : List (Str × Addr)} {Q : Value → Shared → Prop} {D : Addr} {k i : Int} {tk ti : Tok} {subs : List Sub}
    (X : (Mine.hd.heap_39 w.params).In g) (T : Top p loose mean mg mb g) (hh : A.handled = none) (F : Fr g L s.heap m) (N : News g L s.heap news)
    (hclos : closureFor scope env = pure cl) (hcell : ∀ y ∈ scope.names, y.2 ≠ .cell) (hkind : scope.kind = .function)
    (hnames : ∀ y ∈ scope.names, y.2 = .local → scope.names.lookup y.1 = some .local) (hs : ∀ x, foldedSetIterable iter env x = pure x)
    (hx : ∀ C, (compEnvC scope cl C env).kindOf one = some .local) (hb : (one == Str.ofString "__debug__") = false) (hglob : env.globals = mainGlobals) (hbu : env.builtins = builtinsNs)
    (hlen : ∀ C, (compEnvC scope cl C env).kindOf (Str.ofString "len") = some .globalImplicit)
    (hi : ∀ C (s₃ : Shared) (Q' : Value → Shared → Prop), (∀ b o, s.heap.get? b = some o → s₃.heap.get? b = some o) → Q' (.int i ti) s₃ → wpAny (model PySem.Challenge.rw_op0141_01.row.prog w) A (eval (.Name iN p3) (compEnvC scope cl C env)) Q' (fun _ _ => False) s₃)
    (hk : ∀ C (s₃ : Shared) (Q' : Value → Shared → Prop), (∀ b o, s.heap.get? b = some o → s₃.heap.get? b = some o) → Q' (.int k tk) s₃ → wpAny (model PySem.Challenge.rw_op0141_01.row.prog w) A (eval (.Name kN p8) (compEnvC scope cl C env)) Q' (fun _ _ => False) s₃)
    (hD : s.heap.IsList D (subs.map Sub.v).toArray) (hsub : ∀ c ∈ subs, s.heap.get? c.a = some (lsto c.cs c.n) ∧ c.cs.length < 100) (hsl : subs.length < 1000)
    (hiter : ∀ Q' : Value → Shared → Prop, Q' (.ref D) s → wpAny (model PySem.Challenge.rw_op0141_01.row.prog w) A (eval iter env) Q' E s)
    (h : ∀ D' h' tk' n' (ns : List Sub), ns.map Sub.es = grow k i (subs.map Sub.es) → Fr g L h' m → News g L h' ((D', lsto (ns.map Sub.v) n') :: (ns.map Sub.c ++ news)) → (∀ q ∈ news, @LT.lt Nat _ q.1 D') → (∀ c ∈ ns, @LT.lt Nat _ D' c.a) → Q (.ref D') { s with heap := h', toks := tk' }) :
    wpAny (model PySem.Challenge.rw_op0141_01.row.prog w) A (eval (.ListComp (.BinOp (.Name one p1) .Add (.List [.Name iN p3] p2) p4) [⟨.Name one px, iter, [.Compare (.Call (.Name (Str.ofString "len") p5) [.Name one p6] [] p7) [.Lt] [.Name kN p8] p9], 0⟩] scope pos) env) Q E s := by
  refine lcj (fun j ys os t => ∃ ns : List Sub, os = ns.map Sub.c ∧ ys = ns.map Sub.v ∧ ns.map Sub.es = grow k i ((subs.take j).map Sub.es)) F hclos hcell hkind hnames hs hx (hiter _ (srcJ_list hh F N hD ⟨fun _ _ _ _ _ h _ => h, fun t => ⟨[], rfl, rfl, rfl⟩, ?_⟩ ?_))
  · intro C j v ys os s₃ m₃ hj hP hJ hn hm hkp hos
    have hj' : j < subs.length := by simpa using hj
    obtain ⟨ns, rfl, rfl, hes⟩ := hJ
    have hv : v = (subs[j]).v := by
      have : (subs.map Sub.v)[j]? = some (subs[j]).v := by simp [hj']
      rw [this] at hP; exact (Option.some.inj hP).symm
    subst hv
    have hc := hsub subs[j] (List.getElem_mem hj')
    have hl3 : s₃.heap.IsList subs[j].a subs[j].cs.toArray := ⟨_, hkp _ _ hc.1, rfl, _, rfl⟩
    have hname : ∀ (s₄ : Shared) (pn : Pos) (Q' : Value → Shared → Prop), s₄.heap.Ns C m₃ → Q' (.ref subs[j].a) s₄ → wpAny (model PySem.Challenge.rw_op0141_01.row.prog w) A (eval (.Name one pn) (compEnvC scope cl C env)) Q' (fun _ _ => False) s₄ := fun s₄ pn Q' h4 hq =>
      wpAny_Name (wpAny_loadName_local hkind (hx C) h4 hm hq) hb
    have elen : subs[j].cs.length = subs[j].es.length := (subs[j].ok.length).symm ▸ rfl
    have htake : subs.take (j + 1) = subs.take j ++ [subs[j]] := by rw [List.take_succ_eq_append_getElem hj']
    refine tests_one (wpAny_isTrue_Compare1 ?_)
    refine len_name X T (fun b o e => hkp _ _ (F.keep b o e)) hglob hbu hkind (hlen C) (fun Q' hq => hname _ _ Q' hn hq) hl3 (by have := hc.2; omega) fun t4 tk4 => ?_
    refine hk C _ _ (fun b o e => hkp b o e) ?_
    refine lt_int (wpAny_truthy_bool ?_)
    refine ⟨keeps_toks _ _, ?_⟩
    by_cases hb' : ((subs[j].cs.length : Nat) : Int) < k
    · simp only [hb', decide_true, if_true]
      refine wpAny_BinOp (hname _ _ _ hn ?_)
      refine List_ (spliced_more (hi C _ _ (fun b o e => hkp b o e) (spliced_none ?_)))
      refine wpAny_newList ?_ (by rw [sizeLine_eq]; simp)
      have g1 : (s₃.heap.push { cls := .type "list", data := .seq [Value.int i ti].toArray }).get? s₃.heap.objs.size = some { cls := .type "list", data := .seq [Value.int i ti].toArray } := Heap.get?_push_size _ rfl
      have up1 : ∀ b o, s₃.heap.get? b = some o → (s₃.heap.push { cls := .type "list", data := .seq [Value.int i ti].toArray }).get? b = some o := fun b o e => Heap.get?_push_of_some _ e
      have sz1 : (s₃.heap.push { cls := .type "list", data := .seq [Value.int i ti].toArray }).objs.size = s₃.heap.objs.size + 1 := Heap.size_push ..
      refine concat_at (vs := subs[j].cs) (us := [Value.int i ti]) (hl3.at fun o e => up1 _ _ e) ⟨_, g1, rfl, _, rfl⟩ (by have := hc.2; rw [sizeLine_eq]; simp; omega) ?_
      dsimp only
      generalize hH : s₃.heap.push { cls := .type "list", data := .seq [Value.int i ti].toArray } = H at *
      refine ⟨⟨_, _, rfl, fun b o e => Heap.get?_push_of_some _ (up1 _ _ e)⟩, ?_, ?_⟩
      · have h1 := congrArg List.length hes
        unfold grow at h1
        rw [List.length_map, List.length_map] at h1
        have h2 := List.length_filter_le (fun es : List Int => decide ((es.length : Int) < k)) ((subs.take j).map Sub.es)
        rw [List.length_map, List.length_take] at h2
        rw [List.length_map]
        omega
      · refine ⟨ns.map Sub.c ++ [(H.objs.size, lsto (subs[j].cs ++ [Value.int i ti]) 0)], ⟨ns ++ [⟨H.objs.size, subs[j].cs ++ [Value.int i ti], 0, subs[j].es ++ [i], IntsAre.append subs[j].ok (.cons i ti .nil)⟩], by simp, by simp, ?_⟩, ?_⟩
        · rw [htake]
          simp only [List.map_append, List.map_cons, List.map_nil, hes]
          unfold grow
          rw [List.filter_append, List.map_append]
          congr 1
          have : decide ((subs[j].es.length : Int) < k) = true := by rw [← elen]; simpa using hb'
          simp [this]
        · intro q hq
          rcases List.mem_append.mp hq with hq | hq
          · exact .inl hq
          · simp only [List.mem_singleton] at hq
            subst hq
            exact .inr ⟨by dsimp only; rw [sz1]; exact Nat.le_succ _, Heap.get?_push_size _ rfl⟩
    · simp only [hb', decide_false, Bool.false_eq_true, if_false]
      refine ⟨ns, rfl, rfl, ?_⟩
      rw [htake]
      simp only [List.map_append, List.map_cons, List.map_nil, hes]
      unfold grow
      rw [List.filter_append, List.map_append]
      have : decide ((subs[j].es.length : Int) < k) = false := by rw [← elen]; simpa using hb'
      simp [this]
  · intro D' h' tk' ys os n' hJ F' N' h1 h2
    obtain ⟨ns, rfl, rfl, hes⟩ := hJ
    have hl : (subs.map Sub.v).length = subs.length := by simp
    rw [hl, List.take_length] at hes
    exact h D' h' tk' n' ns hes F' N' h1 (fun c hc => h2 c.c (List.mem_map_of_mem hc))
/-- the choices that are full -/
def full (k : Int) (LL : List (List Int)) : List (List Int) := LL.filter fun es => decide ((es.length : Int) = k)
theorem ch_full {one kN : Str} {p1 p5 p6 p7 p8 p9 px pos : Pos} {iter : Expr} {scope : Scope} {cl : List (Str × Addr)} {Q : Value → Shared → Prop} {D : Addr} {k : Int} {tk : Tok} {subs : List Sub}
    (X : (Mine.hd.heap_39 w.params).In g) (T : Top p loose mean mg mb g) (hh : A.handled = none) (F : Fr g L s.heap m) (N : News g L s.heap news)
    (hclos : closureFor scope env = pure cl) (hcell : ∀ y ∈ scope.names, y.2 ≠ .cell) (hkind : scope.kind = .function)
    (hnames : ∀ y ∈ scope.names, y.2 = .local → scope.names.lookup y.1 = some .local) (hs : ∀ x, foldedSetIterable iter env x = pure x)
    (hx : ∀ C, (compEnvC scope cl C env).kindOf one = some .local) (hb : (one == Str.ofString "__debug__") = false) (hglob : env.globals = mainGlobals) (hbu : env.builtins = builtinsNs)
    (hlen : ∀ C, (compEnvC scope cl C env).kindOf (Str.ofString "len") = some .globalImplicit)
    (hk : ∀ C (s₃ : Shared) (Q' : Value → Shared → Prop), (∀ b o, s.heap.get? b = some o → s₃.heap.get? b = some o) → Q' (.int k tk) s₃ → wpAny (model PySem.Challenge.rw_op0141_01.row.prog w) A (eval (.Name kN p8) (compEnvC scope cl C env)) Q' (fun _ _ => False) s₃)
    (hD : s.heap.IsList D (subs.map Sub.v).toArray) (hsub : ∀ c ∈ subs, s.heap.get? c.a = some (lsto c.cs c.n) ∧ c.cs.length < 100) (hsl : subs.length < 1000)
    (hiter : ∀ Q' : Value → Shared → Prop, Q' (.ref D) s → wpAny (model PySem.Challenge.rw_op0141_01.row.prog w) A (eval iter env) Q' E s)
    (h : ∀ D' h' tk' n' (ns : List Sub), ns.Sublist subs → ns.map Sub.es = full k (subs.map Sub.es) → Fr g L h' m → News g L h' ((D', lsto (ns.map Sub.v) n') :: news) → (∀ q ∈ news, @LT.lt Nat _ q.1 D') → Q (.ref D') { s with heap := h', toks := tk' }) :
    wpAny (model PySem.Challenge.rw_op0141_01.row.prog w) A (eval (.ListComp (.Name one p1) [⟨.Name one px, iter, [.Compare (.Call (.Name (Str.ofString "len") p5) [.Name one p6] [] p7) [.Eq] [.Name kN p8] p9], 0⟩] scope pos) env) Q E s := by
  refine lcj (fun j ys os t => ∃ ns : List Sub, os = [] ∧ ys = ns.map Sub.v ∧ ns.Sublist (subs.take j) ∧ ns.map Sub.es = full k ((subs.take j).map Sub.es)) F hclos hcell hkind hnames hs hx (hiter _ (srcJ_list hh F N hD ⟨fun _ _ _ _ _ h _ => h, fun t => ⟨[], rfl, rfl, List.Sublist.refl _, rfl⟩, ?_⟩ ?_))
  · intro C j v ys os s₃ m₃ hj hP hJ hn hm hkp hos
    have hj' : j < subs.length := by simpa using hj
    obtain ⟨ns, rfl, rfl, hsl2, hes⟩ := hJ
    have hv : v = (subs[j]).v := by
      have : (subs.map Sub.v)[j]? = some (subs[j]).v := by simp [hj']
      rw [this] at hP; exact (Option.some.inj hP).symm
    subst hv
    have hc := hsub subs[j] (List.getElem_mem hj')
    have hl3 : s₃.heap.IsList subs[j].a subs[j].cs.toArray := ⟨_, hkp _ _ hc.1, rfl, _, rfl⟩
    have hname : ∀ (s₄ : Shared) (pn : Pos) (Q' : Value → Shared → Prop), s₄.heap.Ns C m₃ → Q' (.ref subs[j].a) s₄ → wpAny (model PySem.Challenge.rw_op0141_01.row.prog w) A (eval (.Name one pn) (compEnvC scope cl C env)) Q' (fun _ _ => False) s₄ := fun s₄ pn Q' h4 hq =>
      wpAny_Name (wpAny_loadName_local hkind (hx C) h4 hm hq) hb
    have elen : subs[j].cs.length = subs[j].es.length := (subs[j].ok.length).symm ▸ rfl
    have htake : subs.take (j + 1) = subs.take j ++ [subs[j]] := by rw [List.take_succ_eq_append_getElem hj']
    refine tests_one (wpAny_isTrue_Compare1 ?_)
    refine len_name X T (fun b o e => hkp _ _ (F.keep b o e)) hglob hbu hkind (hlen C) (fun Q' hq => hname _ _ Q' hn hq) hl3 (by have := hc.2; omega) fun t4 tk4 => ?_
    refine hk C _ _ (fun b o e => hkp b o e) ?_
    refine eq_int (wpAny_truthy_bool ?_)
    refine ⟨keeps_toks _ _, ?_⟩
    by_cases hb' : ((subs[j].cs.length : Nat) : Int) = k
    · have hbb : ((((subs[j].cs.length : Nat) : Int)) == k) = true := by simpa using hb'
      simp only [hbb, if_true]
      refine hname _ _ _ hn ⟨keeps_refl _, ?_, [], ⟨ns ++ [subs[j]], rfl, by simp, ?_, ?_⟩, fun q hq => by cases hq⟩
      · have := hsl2.length_le
        rw [List.length_take] at this
        rw [List.length_map]; omega
      · rw [htake]; exact hsl2.append (List.Sublist.refl _)
      · rw [htake]
        simp only [List.map_append, List.map_cons, List.map_nil, hes]
        unfold full
        rw [List.filter_append]
        congr 1
        have : decide ((subs[j].es.length : Int) = k) = true := by rw [← elen]; simpa using hb'
        simp [this]
    · have hbb : ((((subs[j].cs.length : Nat) : Int)) == k) = false := by simpa using hb'
      simp only [hbb, Bool.false_eq_true, if_false]
      refine ⟨ns, by first | trivial | rfl, by first | trivial | rfl, ?_, ?_⟩
      · rw [htake]; exact hsl2.trans (List.sublist_append_left _ _)
      rw [htake]
      simp only [List.map_append, List.map_cons, List.map_nil, hes]
      unfold full
      rw [List.filter_append]
      have : decide ((subs[j].es.length : Int) = k) = false := by rw [← elen]; simpa using hb'
      simp [this]
  · intro D' h' tk' ys os n' hJ F' N' h1 h2
    obtain ⟨ns, rfl, rfl, hsl2, hes⟩ := hJ
    have hl : (subs.map Sub.v).length = subs.length := by simp
    rw [hl, List.take_length] at hes hsl2
    exact h D' h' tk' n' ns hsl2 hes F' N' h1
end
end Mine
end

section
open PySem PySem.W PySem.Spec PySem.Calls PyProof.Rows
set_option maxRecDepth 100000
namespace Mine
def grown (k : Int) : Nat → List (List Int)
  | 0 => [[]]
  | i + 1 => grown k i ++ grow k i (grown k i)
inductive ChI (g : Heap) (L it ci ck : Addr) (oK : Obj) (k : Int) (s : Shared) (n : Nat) (s' : Shared) : Prop
  | mk (h : Heap) (tk : Nat) (i : Nat) (D : Addr) (subs : List Sub) (nn : Nat) (oi : Obj) (v₀ : Option Value) (mm : Str → Option Value)
    (q0 : s' = { s with heap := h, toks := tk }) (q1 : n = 7 - i) (q2 : i ≤ 6) (q3 : Fr g L h mm) (q4 : mm (Str.ofString "choices") = some (.ref D)) (q5 : News g L h ((D, lsto (subs.map Sub.v) nn) :: (subs.map Sub.c ++ [(it, rit (i : Nat) (6 - (i : Nat)) 1), (ci, oi), (ck, oK)]))) (q6 : oi.data = .cell v₀) (q7 : subs.map Sub.es = grown k i) (q8 : (∀ c ∈ subs, c.es.length ≤ i)) (q9 : subs.length ≤ 2 ^ i) (q10 : (∀ c ∈ subs, @Ne Nat c.a it ∧ @Ne Nat c.a ci)) (q11 : @Ne Nat D it) (q12 : @Ne Nat D ci) : ChI g L it ci ck oK k s n s'
theorem for_ChI {prog : Program} {w : World} {A : Around} {s₁ : Shared} {R : Result → Shared → Prop} {target : Expr} {itv : Value} {body orelse : List Stmt} {env : Env} {g : Heap} {L it ci ck : Addr} {oK : Obj} {k : Int} {s : Shared} {n : Nat} (init : ChI g L it ci ck oK k s n s₁)
    (turn : ∀ n s₂, ChI g L it ci ck oK k s n s₂ → wpAny (model prog w) A (pyNext itv) (fun r s₁ => match r with
      | none => wpAny (model prog w) A (execs orelse env) (fun f s₃ => R (.ok f) s₃) (fun _ _ => False) s₁
      | some v' => wpAny (model prog w) A (assign target env v') (fun _ s₂ => wpAny (model prog w) A (execs body env) (fun f s₃ => match f with
          | .next | .cont => ∃ m, m < n ∧ ChI g L it ci ck oK k s m s₃
          | .brk => R (.ok .next) s₃
          | .ret v => R (.ok (.ret v)) s₃) (fun _ _ => False) s₂) (fun _ _ => False) s₁) (fun _ _ => False) s₂)
    (ht : ∀ v, letOwnedTupleGo target itv v = pure () := by intro _; rfl) : codeAny (model prog w) A (.forLoop target itv body orelse env) R s₁ :=
  for_inv (ChI g L it ci ck oK k s) turn n init ht
theorem pyiter_range_K {prog : Program} {w : World} {A : Around} {E : Value → Shared → Prop} {s : Shared} {g : Heap} {L r : Addr} {m : Str → Option Value} {news : List (Addr × Obj)} {n : Int} {t u v : Tok} {Q : Value → Shared → Prop} (F : Fr g L s.heap m) (N : News g L s.heap news) (hr : IsRange s.heap r 0 n 1 t u v)
    (hsm : Builtin.Range.small 0 n 1 = true) (hn : Builtin.Range.rangeSize 0 n 1 = n)
    (h : ∀ it h', Fr g L h' m → News g L h' ((it, rit 0 n 1) :: news) → (∀ q ∈ news, q.1 < it) → Q (.ref it) { s with heap := h' }) : wpAny (model prog w) A (pyIter (.ref r)) Q E s := by
  obtain ⟨F2, N2, l2⟩ := led_push F N (rit 0 n 1)
  refine wpAny_pyIter_range hr hsm ?_
  rw [hn]
  exact h _ _ F2 N2 l2
theorem choices_c {w : World} {A : Around} {s : Shared} {R : Result → Shared → Prop} {h₀ : Heap} {p : Program} {loose : List Str} {mean : ExcName → Option Value} {mg mb : Str → Option Value}
   {k : Int} {t1 t2 : Tok}
   (X : (Mine.hd.heap_39 w.params).In h₀) (T : Top p loose mean mg mb h₀) (hk : Keeps h₀ s.heap) (hroom : A.depth + 12 < recursionLimit) (hun : A.units + 70 < cLine) (hh : A.handled = none)
   (hR : ∀ h' tk' D n' (ns : List Sub), ns.map Sub.es = full k (grown k 6) → Keeps s.heap h' → h'.get? D = some (lsto (ns.map Sub.v) n') → (∀ c ∈ ns, h'.get? c.a = some c.c.2) → (s.heap.get? D = none ∧ ∀ c ∈ ns, s.heap.get? c.a = none) → R (.ok (.ret (.ref D))) { s with heap := h', toks := tk' }) :
   codeAny (model PySem.Challenge.rw_op0141_01.row.prog w) A (.call (.ref 143) ⟨[.int 6 t1, .int k t2], []⟩) R s := by
  k_with_none
  w_top off
  k_with "exec For Name Call cons nil" => (k_here; (with_reducible show wpAny _ _ (exec (Stmt.For _ _ _ _ _) _) _ _ _); (k_dflt (refine wpAny_For ?_)); walk_say "MINE for")
  k_with "pyIter ref" => (k_here; (with_reducible show wpAny _ _ (pyIter (Value.ref _)) (fun it s₂ => codeAny _ _ _ _ _) _ _); refine Hold.out ?_; walk_say "MINE hold for")
  k_with "eval ListComp" => (k_here; (with_reducible show wpAny _ _ (eval (Expr.ListComp _ _ _ _) _) _ _ _); refine Hold.out ?_; walk_say "MINE hold lc")
  revert X; k_fill; intro X
  refine' enterC X T hk [] ?hh ?k6 ?k7 ?k8 ?k9 ?kB ?kD ?_ ?c2 ?c3 ?c4
  case hh => intro q hq; cases hq
  case k6 => k_is
  case k7 => k_is
  case k8 => omega
  case k9 => exact BindsTo.of_eq rfl
  case kB => exact rfl
  case kD => decide +kernel
  case c2 => rfl
  case c3 => rfl
  case c4 => rfl
  intro g L' h₁ tk₁ cells hg hkg X' T' F' N' Y' hL
  k_cells Y'
  (try simp only [List.cons_append, List.nil_append] at N')
  have hg' : Keeps s.heap g := fun b o e => hg b o e (by intro q hq; cases hq)
  clear hg hL hk hkg
  (try dsimp only)
  k_steps
  refine Hold.intro ?_
  rename_i o1 o2 d1 d2 l1 hx1 lt1 l2 hx2 lt2 hx3 F1 N1 hx4 tk2 q1 q2 q3 hr a2 a1 a0
  have c2 : o2.data = .cell (some (.int k t2)) := d2
  have c1 : o1.data = .cell none := d1
  clear F1 N1 a0
  refine pyiter_range_K a2 a1 hr (by decide +kernel) (by decide +kernel) fun it h5 F5 N5 l5 => ?_
  have e1 := l5 _ (.head _)
  have e2 := l5 _ (.tail _ (.head _))
  have e3 := l5 _ (.tail _ (.tail _ (.head _)))
  dsimp only at e1 e2 e3 lt1 lt2
  dsimp only
  refine for_ChI (g := g) (L := L') (it := it) (ci := L' + 1 + 1) (ck := L' + 1) (oK := o2) (k := k) (s := s) (n := 7) ⟨h5, _, 0, l2, [⟨l1, [], 0, [], .nil⟩], 0, o1, none, _, rfl, rfl, by decide, F5, by with_unfolding_all rfl, ?_, c1, rfl, ?_, by simp, ?_, ?_, ?_⟩ ?_
  · intro q hq
    simp only [List.map_cons, List.map_nil, List.mem_cons, List.mem_append, List.not_mem_nil, or_false, false_or] at hq
    refine N5 q ?_
    rcases hq with rfl | rfl | rfl | rfl | rfl
    · exact .tail _ (.head _)
    · exact .tail _ (.tail _ (.head _))
    · exact .head _
    · exact .tail _ (.tail _ (.tail _ (.head _)))
    · exact .tail _ (.tail _ (.tail _ (.tail _ (.head _))))
  · simp
  · simp only [List.mem_cons, List.not_mem_nil, or_false, forall_eq]
    have e1' : @LT.lt Nat _ l1 it := e2
    have e2' : @LT.lt Nat _ (L' + 1 + 1) l1 := lt1.1
    exact ⟨by omega, by omega⟩
  · have e1' : @LT.lt Nat _ l2 it := e1
    omega
  · have e2' : @LT.lt Nat _ (L' + 1 + 1) l1 := lt1.1
    have e3' : @LT.lt Nat _ l1 l2 := lt2.1
    omega
  have hitl : @LT.lt Nat _ (L' + 1 + 1) it := e3
  clear F5 N5 e1 e2 e3 lt1 lt2
  rintro n s' ⟨h, tk', i, D, subs, nn, oi, v₀, mm, rfl, rfl, hi, F, hmm, N, hoi, hes, hle, hpow, hne, hDi, hDc⟩
  have hle64 : subs.length ≤ 64 := Nat.le_trans hpow (Nat.le_trans (Nat.pow_le_pow_right (by decide) hi) (by decide))
  by_cases hi6 : i < 6
  · refine next_rit_K (pre := (D, _) :: subs.map Sub.c) (post := [(L' + 1 + 1, oi), (L' + 1, o2)]) F N ?h1 ?h2 (by omega) ?_
    case h1 =>
      intro q hq
      rcases List.mem_cons.mp hq with rfl | hq
      · exact hDi
      · obtain ⟨c, hc, rfl⟩ := List.mem_map.mp hq
        exact (hne c hc).1
    case h2 => (intro q hq; simp only [List.mem_cons, List.not_mem_nil, or_false] at hq; rcases hq with rfl | rfl <;> exact neN (by dsimp only; omega))
    intro h6 F6 N6
    have hci : ∀ c ∈ subs, @Ne Nat c.a (L' + 1 + 1) := fun c hc => (hne c hc).2
    dsimp only
    refine wpAny_assign_Name (wpAny_storeName_cell rfl rfl rfl ⟨oi, N6.get (by first | k_mem | simp), hoi⟩ fun h7 hc7 s7 => ?_)
    obtain ⟨o7, e7, d7⟩ := hc7
    have hp1 : ∀ q ∈ ((D, lsto (subs.map Sub.v) nn) :: subs.map Sub.c) ++ [(it, rit ((i : Nat) + 1) (6 - (i : Nat) - 1) 1)], q.1 ≠ L' + 1 + 1 := by
      intro q hq
      simp only [List.mem_append, List.mem_cons, List.mem_map, List.not_mem_nil, or_false] at hq
      rcases hq with (rfl | ⟨c, hc, rfl⟩) | rfl
      · exact hDc
      · exact hci c hc
      · exact neN (by dsimp only; omega)
    have hp2 : ∀ q ∈ [(L' + 1, o2)], q.1 ≠ L' + 1 + 1 := by
      intro q hq
      simp only [List.mem_cons, List.not_mem_nil, or_false] at hq
      rcases hq with rfl
      exact neN (by dsimp only; omega)
    obtain ⟨F7, N7⟩ := led_set (pre := ((D, lsto (subs.map Sub.v) nn) :: subs.map Sub.c) ++ [(it, rit ((i : Nat) + 1) (6 - (i : Nat) - 1) 1)]) (o := oi) (post := [(L' + 1, o2)]) F6 (fun q hq => N6 q (by simpa using hq)) (fun b x e ne => s7.extBut _ _ ne e) e7 hp1 hp2
    clear F6 N6
    have ND : h7.get? D = some (lsto (subs.map Sub.v) nn) := N7.get (by first | k_mem | simp)
    refine wpAny_execs_cons (wpAny_Assign_Name (wpAny_BinOp (wpAny_Name (wpAny_loadName_local rfl rfl F7.ns hmm ?_))))
    refine ch_grow (cl := [(Str.ofString "k", L' + 1), (Str.ofString "i", L' + 1 + 1)]) (subs := subs) (k := k) (tk := t2) (i := (i : Nat)) (ti := tk') X' T' hh F7 N7 ?a1 ?a2 ?a3 ?a4 ?a5 (fun C => ?a6) ?a7 ?a8 ?a9 (fun C => ?b1) ?b2 ?b3 ⟨_, ND, rfl, _, rfl⟩ ?b4 (by omega) ?b5 ?_
    case a1 => rfl
    case a2 => decide
    case a3 => rfl
    case a4 => decide
    case a5 => (intro _; rfl)
    case a6 => rfl
    case a7 => decide
    case a8 => rfl
    case a9 => rfl
    case b1 => rfl
    case b2 => exact fun C s₃ Q' hk hq => wpAny_Name (wpAny_loadName_cell rfl rfl rfl ⟨o7, hk _ _ e7, d7⟩ hq)
    case b3 => exact fun C s₃ Q' hk hq => wpAny_Name (wpAny_loadName_cell rfl rfl rfl ⟨o2, hk _ _ (N7.get (by first | k_mem | simp)), c2⟩ hq)
    case b4 => exact fun c hc => ⟨N7.get (by simp only [List.mem_append, List.mem_cons, List.mem_map]; exact .inl (.inl (.inr ⟨c, hc, rfl⟩))), by have := hle c hc; have := c.ok.length; omega⟩
    case b5 => exact fun Q' hq => wpAny_Name (wpAny_loadName_local rfl rfl F7.ns hmm hq)
    intro D2 h8 tk8 n8 ns hes2 F8 N8 hD2 hns2
    clear F7 N7
    have ND8 : h8.get? D = some (lsto (subs.map Sub.v) nn) := N8.get (by first | k_mem | simp)
    have ND2 : h8.get? D2 = some (lsto (ns.map Sub.v) n8) := N8.get (.head _)
    have hlen2 : ns.length ≤ subs.length := by
      have h1 := congrArg List.length hes2
      unfold grow at h1
      rw [List.length_map, List.length_map] at h1
      have h2 := List.length_filter_le (fun es : List Int => decide ((es.length : Int) < k)) (subs.map Sub.es)
      rw [List.length_map] at h2
      omega
    refine concat_at (vs := subs.map Sub.v) (us := ns.map Sub.v) ⟨_, ND8, rfl, _, rfl⟩ ⟨_, ND2, rfl, _, rfl⟩ (by rw [sizeLine_eq, List.length_map, List.length_map]; omega) ?_
    obtain ⟨F9, N9, l9⟩ := led_push F8 N8 (lsto (subs.map Sub.v ++ ns.map Sub.v) 0)
    refine wpAny_storeName_local rfl F9.ns fun h10 hn10 s10 => ?_
    have F10 := F9.set hn10 s10
    have N10 := N9.set s10
    clear F8 N8 F9 N9
    refine wpAny_execs_nil ?_
    dsimp only
    have hD2it : @LT.lt Nat _ it D2 := hD2 (it, rit ((i : Nat) + 1) (6 - (i : Nat) - 1) 1) (by first | k_mem | simp)
    have hD2c : @LT.lt Nat _ (L' + 1 + 1) D2 := hD2 (L' + 1 + 1, o7) (by first | k_mem | simp)
    have hsz : @LT.lt Nat _ D2 h8.objs.size := Heap.lt_size ND2
    refine ⟨7 - (i + 1), by omega, h10, _, i + 1, h8.objs.size, subs ++ ns, 0, o7, _, _, rfl, rfl, hi6, F10, if_pos rfl, ?_, d7, ?_, ?_, ?_, ?_, ?_, ?_⟩
    · intro q hq
      refine N10 q ?_
      have e6 : (6 : Int) - ((i : Nat) + 1) = 6 - (i : Nat) - 1 := by omega
      have e7 : ((i + 1 : Nat) : Int) = (i : Nat) + 1 := by omega
      simp only [List.map_append, List.mem_cons, List.mem_append, List.not_mem_nil, or_false, e6, e7] at hq ⊢
      rcases hq with rfl | (hq | hq) | rfl | rfl | rfl
      · exact .inl rfl
      · exact .inr (.inr (.inr (.inl (.inl (.inr hq)))))
      · exact .inr (.inr (.inl hq))
      · exact .inr (.inr (.inr (.inl (.inr rfl))))
      · exact .inr (.inr (.inr (.inr (.inl rfl))))
      · exact .inr (.inr (.inr (.inr (.inr rfl))))
    · rw [List.map_append, hes2, hes]; rfl
    · intro c hc
      rcases List.mem_append.mp hc with hc | hc
      · have := hle c hc; omega
      · have hm : c.es ∈ grow k i (subs.map Sub.es) := hes2 ▸ List.mem_map_of_mem hc
        unfold grow at hm
        obtain ⟨e, he, ee⟩ := List.mem_map.mp hm
        rw [← ee]
        obtain ⟨c0, hc0, e0⟩ := List.mem_map.mp (List.mem_filter.mp he).1
        have := hle c0 hc0
        rw [e0] at this
        rw [List.length_append]; simp; omega
    · rw [List.length_append, Nat.pow_succ]; omega
    · intro c hc
      rcases List.mem_append.mp hc with hc | hc
      · exact hne c hc
      · have := hns2 c hc
        exact ⟨by omega, by omega⟩
    · omega
    · omega
  · have hi' : i = 6 := by omega
    subst hi'
    refine next_rit_end_K (pre := (D, _) :: subs.map Sub.c) (post := [(L' + 1 + 1, oi), (L' + 1, o2)]) hh F N ?h1 ?h2 (by decide) ?_
    case h1 =>
      intro q hq
      rcases List.mem_cons.mp hq with rfl | hq
      · exact hDi
      · obtain ⟨c, hc, rfl⟩ := List.mem_map.mp hq
        exact (hne c hc).1
    case h2 => (intro q hq; simp only [List.mem_cons, List.not_mem_nil, or_false] at hq; rcases hq with rfl | rfl <;> exact neN (by dsimp only; omega))
    intro h6 F6 N6
    dsimp only
    refine wpAny_execs_nil ?_
    dsimp only
    have ND : h6.get? D = some (lsto (subs.map Sub.v) nn) := N6.get (by first | k_mem | simp)
    have hsubs : ∀ c ∈ subs, h6.get? c.a = some (lsto c.cs c.n) := fun c hc => N6.get (by simp only [List.mem_append, List.mem_cons, List.mem_map]; exact .inl (.inr ⟨c, hc, rfl⟩))
    refine wpAny_execs_cons (wpAny_Return_some ?_)
    refine ch_full (cl := [(Str.ofString "k", L' + 1)]) (subs := subs) (k := k) (tk := t2) X' T' hh F6 N6 ?a1 ?a2 ?a3 ?a4 ?a5 (fun C => ?a6) ?a7 ?a8 ?a9 (fun C => ?b1) ?b3 ⟨_, ND, rfl, _, rfl⟩ ?b4 (by omega) ?b5 ?_
    case a1 => rfl
    case a2 => decide
    case a3 => rfl
    case a4 => decide
    case a5 => (intro _; rfl)
    case a6 => rfl
    case a7 => decide
    case a8 => rfl
    case a9 => rfl
    case b1 => rfl
    case b3 => exact fun C s₃ Q' hk hq => wpAny_Name (wpAny_loadName_cell rfl rfl rfl ⟨o2, hk _ _ (N6.get (by first | k_mem | simp)), c2⟩ hq)
    case b4 => exact fun c hc => ⟨hsubs c hc, by have := hle c hc; have := c.ok.length; omega⟩
    case b5 => exact fun Q' hq => wpAny_Name (wpAny_loadName_local rfl rfl F6.ns hmm hq)
    intro D2 h8 tk8 n8 ns hsl hes2 F8 N8 hD2
    dsimp only
    have hno : ∀ a : Addr, g.get? a = none → s.heap.get? a = none := fun a q => by
      cases e : s.heap.get? a with
      | none => rfl
      | some o => rw [hg' _ _ e] at q; cases q
    refine hR h8 tk8 D2 n8 ns (by rw [hes2, hes]) (fun b o e => F8.keep b o (hg' _ _ e)) (N8.get (.head _)) (fun c hc => N8.get (.tail _ ?_)) ⟨hno _ (N8 _ (.head _)).2.2, fun c hc => hno _ (N8 (c.a, _) (.tail _ (List.mem_append_left _ (List.Mem.tail _ (List.mem_map_of_mem (f := Sub.c) (hsl.subset hc)))))).2.2⟩
    exact List.mem_append_left _ (List.Mem.tail _ (List.mem_map_of_mem (f := Sub.c) (hsl.subset hc)))
end Mine
end

section
open PySem PySem.W PySem.Spec PySem.Calls PyProof.Rows
set_option maxRecDepth 100000
namespace Mine
def dot : List Int → List Int → Int
  | a :: as, b :: bs => a * b + dot as bs
  | _, _ => 0
def adot : List Int → List Int → Nat
  | a :: as, b :: bs => (a * b).natAbs + adot as bs
  | _, _ => 0
theorem kind_sumprod : builtinKind "math.sumprod" = none := by decide +kernel
theorem plain_sumprod : plainId "math.sumprod" = true := by decide +kernel
theorem plain_sumprod_loop : plainId "math.sumprod.loop" = true := by decide +kernel
theorem entry_sumprod : entryFor table "math.sumprod" = some Builtin.«math.sumprod» := entryFor_of_tree (by kernel_rfl)
theorem entry_sumprod_loop : entryFor table "math.sumprod.loop" = some Builtin.«math.sumprod.loop» := entryFor_of_tree (by kernel_rfl)
theorem args_sumprod (a b : Value) : argsOk "math.sumprod" ⟨[a, b], []⟩ := by unfold argsOk; kernel_rfl
theorem kind_fsum : builtinKind "math.fsum" = none := by decide +kernel
theorem plain_fsum : plainId "math.fsum" = true := by decide +kernel
theorem plain_fsum_loop : plainId "math.fsum.loop" = true := by decide +kernel
theorem entry_fsum : entryFor table "math.fsum" = some Builtin.«math.fsum» := entryFor_of_tree (by kernel_rfl)
theorem entry_fsum_loop : entryFor table "math.fsum.loop" = some Builtin.«math.fsum.loop» := entryFor_of_tree (by kernel_rfl)
theorem args_fsum (a : Value) : argsOk "math.fsum" ⟨[a], []⟩ := by unfold argsOk; kernel_rfl
end Mine
end

section
open PySem PySem.W PySem.Spec PySem.Calls PyProof.Rows
set_option maxRecDepth 100000
namespace Mine
section
variable {prog : Program} {w : World} {A : Around} {E : Value → Shared → Prop} {s : Shared}
abbrev zeros3 (n : Nat) : Obj := { cls := .type "tuple", data := .seq #[rawInt (Float64.zero false).toNat, rawInt (Float64.zero false).toNat, rawInt (Float64.zero false).toNat] n }
theorem sumprod_loop {R : Result → Shared → Prop} {l1 l2 I1 I2 T : Addr} {xs ys : List Value} {nT : Nat} {t0 : Tok} (hh : A.handled = none) (h1 : l1 ≠ I1) (h2 : l2 ≠ I2) (h12 : l1 ≠ I2) (h21 : l2 ≠ I1) (hI : I1 ≠ I2) (hT1 : T ≠ I1) (hT2 : T ≠ I2) :
    ∀ (ns ks : List Int) (x' y' dx dy : List Value) (acc : Int) (used : Bool) (h : Heap) (tk : Tok), xs = dx ++ x' → ys = dy ++ y' → dx.length = dy.length → IntsAre x' ns → IntsAre y' ks → ns.length = ks.length → (used = true ∨ ns ≠ []) →
      (∀ n ∈ ns, n.natAbs < 2 ^ 62) → (∀ n ∈ ks, n.natAbs < 2 ^ 62) → acc.natAbs + adot ns ks < 2 ^ 62 →
      h.IsListIter I1 l1 dx.length → h.IsListIter I2 l2 dy.length → h.IsList l1 xs.toArray → h.IsList l2 ys.toArray → h.get? T = some (zeros3 nT) → (∀ b o, b ≠ I1 → b ≠ I2 → s.heap.get? b = some o → h.get? b = some o) →
      (∀ h' tk' t, (∀ b o, b ≠ I1 → b ≠ I2 → s.heap.get? b = some o → h'.get? b = some o) → R (.ok (.ret (.int (acc + dot ns ks) t))) { s with heap := h', toks := tk' }) →
      codeAny (model prog w) A (.builtin "math.sumprod.loop" ⟨[.ref I1, .ref I2, .int 0 t0, .bool true, .int acc 0, .bool used, .bool true, .ref T, .bool false], []⟩) R { s with heap := h, toks := tk }
  | [], [], x', y', dx, dy, acc, used, h, tk, ex, ey, el, ax, ay, eln, hu, b1, b2, ba, i1, i2, j1, j2, hT, hk, hR => by
    have hu : used = true := by simpa using hu
    subst hu
    cases ax.nil_inv; cases ay.nil_inv
    simp only [List.append_nil] at ex ey
    subst ex ey
    refine codeAny_builtin entry_sumprod_loop ?_
    rw [Around.under_plainId plain_sumprod_loop _]
    show wpAny _ A.in1 (seqItems? (.ref T) >>= _) _ _ _
    refine wpAny_bind (wpAny_seqItems hT rfl ?_)
    show wpAny _ A.in1 (pyNext (.ref I1) >>= _) _ _ _
    refine wpAny_bind (wpAny_pyNext_list_end hh i1 j1 (by simp) fun h' he => ?_)
    refine wpAny_bind (wpAny_holding ?_)
    have i2' : h'.IsListIter I2 l2 ys.length := by obtain ⟨o, a, b⟩ := i2; exact ⟨o, he _ _ hI.symm a, b⟩
    have j2' : h'.IsList l2 ys.toArray := j2.at fun o e => he _ _ h21 e
    refine wpAny_pyNext_list_end hh i2' j2' (by simp) fun h'' he' => ?_
    show wpAny _ A.in1 (rule "math.sumprod.leaves-ints" >>= fun _ => mkInt acc >>= fun i => holding ((none : Option Value).toList ++ (none : Option Value).toList) (binaryOp .Add (.int 0 t0) i) >>= fun total => rule "math.sumprod.leaves-floats" >>= fun _ => ret total) _ _ _
    refine wpAny_bind (wpAny_rule (wpAny_bind (wpAny_mkInt (wpAny_bind (wpAny_holding ?_)))))
    refine wpAny_add_int ?_
    refine wpAny_bind (wpAny_rule (wpAny_pure ?_))
    have e0 : (0 : Int) + acc = acc + dot [] [] := by simp [dot]
    rw [e0]
    exact hR h'' _ _ fun b o n1 n2 e => he' _ _ n2 (he _ _ n1 (hk _ _ n1 n2 e))
  | a :: ns, b :: ks, x', y', dx, dy, acc, used, h, tk, ex, ey, el, ax, ay, eln, hu, b1, b2, ba, i1, i2, j1, j2, hT, hk, hR => by
    obtain ⟨ta, x'', rfl, ax'⟩ := ax.cons_inv
    obtain ⟨tb, y'', rfl, ay'⟩ := ay.cons_inv
    refine codeAny_builtin entry_sumprod_loop ?_
    rw [Around.under_plainId plain_sumprod_loop _]
    show wpAny _ A.in1 (seqItems? (.ref T) >>= _) _ _ _
    refine wpAny_bind (wpAny_seqItems hT rfl ?_)
    show wpAny _ A.in1 (pyNext (.ref I1) >>= _) _ _ _
    refine wpAny_bind (wpAny_pyNext_list_item (x := .int a ta) i1 j1 (by rw [ex]; simp) fun h' hit' hs' => ?_)
    refine wpAny_bind (wpAny_holding ?_)
    have i2' : h'.IsListIter I2 l2 dy.length := by obtain ⟨o, a, b⟩ := i2; exact ⟨o, hs'.extBut _ _ hI.symm a, b⟩
    have j2' : h'.IsList l2 ys.toArray := j2.at fun o e => hs'.extBut _ _ h21 e
    refine wpAny_pyNext_list_item (x := .int b tb) i2' j2' (by rw [ey]; simp) fun h'' hit'' hs'' => ?_
    have ba2 : acc.natAbs + ((a * b).natAbs + adot ns ks) < 2 ^ 62 := ba
    have c1 := b1 a (.head _)
    have c2 := b2 b (.head _)
    have hf : ((decide (-(2 : Int) ^ 63 ≤ a) && decide (a ≤ Builtin.Math.maxSsize)) && (decide (-(2 : Int) ^ 63 ≤ b) && decide (b ≤ Builtin.Math.maxSsize)) && (decide (-(2 : Int) ^ 63 ≤ a * b) && decide (a * b ≤ Builtin.Math.maxSsize)) && (decide (-(2 : Int) ^ 63 ≤ acc + a * b) && decide (acc + a * b ≤ Builtin.Math.maxSsize))) = true := by
      have : Builtin.Math.maxSsize = 2 ^ 63 - 1 := by rfl
      rw [this]
      generalize a * b = ab at *
      simp only [Bool.and_eq_true, decide_eq_true_eq]
      omega
    show wpAny _ A.in1 (if ((decide (-(2 : Int) ^ 63 ≤ a) && decide (a ≤ Builtin.Math.maxSsize)) && (decide (-(2 : Int) ^ 63 ≤ b) && decide (b ≤ Builtin.Math.maxSsize)) && (decide (-(2 : Int) ^ 63 ≤ a * b) && decide (a * b ≤ Builtin.Math.maxSsize)) && (decide (-(2 : Int) ^ 63 ≤ acc + a * b) && decide (acc + a * b ≤ Builtin.Math.maxSsize))) = true then _ else _) _ _ _
    rw [if_pos hf]
    refine wpAny_bind (wpAny_pure (wpAny_pure ?_))
    refine ⟨plainId_quiet plain_sumprod_loop _, ?_⟩
    refine sumprod_loop (l1 := l1) (l2 := l2) (xs := xs) (ys := ys) (nT := nT) hh h1 h2 h12 h21 hI hT1 hT2 ns ks x'' y'' (dx ++ [.int a ta]) (dy ++ [.int b tb]) (acc + a * b) true h'' tk (by simp [ex]) (by simp [ey]) (by simp [el]) ax' ay' (by simpa using eln) (.inl rfl) (fun n hn => b1 n (.tail _ hn)) (fun n hn => b2 n (.tail _ hn)) (by generalize a * b = ab at *; omega) ?_ ?_ ?_ ?_ ?_ ?_ ?_
    · obtain ⟨o, q, r1, r2⟩ := hit'
      exact ⟨o, hs''.extBut _ _ hI q, r1, by rw [r2]; simp⟩
    · obtain ⟨o, q, r1, r2⟩ := hit''
      exact ⟨o, q, r1, by rw [r2]; simp⟩
    · exact j1.at fun o e => hs''.extBut _ _ h12 (hs'.extBut _ _ h1 e)
    · exact j2.at fun o e => hs''.extBut _ _ h2 (hs'.extBut _ _ h21 e)
    · exact hs''.extBut _ _ hT2 (hs'.extBut _ _ hT1 hT)
    · exact fun c o n1 n2 e => hs''.extBut _ _ n2 (hs'.extBut _ _ n1 (hk _ _ n1 n2 e))
    · intro h3 tk3 t3 hk3
      have e1 : acc + a * b + dot ns ks = acc + dot (a :: ns) (b :: ks) := by simp [dot]; omega
      rw [e1]
      exact hR h3 tk3 t3 hk3
  | [], b :: ks, x', y', dx, dy, acc, used, h, tk, ex, ey, el, ax, ay, eln, hu, b1, b2, ba, i1, i2, j1, j2, hT, hk, hR => by simp at eln
  | a :: ns, [], x', y', dx, dy, acc, used, h, tk, ex, ey, el, ax, ay, eln, hu, b1, b2, ba, i1, i2, j1, j2, hT, hk, hR => by simp at eln
theorem call_sumprod {l1 l2 : Addr} {xs ys : List Value} {ns ks : List Int} {Q : Value → Shared → Prop} (hh : A.handled = none) (j1 : s.heap.IsList l1 xs.toArray) (j2 : s.heap.IsList l2 ys.toArray) (ax : IntsAre xs ns) (ay : IntsAre ys ks) (eln : ns.length = ks.length) (hne : ns ≠ [])
    (b1 : ∀ n ∈ ns, n.natAbs < 2 ^ 62) (b2 : ∀ n ∈ ks, n.natAbs < 2 ^ 62) (ba : adot ns ks < 2 ^ 62)
    (hQ : ∀ h' tk' t, Keeps s.heap h' → Q (.int (dot ns ks) t) { s with heap := h', toks := tk' }) :
    wpAny (model prog w) A (call (.builtin "math.sumprod") [.ref l1, .ref l2]) Q E s := by
  obtain ⟨o1, e1, _⟩ := id j1
  obtain ⟨o2, e2, _⟩ := id j2
  have z1 := Heap.lt_size e1
  have z2 := Heap.lt_size e2
  refine kmk_tree kind_sumprod plain_sumprod entry_sumprod (args_sumprod _ _) ?_
  show wpAny _ A.in1 (pyIter (.ref l1) >>= _) _ _ _
  refine wpAny_bind (wpAny_pyIter_list j1 ?_)
  refine wpAny_bind (wpAny_holding ?_)
  have up1 : ∀ b o, s.heap.get? b = some o → (s.heap.push { cls := .type "list_iterator", data := .fields #[.ref l1, .int 0 0] }).get? b = some o := fun b o e => Heap.get?_push_of_some _ e
  refine wpAny_pyIter_list (j2.at fun o e => up1 _ _ e) ?_
  refine wpAny_bind (wpAny_mkInt ?_)
  refine wpAny_bind (wpAny_newTuple ?_)
  refine wpAny_pure ⟨plainId_quiet plain_sumprod_loop _, ?_⟩
  have g0 : (s.heap.push { cls := .type "list_iterator", data := .fields #[.ref l1, .int 0 0] }).objs.size = s.heap.objs.size + 1 := Heap.size_push ..
  generalize hp1 : s.heap.push { cls := .type "list_iterator", data := .fields #[.ref l1, .int 0 0] } = h1 at *
  have up2 : ∀ b o, h1.get? b = some o → (h1.push { cls := .type "list_iterator", data := .fields #[.ref l2, .int 0 0] }).get? b = some o := fun b o e => Heap.get?_push_of_some _ e
  have g2 : (h1.push { cls := .type "list_iterator", data := .fields #[.ref l2, .int 0 0] }).objs.size = h1.objs.size + 1 := Heap.size_push ..
  have gI2 : (h1.push { cls := .type "list_iterator", data := .fields #[.ref l2, .int 0 0] }).get? h1.objs.size = some { cls := .type "list_iterator", data := .fields #[.ref l2, .int 0 0] } := Heap.get?_push_size _ rfl
  have gI1 : h1.get? s.heap.objs.size = some { cls := .type "list_iterator", data := .fields #[.ref l1, .int 0 0] } := by rw [← hp1]; exact Heap.get?_push_size _ rfl
  generalize hp2 : h1.push { cls := .type "list_iterator", data := .fields #[.ref l2, .int 0 0] } = h2 at *
  have up3 : ∀ b o, h2.get? b = some o → (h2.push (zeros3 0)).get? b = some o := fun b o e => Heap.get?_push_of_some _ e
  have gT : (h2.push (zeros3 0)).get? h2.objs.size = some (zeros3 0) := Heap.get?_push_size _ rfl
  have ne : ∀ {a b : Addr}, @LT.lt Nat _ a b → a ≠ b := fun h => Nat.ne_of_lt h
  show codeAny _ _ (.builtin "math.sumprod.loop" ⟨[.ref s.heap.objs.size, .ref h1.objs.size, .int 0 _, .bool true, .int 0 0, .bool false, .bool true, .ref h2.objs.size, .bool false], []⟩) _ { s with heap := h2.push (zeros3 0), toks := _ }
  have q1 : @LT.lt Nat _ l1 s.heap.objs.size := z1
  have q2 : @LT.lt Nat _ l2 s.heap.objs.size := z2
  refine sumprod_loop (s := s) (l1 := l1) (l2 := l2) (xs := xs) (ys := ys) (nT := 0) hh (neN (by omega)) (neN (by omega)) (neN (by omega)) (neN (by omega)) (neN (by omega)) (neN (by omega)) (neN (by omega)) ns ks xs ys [] [] 0 false (h2.push (zeros3 0)) _ rfl rfl rfl ax ay eln (.inr hne) b1 b2 (by simpa using ba) ?_ ?_ ?_ ?_ gT ?_ ?_
  · exact ⟨_, up3 _ _ (up2 _ _ gI1), rfl, rfl⟩
  · exact ⟨_, up3 _ _ gI2, rfl, rfl⟩
  · exact j1.at fun o e => up3 _ _ (up2 _ _ (up1 _ _ e))
  · exact j2.at fun o e => up3 _ _ (up2 _ _ (up1 _ _ e))
  · exact fun b o _ _ e => up3 _ _ (up2 _ _ (up1 _ _ e))
  · intro h' tk' t hk
    have := hQ h' tk' t fun b o e => hk b o (ne (Heap.lt_size e)) (neN (by have : @LT.lt Nat _ b s.heap.objs.size := Heap.lt_size e; omega)) e
    simpa using this
end
end Mine
end

section
open PySem PySem.W PySem.Spec PySem.Calls PyProof.Rows
set_option maxRecDepth 100000
namespace Mine
/-- the running sum of fsum over positive whole numbers -/
def FPs (ps : List UInt64) (acc : Int) : Prop := (ps = [] ∧ acc = 0) ∨ ∃ p, ps = [p] ∧ IsI p acc ∧ 0 < acc
theorem fsumAdd_step {ps : List UInt64} {acc k : Int} (H : FPs ps acc) (hk : 0 < k) (hb : acc + k < 2 ^ 50) :
    ∃ t, Float64.fsumAdd ps (Float64.ofInt k) = ([], t) ∧ IsI t (acc + k) := by
  have hk' : IsI (Float64.ofInt k) k := IsI_ofInt (by rcases H with ⟨_, rfl⟩ | ⟨p, _, _, h0⟩ <;> omega)
  rcases H with ⟨rfl, rfl⟩ | ⟨p, rfl, hp, h0⟩
  · exact ⟨_, rfl, by simpa using hk'⟩
  · have key : ∀ x y : UInt64, ∀ a b : Int, IsI x a → IsI y b → 0 < a → 0 < b → a + b < 2 ^ 50 → IsI (Float64.add x y) (a + b) ∧ Float64.isZero (Float64.sub y (Float64.sub (Float64.add x y) x)) = true := by
      intro x y a b hx hy ha hb' hab
      have h1 := IsI_add hx hy (by omega)
      refine ⟨h1, ?_⟩
      have h2 := IsI_sub h1 hx (by omega)
      have h3 := IsI_sub hy h2 (by omega)
      rw [IsI_isZero h3]
      simp
      omega
    unfold Float64.fsumAdd
    by_cases hl : Float64.lt (Float64.abs (Float64.ofInt k)) (Float64.abs p) = true
    · simp only [hl, if_true]
      obtain ⟨q1, q2⟩ := key p (Float64.ofInt k) acc k hp hk' h0 hk hb
      simp only [Float64.fsumAdd, q2, if_true]
      exact ⟨_, rfl, q1⟩
    · simp only [hl, if_false, Bool.false_eq_true]
      obtain ⟨q1, q2⟩ := key (Float64.ofInt k) p k acc hk' hp hk h0 (by omega)
      simp only [Float64.fsumAdd, q2, if_true]
      exact ⟨_, rfl, by rw [Int.add_comm]; exact q1⟩
theorem bits_back (x : UInt64) : ((x.toNat : Int)).toNat.toUInt64 = x := by simp
abbrev bitsT (ps : List UInt64) (n : Nat) : Obj := { cls := .type "tuple", data := .seq (ps.map fun x => rawInt (x.toNat : Int)).toArray n }
section
variable {prog : Program} {w : World} {A : Around} {E : Value → Shared → Prop} {s : Shared}
def unpackB (v : Value) : Sem (List UInt64) := do
  return ((← seqItems? v).getD #[]).toList.map fun | .int i _ => i.toNat.toUInt64 | _ => 0
def packB (xs : List UInt64) : Sem Value := newTuple (xs.map fun x => rawInt x.toNat)
theorem unpackB_wp {P : Addr} {ps : List UInt64} {n : Nat} {Q : List UInt64 → Shared → Prop} (h : s.heap.get? P = some (bitsT ps n)) (hq : Q ps s) : wpAny (model prog w) A (unpackB (.ref P)) Q E s := by
  unfold unpackB
  refine wpAny_bind (wpAny_seqItems h rfl (wpAny_pure ?_))
  simp only [Option.getD_some, List.toList_toArray, List.map_map]
  have : (List.map ((fun x => match x with | Value.int i tok => i.toNat.toUInt64 | x => 0) ∘ fun (x : UInt64) => rawInt (x.toNat : Int)) ps) = ps := by
    conv => rhs; rw [← List.map_id ps]
    refine List.map_congr_left fun x _ => ?_
    exact bits_back x
  rw [this]
  exact hq
theorem packB_wp {ps : List UInt64} {Q : Value → Shared → Prop} (hn : ps.length < 8) (hq : Q (.ref s.heap.objs.size) { s with heap := s.heap.push (bitsT ps 0) }) : wpAny (model prog w) A (packB ps) Q E s :=
  wpAny_newTuple hq (by rw [List.length_map, sizeLine_eq]; omega)
theorem fsum_loop {R : Result → Shared → Prop} {l I S : Addr} {xs : List Value} {nS : Nat} (hh : A.handled = none) (h1 : l ≠ I) (hS : S ≠ I) :
    ∀ (ns : List Int) (x' dx : List Value) (acc : Int) (ps : List UInt64) (P : Addr) (nP : Nat) (h : Heap) (tk : Tok), xs = dx ++ x' → IntsAre x' ns → FPs ps acc → (0 < acc ∨ ns ≠ []) →
      (∀ n ∈ ns, 0 < n ∧ n < 2 ^ 20) → acc + 2 ^ 20 * ns.length < 2 ^ 50 → P ≠ I →
      h.IsListIter I l dx.length → h.IsList l xs.toArray → h.get? P = some (bitsT ps nP) → h.get? S = some (bitsT [Float64.zero false, Float64.zero false] nS) → (∀ b o, b ≠ I → s.heap.get? b = some o → h.get? b = some o) →
      (∀ h' tk' t r, (∀ b o, b ≠ I → s.heap.get? b = some o → h'.get? b = some o) → IsI r (acc + ns.sum) → R (.ok (.ret (.float r t))) { s with heap := h', toks := tk' }) →
      codeAny (model prog w) A (.builtin "math.fsum.loop" ⟨[.ref I, .ref P, .ref S], []⟩) R { s with heap := h, toks := tk }
  | [], x', dx, acc, ps, P, nP, h, tk, ex, ax, H, hu, b1, b2, hP, i1, j1, gP, gS, hk, hR => by
    have hu : 0 < acc := by simpa using hu
    cases ax.nil_inv
    simp only [List.append_nil] at ex
    subst ex
    obtain ⟨p, rfl, hp, h0⟩ : ∃ p, ps = [p] ∧ IsI p acc ∧ 0 < acc := by
      rcases H with ⟨_, rfl⟩ | H
      · omega
      · exact H
    refine codeAny_builtin entry_fsum_loop ?_
    rw [Around.under_plainId plain_fsum_loop _]
    show wpAny _ A.in1 (unpackB (.ref P) >>= _) _ _ _
    refine wpAny_bind (unpackB_wp gP ?_)
    show wpAny _ A.in1 (unpackB (.ref S) >>= _) _ _ _
    refine wpAny_bind (unpackB_wp gS ?_)
    show wpAny _ A.in1 (pyNext (.ref I) >>= _) _ _ _
    refine wpAny_bind (wpAny_pyNext_list_end hh i1 j1 (by simp) fun h' he => ?_)
    have hz : (!Float64.isZero (Float64.zero false)) = false := by decide +kernel
    show wpAny _ A.in1 (if (!Float64.isZero (Float64.zero false)) = true then _ else Builtin.Float.retFloat p) _ _ _
    rw [hz]
    rw [if_neg Bool.false_ne_true]
    unfold Builtin.Float.retFloat
    refine wpAny_bind (wpAny_bind (wpAny_fresh (wpAny_pure ?_)))
    refine wpAny_pure ?_
    exact hR h' _ _ p (fun b o n1 e => he _ _ n1 (hk _ _ n1 e)) (by simpa using hp)
  | a :: ns, x', dx, acc, ps, P, nP, h, tk, ex, ax, H, hu, b1, b2, hP, i1, j1, gP, gS, hk, hR => by
    obtain ⟨ta, x'', rfl, ax'⟩ := ax.cons_inv
    refine codeAny_builtin entry_fsum_loop ?_
    rw [Around.under_plainId plain_fsum_loop _]
    show wpAny _ A.in1 (unpackB (.ref P) >>= _) _ _ _
    refine wpAny_bind (unpackB_wp gP ?_)
    show wpAny _ A.in1 (unpackB (.ref S) >>= _) _ _ _
    refine wpAny_bind (unpackB_wp gS ?_)
    show wpAny _ A.in1 (pyNext (.ref I) >>= _) _ _ _
    refine wpAny_bind (wpAny_pyNext_list_item (x := .int a ta) i1 j1 (by simp [ex]) fun h' hit' hs' => ?_)
    have hk0 := b1 a (.head _)
    have hlen : (a :: ns).length = ns.length + 1 := rfl
    rw [hlen] at b2
    have hacc0 : 0 ≤ acc := by rcases H with ⟨_, rfl⟩ | ⟨_, _, _, h0⟩ <;> omega
    obtain ⟨top, htop, itop⟩ := fsumAdd_step H hk0.1 (by omega)
    refine wpAny_bind (wpAny_holding ?_)
    refine Flt.realArg_int hh (fun c => ?_) fun c => ?_
    · exfalso
      have c' : 2 ^ 1024 - 2 ^ 970 ≤ a.natAbs := c
      have : (2 : Nat) ^ 30 ≤ 2 ^ 1024 - 2 ^ 970 := by decide +kernel
      omega
    show wpAny _ A.in1 (match Float64.fsumAdd ps (Float64.ofInt a) with | (low, top) => _) _ _ _
    rw [htop]
    dsimp only
    rw [if_pos (IsI_fin itop)]
    have hnz : Float64.isZero top = false := by rw [IsI_isZero itop]; simp; omega
    rw [hnz]
    rw [if_neg Bool.false_ne_true]
    show wpAny _ A.in1 (packB [top] >>= _) _ _ _
    refine wpAny_bind (packB_wp (by simp) ?_)
    refine wpAny_pure ⟨plainId_quiet plain_fsum_loop _, ?_⟩
    have up : ∀ b o, h'.get? b = some o → (h'.push (bitsT [top] 0)).get? b = some o := fun b o e => Heap.get?_push_of_some _ e
    obtain ⟨oI, eI, cI, dI⟩ := id hit'
    refine fsum_loop (l := l) (xs := xs) (nS := nS) hh h1 hS ns x'' (dx ++ [.int a ta]) (acc + a) [top] h'.objs.size 0 (h'.push (bitsT [top] 0)) _ (by simp [ex]) ax' (.inr ⟨top, rfl, itop, by omega⟩) (.inl (by omega)) (fun n hn => b1 n (.tail _ hn)) (by omega) (Nat.ne_of_gt (Heap.lt_size eI)) ?_ ?_ (Heap.get?_push_size _ rfl) ?_ ?_ ?_
    · exact ⟨oI, up _ _ eI, cI, by rw [dI]; simp⟩
    · exact j1.at fun o e => up _ _ (hs'.extBut _ _ h1 e)
    · exact up _ _ (hs'.extBut _ _ hS gS)
    · exact fun b o n1 e => up _ _ (hs'.extBut _ _ n1 (hk _ _ n1 e))
    · intro h3 tk3 t3 r3 hk3 hr
      exact hR h3 tk3 t3 r3 hk3 (by rw [List.sum_cons, ← Int.add_assoc]; exact hr)
theorem call_fsum {l : Addr} {xs : List Value} {ns : List Int} {Q : Value → Shared → Prop} (hh : A.handled = none) (j1 : s.heap.IsList l xs.toArray) (ax : IntsAre xs ns) (hne : ns ≠ [])
    (b1 : ∀ n ∈ ns, 0 < n ∧ n < 2 ^ 20) (b2 : ns.length < 1000)
    (hQ : ∀ h' tk' t r, Keeps s.heap h' → IsI r ns.sum → Q (.float r t) { s with heap := h', toks := tk' }) :
    wpAny (model prog w) A (call (.builtin "math.fsum") [.ref l]) Q E s := by
  obtain ⟨o1, e1, _⟩ := id j1
  have q1 : @LT.lt Nat _ l s.heap.objs.size := Heap.lt_size e1
  refine kmk_tree kind_fsum plain_fsum entry_fsum (args_fsum _) ?_
  show wpAny _ A.in1 (pyIter (.ref l) >>= _) _ _ _
  refine wpAny_bind (wpAny_pyIter_list j1 ?_)
  show wpAny _ A.in1 (packB [] >>= _) _ _ _
  refine wpAny_bind (packB_wp (by simp) ?_)
  show wpAny _ A.in1 (packB [Float64.zero false, Float64.zero false] >>= _) _ _ _
  refine wpAny_bind (packB_wp (by simp) ?_)
  refine wpAny_pure ⟨plainId_quiet plain_fsum_loop _, ?_⟩
  have up1 : ∀ b o, s.heap.get? b = some o → (s.heap.push { cls := .type "list_iterator", data := .fields #[.ref l, .int 0 0] }).get? b = some o := fun b o e => Heap.get?_push_of_some _ e
  have g0 : (s.heap.push { cls := .type "list_iterator", data := .fields #[.ref l, .int 0 0] }).objs.size = s.heap.objs.size + 1 := Heap.size_push ..
  have gI1 : (s.heap.push { cls := .type "list_iterator", data := .fields #[.ref l, .int 0 0] }).get? s.heap.objs.size = some { cls := .type "list_iterator", data := .fields #[.ref l, .int 0 0] } := Heap.get?_push_size _ rfl
  dsimp only
  generalize hp1 : s.heap.push { cls := .type "list_iterator", data := .fields #[.ref l, .int 0 0] } = h1 at *
  have up2 : ∀ b o, h1.get? b = some o → (h1.push (bitsT [] 0)).get? b = some o := fun b o e => Heap.get?_push_of_some _ e
  have g2 : (h1.push (bitsT [] 0)).objs.size = h1.objs.size + 1 := Heap.size_push ..
  have gP : (h1.push (bitsT [] 0)).get? h1.objs.size = some (bitsT [] 0) := Heap.get?_push_size _ rfl
  generalize hp2 : h1.push (bitsT [] 0) = h2 at *
  have up3 : ∀ b o, h2.get? b = some o → (h2.push (bitsT [Float64.zero false, Float64.zero false] 0)).get? b = some o := fun b o e => Heap.get?_push_of_some _ e
  have gS : (h2.push (bitsT [Float64.zero false, Float64.zero false] 0)).get? h2.objs.size = some (bitsT [Float64.zero false, Float64.zero false] 0) := Heap.get?_push_size _ rfl
  refine fsum_loop (s := s) (l := l) (xs := xs) (nS := 0) hh (neN (by omega)) (neN (by omega)) ns xs [] 0 [] h1.objs.size 0 _ _ rfl ax (.inl ⟨rfl, rfl⟩) (.inr hne) b1 (by omega) (neN (by omega)) ?_ ?_ ?_ gS ?_ ?_
  · exact ⟨_, up3 _ _ (up2 _ _ gI1), rfl, rfl⟩
  · exact j1.at fun o e => up3 _ _ (up2 _ _ (up1 _ _ e))
  · exact up3 _ _ gP
  · exact fun b o _ e => up3 _ _ (up2 _ _ (up1 _ _ e))
  · intro h' tk' t r hk hr
    refine hQ h' tk' t r (fun b o e => hk b o (neN (by have : @LT.lt Nat _ b s.heap.objs.size := Heap.lt_size e; omega)) e) (by simpa using hr)
end
end Mine
end

section
open PySem PySem.W PySem.Spec PySem.Calls PyProof.Rows
set_option maxRecDepth 100000
namespace Mine
theorem isList_F {g h : Heap} {L l : Addr} {m : Str → Option Value} {vs : Array Value} (F : Fr g L h m) (j : g.IsList l vs) : h.IsList l vs := j.at fun o e => F.keep _ _ e
/-- the items of ws at the places es -/
def pick (ws : List Int) (es : List Int) : List Int := es.map fun e => ws.getD e.toNat 0
/-- y is the int f e, v the int e -/
def IntFn (f : Int → Int) (v y : Value) : Prop := ∃ e t t', v = .int e t ∧ y = .int (f e) t'
theorem intFn_are {f : Int → Int} : ∀ {cs ys : List Value} {es : List Int}, IntsAre cs es → Paired (IntFn f) cs ys → IntsAre ys (es.map f)
  | _, _, _, .nil, .nil => .nil
  | _, _, _, .cons n t h, .cons ⟨e, t1, t2, h1, h2⟩ r => by
    cases h1; subst h2
    exact .cons _ _ (intFn_are h r)
theorem filter_true {cs : List Value} : (cs.filter fun _ => true) = cs := by simp
section
variable {prog : Program} {w : World} {A : Around} {E : Value → Shared → Prop} {s : Shared} {env : Env} {g : Heap} {L : Addr} {m : Str → Option Value} {news : List (Addr × Obj)}
/-- a list's item at an int -/
theorem item_at {a i : Str} {pa pi ps : Pos} {l : Addr} {vs : List Value} {ws : List Int} {k : Int} {t : Tok} {Q : Value → Shared → Prop}
    (hl : s.heap.IsList l vs.toArray) (hi : IntsAre vs ws) (h0 : 0 ≤ k) (h1 : k < ws.length) (hk : k < 2 ^ 63)
    (ha : ∀ Q' : Value → Shared → Prop, Q' (.ref l) s → wpAny (model prog w) A (eval (.Name a pa) env) Q' E s)
    (hn : ∀ Q' : Value → Shared → Prop, Q' (.int k t) s → wpAny (model prog w) A (eval (.Name i pi) env) Q' E s)
    (h : ∀ t', Q (.int (ws.getD k.toNat 0) t') s) : wpAny (model prog w) A (eval (.Subscript (.Name a pa) (.Name i pi) ps) env) Q E s := by
  refine Subscript_ (ha _ (hn _ ?_))
  have hlen := hi.length
  have hkk : k.toNat < vs.length := by omega
  obtain ⟨t', e⟩ := hi.int_at k.toNat vs[k.toNat] (List.getElem?_eq_getElem hkk)
  exact tail_any hl.typeIs slot_list_getitem.lookup (wpAny_getItem_list hl h0 hk (x := vs[k.toNat]) (by simp [hkk]) (by rw [e]; exact h t')) (by with_unfolding_all rfl)
/-- `[ws[i] for i in chosen]`, ws a captured name -/
theorem lc_pick {a i : Str} {pa pi ps px pos : Pos} {iter : Expr} {scope : Scope} {cl : List (Str × Addr)} {Q : Value → Shared → Prop} {c l : Addr} {cs vs : List Value} {es ws : List Int}
    (hh : A.handled = none) (F : Fr g L s.heap m) (N : News g L s.heap news)
    (hclos : closureFor scope env = pure cl) (hcell : ∀ y ∈ scope.names, y.2 ≠ .cell) (hkind : scope.kind = .function)
    (hnames : ∀ y ∈ scope.names, y.2 = .local → scope.names.lookup y.1 = some .local) (hs : ∀ x, foldedSetIterable iter env x = pure x)
    (hx : ∀ C, (compEnvC scope cl C env).kindOf i = some .local) (hb : (i == Str.ofString "__debug__") = false)
    (hv : ∀ C (s₃ : Shared) (Q' : Value → Shared → Prop), (∀ b o, s.heap.get? b = some o → s₃.heap.get? b = some o) → Q' (.ref l) s₃ → wpAny (model prog w) A (eval (.Name a pa) (compEnvC scope cl C env)) Q' (fun _ _ => False) s₃)
    (hc : s.heap.IsList c cs.toArray) (ac : IntsAre cs es) (hl : s.heap.IsList l vs.toArray) (av : IntsAre vs ws) (hin : ∀ e ∈ es, 0 ≤ e ∧ e < ws.length) (hlen : ws.length < 100) (hlen2 : es.length < 100)
    (hiter : ∀ Q' : Value → Shared → Prop, Q' (.ref c) s → wpAny (model prog w) A (eval iter env) Q' E s)
    (h : ∀ D h' tk' ys n', IntsAre ys (pick ws es) → Fr g L h' m → News g L h' ((D, lsto ys n') :: news) → (∀ q ∈ news, q.1 < D) → Q (.ref D) { s with heap := h', toks := tk' }) :
    wpAny (model prog w) A (eval (.ListComp (.Subscript (.Name a pa) (.Name i pi) ps) [⟨.Name i px, iter, [], 0⟩] scope pos) env) Q E s := by
  refine lcw (fun _ => true) (IntFn fun e => ws.getD e.toNat 0) F hclos hcell hkind hnames hs hx (hiter _ (src_list hh F N hc (by have := ac.length; rw [sizeLine_eq]; omega) ?_ ?_ ?_))
  · intro C v s₃ m₃ hm hn hx' hk
    exact tests_none ⟨rfl, s₃.heap, s₃.toks, rfl, fun b o e => e⟩
  · intro C v s₃ m₃ hm _ hn hx' hk
    obtain ⟨j, hj⟩ := List.getElem?_of_mem hm
    obtain ⟨e, t, rfl, hej⟩ := ac.at j v hj
    have hi := hin e (List.mem_of_getElem? hej)
    refine item_at (hl.at fun o q => hk _ _ q) av hi.1 hi.2 (by omega) (fun Q' hq => hv C s₃ Q' hk hq) (fun Q' hq => wpAny_Name (wpAny_loadName_local hkind (hx C) hn hx' hq) hb) fun t' => ?_
    exact ⟨⟨e, t, t', rfl, rfl⟩, s₃.heap, s₃.toks, rfl, fun b o e => e⟩
  · intro D h' tk ys n' hP F' N' hD
    rw [filter_true] at hP
    exact h D h' tk ys n' (intFn_are ac hP) F' N' hD
end
end Mine
end

section
open PySem PySem.W PySem.Spec PySem.Calls PyProof.Rows
set_option maxRecDepth 100000
namespace Mine
theorem try_plain2 {prog : Program} {w : World} {A : Around} {E : Value → Shared → Prop} {s : Shared} {env : Env} {body orelse : List Stmt} {h₀ : ExceptHandler} {hs : List ExceptHandler} {pos : Pos} {Q : Flow → Shared → Prop}
    (h : wpAny (model prog w) A (execs body env) (fun f s₁ => match f with | .next => wpAny (model prog w) A (execs orelse env) Q E s₁ | f => Q f s₁) (fun _ _ => False) s) :
    wpAny (model prog w) A (exec (.Try body (h₀ :: hs) orelse [] pos) env) Q E s := wpAny_Try_except (wpAny_mono h (fun _ _ x => x) fun _ _ x => x.elim)
theorem kitAt_F {g h : Heap} {L l : Addr} {m : Str → Option Value} {vs : Array Value} (F : Fr g L h m) (j : g.IsList l vs) : KitAt l "list" h := let ⟨o, e, c, _⟩ := j; ⟨o, F.keep _ _ e, c⟩
section
variable {prog : Program} {w : World} {A : Around} {E : Value → Shared → Prop} {s : Shared} {g : Heap} {L : Addr} {m : Str → Option Value} {news : List (Addr × Obj)}
theorem sumprod_K {l1 l2 : Addr} {xs ys : List Value} {ns ks : List Int} {Q : Value → Shared → Prop} (hh : A.handled = none) (F : Fr g L s.heap m) (N : News g L s.heap news) (j1 : s.heap.IsList l1 xs.toArray) (j2 : s.heap.IsList l2 ys.toArray) (ax : IntsAre xs ns) (ay : IntsAre ys ks) (eln : ns.length = ks.length) (hne : ns ≠ [])
    (b1 : ∀ n ∈ ns, n.natAbs < 2 ^ 62) (b2 : ∀ n ∈ ks, n.natAbs < 2 ^ 62) (ba : adot ns ks < 2 ^ 62)
    (hQ : ∀ h' tk' t, Fr g L h' m → News g L h' news → Q (.int (dot ns ks) t) { s with heap := h', toks := tk' }) :
    wpAny (model prog w) A (call (.builtin "math.sumprod") [.ref l1, .ref l2]) Q E s :=
  call_sumprod hh j1 j2 ax ay eln hne b1 b2 ba fun h' tk' t k => hQ h' tk' t (led_keeps F N k).1 (led_keeps F N k).2
theorem fsum_K {l : Addr} {xs : List Value} {ns : List Int} {Q : Value → Shared → Prop} (hh : A.handled = none) (F : Fr g L s.heap m) (N : News g L s.heap news) (j1 : s.heap.IsList l xs.toArray) (ax : IntsAre xs ns) (hne : ns ≠ [])
    (b1 : ∀ n ∈ ns, 0 < n ∧ n < 2 ^ 20) (b2 : ns.length < 1000)
    (hQ : ∀ h' tk' t r, Fr g L h' m → News g L h' news → IsI r ns.sum → Q (.float r t) { s with heap := h', toks := tk' }) :
    wpAny (model prog w) A (call (.builtin "math.fsum") [.ref l]) Q E s :=
  call_fsum hh j1 ax hne b1 b2 fun h' tk' t r k => hQ h' tk' t r (led_keeps F N k).1 (led_keeps F N k).2
end
theorem sum_pos : ∀ (ks : List Int), ks ≠ [] → (∀ n ∈ ks, 0 < n) → 0 < ks.sum
  | [], h, _ => absurd rfl h
  | [a], _, h => by have := h a (.head _); simpa using this
  | a :: b :: r, _, h => by
    have h1 := h a (.head _)
    have h2 := sum_pos (b :: r) (by simp) fun n hn => h n (.tail _ hn)
    rw [List.sum_cons]; omega
set_option maxHeartbeats 1000000 in
theorem fmean_c {w : World} {A : Around} {s : Shared} {R : Result → Shared → Prop} {h₀ : Heap} {p : Program} {loose : List Str} {mean : ExcName → Option Value} {mg mb : Str → Option Value}
   {l1 l2 : Addr} {xs ys : List Value} {ns ks : List Int} {q : Int}
   (X : (Mine.hd.heap_39 w.params).In h₀) (T : Top p loose mean mg mb h₀) (hk : Keeps h₀ s.heap) (hroom : A.depth + 10 < recursionLimit) (hun : A.units + 60 < cLine) (hh : A.handled = none)
   (j1 : s.heap.IsList l1 xs.toArray) (j2 : s.heap.IsList l2 ys.toArray) (ax : IntsAre xs ns) (ay : IntsAre ys ks) (eln : ns.length = ks.length) (hne : ns ≠ [])
   (b1 : ∀ n ∈ ns, n.natAbs < 2 ^ 40) (b2 : ∀ n ∈ ks, 0 < n ∧ n < 2 ^ 20) (b3 : ns.length < 1000) (ba : adot ns ks < 2 ^ 62)  (hq : dot ns ks = q * ks.sum) (hqb : q.natAbs < 2 ^ 53) (hdb : (dot ns ks).natAbs < 2 ^ 53)
   (hR : ∀ h' tk' t r, Keeps s.heap h' → IsI r q → R (.ok (.ret (.float r t))) { s with heap := h', toks := tk' }) :
   codeAny (model PySem.Challenge.rw_op0141_01.row.prog w) A (.call (.ref 131) ⟨[.ref l1, .ref l2], []⟩) R s := by
  k_with_none
  w_top off
  k_with "exec Try" => (k_here; (with_reducible show wpAny _ _ (exec (Stmt.Try _ _ _ _ _) _) _ _ _); (k_dflt (refine try_plain2 ?_)); walk_say "MINE try")
  k_with "call builtin:isinstance" => (k_here; (with_reducible show wpAny _ _ (call _ [Value.ref _, Value.ref _]) _ _ _); k_dflt (refine' kia_tup kitx_list ?zX ?zp ?zhtp ?zee ?znb ?_; (case zX => k_in); (case zp => exact kitAt_F (by assumption) (by assumption)); (case zhtp => kit_tp); (case zee => kit_is); (case znb => kit_nb); k_whole; intro _))
  k_with "call builtin:math.sumprod" => (k_here; (with_reducible show wpAny _ _ (call _ [Value.ref _, Value.ref _]) _ _ _); refine Hold.out ?_; walk_say "MINE sumprod")
  k_with "call builtin:math.fsum" => (k_here; (with_reducible show wpAny _ _ (call _ [Value.ref _]) _ _ _); refine Hold.out ?_; walk_say "MINE fsum")
  have hne2 : ks ≠ [] := fun e => hne (by rw [e] at eln; exact List.length_eq_zero_iff.mp eln)
  have b1' : ∀ n ∈ ns, n.natAbs < 2 ^ 62 := fun n hn => by have := b1 n hn; omega
  have b2' : ∀ n ∈ ks, n.natAbs < 2 ^ 62 := fun n hn => by have := b2 n hn; omega
  have b4 : ks.length < 1000 := by omega
  revert X; k_fill; intro X
  refine' enterC X T hk [] ?hh ?k6 ?k7 ?k8 ?k9 ?kB ?kD ?_ ?c2 ?c3 ?c4
  case hh => intro q hq; cases hq
  case k6 => k_is
  case k7 => k_is
  case k8 => omega
  case k9 => exact binds_K (fun a o e => hk _ _ (X a o e)) rfl (by k_is) rfl rfl rfl
  case kB => exact rfl
  case kD => decide +kernel
  case c2 => rfl
  case c3 => rfl
  case c4 => rfl
  intro g L' h₁ tk₁ cells hg hkg X' T' F' N' Y' hL
  k_cells Y'
  (try simp only [List.cons_append, List.nil_append] at N')
  have hg' : Keeps s.heap g := fun b o e => hg b o e (by intro q hq; cases hq)
  have j1' := j1.at fun o e => hg' _ _ e
  have j2' := j2.at fun o e => hg' _ _ e
  clear hg hL hk hkg j1 j2
  (try dsimp only)
  k_steps
  refine Hold.intro ?_
  rename Fr _ _ _ _ => F1
  rename News _ _ _ _ => N1
  refine sumprod_K hh F1 N1 (isList_F F1 j1') (isList_F F1 j2') ax ay eln hne b1' b2' ba fun h2 tk2 t2 F2 N2 => ?_
  clear F1 N1
  dsimp only
  k_steps
  refine Hold.intro ?_
  rename Fr _ _ _ _ => F3
  rename News _ _ _ _ => N3
  refine fsum_K hh F3 N3 (isList_F F3 j2') ay hne2 b2 b4 fun h4 tk4 t4 r4 F4 N4 hr4 => ?_
  clear F3 N3
  have hs0 : 0 < ks.sum := sum_pos ks hne2 fun n hn => (b2 n hn).1
  have hz : Float64.isZero r4 = false := by rw [IsI_isZero hr4]; simp; omega
  have hnz : ¬ (Float64.isZero r4 = true) := by rw [hz]; decide
  have hri : IsI (Float64.div (Float64.ofInt (dot ns ks)) r4) q := IsI_div (by rw [← hq]; exact IsI_ofInt hdb) hr4 hs0 hqb
  have hinf : ¬ Float64.isInf (Float64.ofInt (dot ns ks)) = true := by rw [IsI_inf (IsI_ofInt hdb)]; decide
  clear ax ay eln hne b1 b2 b3 ba hne2 b1' b2' b4 hq hqb hs0 j1' j2'
  dsimp only
  k_steps
  refine AutoFloatOps.truediv_if_2 hinf hnz ?_
  rename Fr _ _ _ _ => F5
  exact hR _ _ _ _ (fun b o e => F5.keep b o (hg' _ _ e)) hri
end Mine
end

section
open PySem PySem.W PySem.Spec PySem.Calls PyProof.Rows
set_option maxRecDepth 100000
namespace Mine
theorem lmean_c {w : World} {A : Around} {s : Shared} {R : Result → Shared → Prop} {h₀ : Heap} {p : Program} {loose : List Str} {mean : ExcName → Option Value} {mg mb : Str → Option Value}
   {c a b : Addr} {cs vs us : List Value} {es ws wt : List Int} {q : Int}
   (X : (Mine.hd.heap_39 w.params).In h₀) (T : Top p loose mean mg mb h₀) (hk : Keeps h₀ s.heap) (hroom : A.depth + 12 < recursionLimit) (hun : A.units + 70 < cLine) (hh : A.handled = none)
   (jc : s.heap.IsList c cs.toArray) (ja : s.heap.IsList a vs.toArray) (jb : s.heap.IsList b us.toArray) (ac : IntsAre cs es) (aa : IntsAre vs ws) (ab : IntsAre us wt)
   (lw : ws.length = 6) (lt : wt.length = 6) (le : es.length < 100) (hne : es ≠ []) (hin : ∀ e ∈ es, 0 ≤ e ∧ e < 6)
   (b1 : ∀ n ∈ pick ws es, n.natAbs < 2 ^ 40) (b2 : ∀ n ∈ pick wt es, 0 < n ∧ n < 2 ^ 20) (ba : adot (pick ws es) (pick wt es) < 2 ^ 62) (hq : dot (pick ws es) (pick wt es) = q * (pick wt es).sum) (hqb : q.natAbs < 2 ^ 53) (hdb : (dot (pick ws es) (pick wt es)).natAbs < 2 ^ 53)
   (hR : ∀ h' tk' t r, Keeps s.heap h' → IsI r q → R (.ok (.ret (.float r t))) { s with heap := h', toks := tk' }) :
   codeAny (model PySem.Challenge.rw_op0141_01.row.prog w) A (.call (.ref 148) ⟨[.ref c, .ref a, .ref b], []⟩) R s := by
  k_with_none
  w_top off
  k_with "eval ListComp" => (k_here; (with_reducible show wpAny _ _ (eval (Expr.ListComp _ _ _ _) _) _ _ _); refine Hold.out ?_; walk_say "MINE hold lc")
  k_with "call ref" => (k_here; (with_reducible show wpAny _ _ (call (Value.ref 131) _) _ _ _); refine Hold.out ?_; walk_say "MINE hold fmean")
  revert X; k_fill; intro X
  refine' enterC X T hk [] ?hh ?k6 ?k7 ?k8 ?k9 ?kB ?kD ?_ ?c2 ?c3 ?c4
  case hh => intro q hq; cases hq
  case k6 => k_is
  case k7 => k_is
  case k8 => omega
  case k9 => exact BindsTo.of_eq rfl
  case kB => exact rfl
  case kD => decide +kernel
  case c2 => rfl
  case c3 => rfl
  case c4 => rfl
  intro g L' h₁ tk₁ cells hg hkg X' T' F' N' Y' hL
  k_cells Y'
  (try simp only [List.cons_append, List.nil_append] at N')
  have hg' : Keeps s.heap g := fun b o e => hg b o e (by intro q hq; cases hq)
  have jc' := jc.at fun o e => hg' _ _ e
  have ja' := ja.at fun o e => hg' _ _ e
  have jb' := jb.at fun o e => hg' _ _ e
  clear hg hL hk hkg ja jb jc
  (try dsimp only)
  k_steps
  refine Hold.intro ?_
  rename_i o1 o2 d1 d2
  have c1 : o1.data = .cell (some (.ref b)) := d1
  have c2 : o2.data = .cell (some (.ref a)) := d2
  refine lc_pick (cl := [(Str.ofString "worths", L' + 1)]) hh F' N' ?a1 ?a2 ?a3 ?a4 ?a5 (fun C => ?a6) ?a7 ?a8 (isList_F F' jc') ac (isList_F F' ja') aa (by rw [lw]; exact hin) (by omega) le ?a9 ?_
  case a1 => rfl
  case a2 => decide
  case a3 => rfl
  case a4 => decide
  case a5 => (intro _; rfl)
  case a6 => rfl
  case a7 => decide
  case a8 => exact fun C s₃ Q' hk hq => wpAny_Name (wpAny_loadName_cell rfl rfl rfl ⟨o2, hk _ _ (N'.get (.tail _ (.head _))), c2⟩ hq)
  case a9 => exact fun Q' hq => wpAny_Name (wpAny_loadName_local rfl rfl F'.ns (by with_unfolding_all rfl) hq)
  intro D1 h2 tk2 ys1 n1 ay1 F2 N2 hD1
  clear F' N'
  dsimp only
  k_steps
  refine Hold.intro ?_
  refine lc_pick (cl := [(Str.ofString "weights", L' + 1 + 1)]) hh F2 N2 ?a1 ?a2 ?a3 ?a4 ?a5 (fun C => ?a6) ?a7 ?a8 (isList_F F2 jc') ac (isList_F F2 jb') ab (by rw [lt]; exact hin) (by omega) le ?a9 ?_
  case a1 => rfl
  case a2 => decide
  case a3 => rfl
  case a4 => decide
  case a5 => (intro _; rfl)
  case a6 => rfl
  case a7 => decide
  case a8 => exact fun C s₃ Q' hk hq => wpAny_Name (wpAny_loadName_cell rfl rfl rfl ⟨o1, hk _ _ (N2.get (.tail _ (.head _))), c1⟩ hq)
  case a9 => exact fun Q' hq => wpAny_Name (wpAny_loadName_local rfl rfl F2.ns (by with_unfolding_all rfl) hq)
  intro D2 h3 tk3 ys2 n2 ay2 F3 N3 hD2
  clear F2 N2
  dsimp only
  k_steps
  refine Hold.intro ?_
  refine wpAny_call (fmean_c (h₀ := g) X' T' F3.keep ?d1 ?d2 hh ?d3 ?d4 ay1 ay2 ?d5 ?d6 b1 b2 ?d7 ba hq hqb hdb ?_)
  case d1 => show A.depth + 1 + 10 < _; omega
  case d2 => show A.units + 3 + 60 < _; omega
  case d3 => exact ⟨_, N3.get (.tail _ (.head _)), rfl, _, rfl⟩
  case d4 => exact ⟨_, N3.get (.head _), rfl, _, rfl⟩
  case d5 => simp [pick]
  case d6 => simpa [pick] using hne
  case d7 => simp [pick]; omega
  intro h4 tk4 t4 r4 k4 hr4
  dsimp only
  exact hR _ _ _ _ (fun b o e => k4 _ _ (F3.keep b o (hg' _ _ e))) hr4
end Mine
end

section
namespace Mine
/-- k of the six things -/
structure Sel (k : Nat) (es : List Int) : Prop where
  len : es.length = k
  nd : es.Nodup
  inn : ∀ e ∈ es, 0 ≤ e ∧ e < 6
def Wt (w : Int → Int) (es : List Int) : Int := (es.map w).sum
def Nm (x w : Int → Int) (es : List Int) : Int := (es.map fun e => x e * w e).sum
theorem one_of_six {a : Int} (h : 0 ≤ a ∧ a < 6) : a = 0 ∨ a = 1 ∨ a = 2 ∨ a = 3 ∨ a = 4 ∨ a = 5 := by omega
def six (f : Int → Int) : Int := f 0 + f 1 + f 2 + f 3 + f 4 + f 5
open Classical in
/-- the sum over what is apart, place by place -/
theorem sum_six (f : Int → Int) : ∀ (S : List Int), S.Nodup → (∀ e ∈ S, 0 ≤ e ∧ e < 6) → (S.map f).sum = six fun i => if i ∈ S then f i else 0
  | [], _, _ => by simp [six]
  | a :: S, hn, hi => by
    have ih := sum_six f S (List.nodup_cons.mp hn).2 (fun e he => hi e (.tail _ he))
    have ha := (List.nodup_cons.mp hn).1
    rw [List.map_cons, List.sum_cons, ih]
    have key : ∀ i : Int, (if i ∈ a :: S then f i else 0) = (if i = a then f a else 0) + (if i ∈ S then f i else 0) := fun i => by
      by_cases h1 : i = a
      · subst h1; simp [ha]
      · simp [h1]
    simp only [six, key]
    rcases one_of_six (hi a (.head _)) with rfl | rfl | rfl | rfl | rfl | rfl <;> simp <;> omega
theorem sum_const (c : Int) : ∀ S : List Int, (S.map fun _ => c).sum = S.length * c
  | [] => by simp
  | a :: S => by
    rw [List.map_cons, List.sum_cons, sum_const c S, List.length_cons]
    push_cast
    rw [Int.add_mul]; omega
theorem least_of (v : Int → Int) : ∀ (es : List Int), es ≠ [] → ∃ i ∈ es, ∀ j ∈ es, v i ≤ v j
  | [], h => absurd rfl h
  | [a], _ => ⟨a, .head _, fun j hj => by simp only [List.mem_singleton] at hj; subst hj; exact Int.le_refl _⟩
  | a :: b :: r, _ => by
    obtain ⟨i, hi, hm⟩ := least_of v (b :: r) (by simp)
    by_cases h : v a ≤ v i
    · exact ⟨a, .head _, fun j hj => by
        rcases List.mem_cons.mp hj with rfl | hj
        · exact Int.le_refl _
        · exact Int.le_trans h (hm j hj)⟩
    · exact ⟨i, .tail _ hi, fun j hj => by
        rcases List.mem_cons.mp hj with rfl | hj
        · omega
        · exact hm j hj⟩
open Classical in
/-- the k best have the greatest sum -/
theorem top_sum {v : Int → Int} {k : Nat} {es S : List Int} (he : Sel k es) (hS : Sel k S) (hk : 0 < k) (P : Picked v es) : (S.map v).sum ≤ (es.map v).sum := by
  obtain ⟨i0, hi0, hm⟩ := least_of v es (fun e => by have := he.len; rw [e] at this; simp at this; omega)
  have s1 := sum_six v S hS.nd hS.inn
  have s2 := sum_six v es he.nd he.inn
  have s3 := sum_six (fun _ => v i0) S hS.nd hS.inn
  have s4 := sum_six (fun _ => v i0) es he.nd he.inn
  rw [sum_const, hS.len] at s3
  rw [sum_const, he.len] at s4
  have key : ∀ i, 0 ≤ i → i < 6 → (if i ∈ S then v i else 0) - (if i ∈ es then v i else 0) ≤ (if i ∈ S then v i0 else 0) - (if i ∈ es then v i0 else 0) := fun i h0 h6 => by
    by_cases h1 : i ∈ S <;> by_cases h2 : i ∈ es
    · simp [h1, h2]
    · simp only [h1, h2, if_true, if_false]; have := P.best i h0 h6 h2 i0 hi0; omega
    · simp only [h1, h2, if_true, if_false]; have := hm i h2; omega
    · simp [h1, h2]
  have k0 := key 0 (by decide) (by decide)
  have k1 := key 1 (by decide) (by decide)
  have k2 := key 2 (by decide) (by decide)
  have k3 := key 3 (by decide) (by decide)
  have k4 := key 4 (by decide) (by decide)
  have k5 := key 5 (by decide) (by decide)
  simp only [six] at s1 s2 s3 s4
  omega
theorem above_sum (x w : Int → Int) (μ : Int) : ∀ es : List Int, (es.map fun e => w e * (x e - μ)).sum = Nm x w es - μ * Wt w es
  | [] => by simp [Nm, Wt]
  | a :: es => by
    have ih := above_sum x w μ es
    simp only [Nm, Wt, List.map_cons, List.sum_cons] at ih ⊢
    rw [ih, Int.mul_sub, Int.mul_add, Int.mul_comm (w a) (x a), Int.mul_comm (w a) μ]
    omega
open Classical in
theorem wt_le_all {w : Int → Int} {k : Nat} {es : List Int} (he : Sel k es) (hw : ∀ i, 0 ≤ i → i < 6 → 0 < w i) : Wt w es ≤ six w := by
  have s := sum_six w es he.nd he.inn
  have key : ∀ i, 0 ≤ i → i < 6 → (if i ∈ es then w i else 0) ≤ w i := fun i h0 h6 => by
    have := hw i h0 h6
    by_cases h : i ∈ es
    · simp [h]
    · simp only [h, if_false]; omega
  have k0 := key 0 (by decide) (by decide)
  have k1 := key 1 (by decide) (by decide)
  have k2 := key 2 (by decide) (by decide)
  have k3 := key 3 (by decide) (by decide)
  have k4 := key 4 (by decide) (by decide)
  have k5 := key 5 (by decide) (by decide)
  simp only [six] at s ⊢
  show (es.map w).sum ≤ _
  omega
theorem wt_bounds {w : Int → Int} (hw : ∀ i, 0 ≤ i → i < 6 → 1 ≤ w i ∧ w i ≤ 2) : ∀ {es : List Int}, (∀ e ∈ es, 0 ≤ e ∧ e < 6) → (es.length : Int) ≤ Wt w es ∧ Wt w es ≤ 2 * es.length
  | [], _ => by simp [Wt]
  | a :: es, hi => by
    have ih := wt_bounds hw (es := es) fun e he => hi e (.tail _ he)
    have h := hi a (.head _)
    have := hw a h.1 h.2
    simp only [Wt, List.map_cons, List.sum_cons, List.length_cons] at ih ⊢
    push_cast
    omega
theorem pos_of_mul {a b : Int} (hb : 0 < b) (h : 0 ≤ a * b) : 0 ≤ a := by
  rcases Int.lt_or_le a 0 with q | q
  · have := Int.mul_neg_of_neg_of_pos q hb; omega
  · exact q
/-- one round: the mean does not fall; where it stays it is the greatest -/
theorem dk_step {x w : Int → Int} {k : Nat} {C es : List Int} {μ τ : Int} (hw : ∀ i, 0 ≤ i → i < 6 → 1 ≤ w i ∧ w i ≤ 2) (hk : 0 < k) (hC : Sel k C) (he : Sel k es) (P : Picked (fun i => w i * (x i - μ)) es)
    (hμ : Nm x w C = μ * Wt w C) (hτ : Nm x w es = τ * Wt w es) :
    μ ≤ τ ∧ (∀ S, Sel k S → Nm x w S - μ * Wt w S ≤ Nm x w es - μ * Wt w es) ∧ (τ = μ → ∀ S, Sel k S → Nm x w S ≤ μ * Wt w S) := by
  have best : ∀ S, Sel k S → Nm x w S - μ * Wt w S ≤ Nm x w es - μ * Wt w es := fun S hS => by
    rw [← above_sum, ← above_sum]; exact top_sum he hS hk P
  have hpos := (wt_bounds hw he.inn).1
  rw [he.len] at hpos
  refine ⟨?_, best, fun e S hS => ?_⟩
  · have h1 := best C hC
    rw [hμ, hτ] at h1
    have h2 : 0 ≤ (τ - μ) * Wt w es := by rw [Int.sub_mul]; omega
    have := pos_of_mul (by omega) h2
    omega
  · have h1 := best S hS
    rw [hτ, e] at h1
    omega
/-- behind the first round the chosen ones weigh less each time that the mean moves -/
theorem dk_drop {x w : Int → Int} {k : Nat} {C es : List Int} {μ₀ μ τ : Int} (hpos : 0 < Wt w es) (he : Sel k es) (best : ∀ S, Sel k S → Nm x w S - μ₀ * Wt w S ≤ Nm x w C - μ₀ * Wt w C) (h0 : μ₀ < μ)
    (hμ : Nm x w C = μ * Wt w C) (hτ : Nm x w es = τ * Wt w es) (h1 : μ < τ) : Wt w es < Wt w C := by
  rcases Int.lt_or_le (Wt w es) (Wt w C) with q | q
  · exact q
  exfalso
  have b := best es he
  rw [hμ, hτ] at b
  have e1 : (μ - μ₀) * Wt w C ≤ (μ - μ₀) * Wt w es := Int.mul_le_mul_of_nonneg_left q (by omega)
  have e2 : 0 < (τ - μ) * Wt w es := Int.mul_pos (by omega) hpos
  rw [Int.sub_mul, Int.sub_mul] at e1
  rw [Int.sub_mul] at e2
  omega
end Mine
end

section
namespace Mine
def xf (xs : List Int) : Int → Int := fun e => xs.getD e.toNat 0
theorem pick_xf (xs es : List Int) : pick xs es = es.map (xf xs) := rfl
theorem dot_Nm (xs ws : List Int) : ∀ es : List Int, dot (pick xs es) (pick ws es) = Nm (xf xs) (xf ws) es
  | [] => by simp [pick, dot, Nm]
  | a :: es => by
    have ih := dot_Nm xs ws es
    simp only [pick, Nm, List.map_cons, dot, List.sum_cons] at ih ⊢
    rw [ih]; rfl
theorem sum_Wt (ws es : List Int) : (pick ws es).sum = Wt (xf ws) es := rfl
theorem adot_le {B : Nat} : ∀ (as bs : List Int), (∀ a ∈ as, a.natAbs ≤ B) → (∀ b ∈ bs, b.natAbs ≤ 2) → adot as bs ≤ as.length * (B * 2)
  | [], _, _, _ => by simp [adot]
  | a :: as, [], _, _ => by simp [adot]
  | a :: as, b :: bs, ha, hb => by
    have ih := adot_le as bs (fun c hc => ha c (.tail _ hc)) (fun c hc => hb c (.tail _ hc))
    have h1 : (a * b).natAbs ≤ B * 2 := by rw [Int.natAbs_mul]; exact Nat.mul_le_mul (ha a (.head _)) (hb b (.head _))
    simp only [adot, List.length_cons]
    rw [Nat.add_mul, Nat.one_mul]; omega
theorem dot_le_adot : ∀ as bs : List Int, (dot as bs).natAbs ≤ adot as bs
  | [], _ => by simp [dot]
  | _ :: _, [] => by simp [dot]
  | a :: as, b :: bs => by
    have ih := dot_le_adot as bs
    simp only [dot, adot]
    omega
/-- what the weights and the worths are: six of each, 1 or 2, and whole sixties -/
structure Six (xs ws : List Int) : Prop where
  lx : xs.length = 6
  lw : ws.length = 6
  wt : ∀ i, 0 ≤ i → i < 6 → 1 ≤ xf ws i ∧ xf ws i ≤ 2
  sixty : ∀ i, 0 ≤ i → i < 6 → ∃ y, xf xs i = 60 * y
  small : ∀ i, 0 ≤ i → i < 6 → (xf xs i).natAbs ≤ 2 ^ 37
/-- what _law_mean asks of the chosen ones -/
structure MeanOk (xs ws es : List Int) (q : Int) : Prop where
  b1 : ∀ n ∈ pick xs es, n.natAbs < 2 ^ 40
  b2 : ∀ n ∈ pick ws es, 0 < n ∧ n < 2 ^ 20
  ba : adot (pick xs es) (pick ws es) < 2 ^ 62
  hq : dot (pick xs es) (pick ws es) = q * (pick ws es).sum
  hqb : q.natAbs ≤ 2 ^ 37
  hdb : (dot (pick xs es) (pick ws es)).natAbs < 2 ^ 53
theorem nm_bounds {x w : Int → Int} {B : Int} (hw : ∀ i, 0 ≤ i → i < 6 → 1 ≤ w i ∧ w i ≤ 2) (hx : ∀ i, 0 ≤ i → i < 6 → -B ≤ x i ∧ x i ≤ B) : ∀ {es : List Int}, (∀ e ∈ es, 0 ≤ e ∧ e < 6) → -(B * Wt w es) ≤ Nm x w es ∧ Nm x w es ≤ B * Wt w es
  | [], _ => by simp [Wt, Nm]
  | a :: es, hi => by
    have ih := nm_bounds hw hx (es := es) fun e he => hi e (.tail _ he)
    have h := hi a (.head _)
    have h1 := hw a h.1 h.2
    have h2 := hx a h.1 h.2
    simp only [Wt, Nm, List.map_cons, List.sum_cons] at ih ⊢
    rw [Int.mul_add]
    have e1 : x a * w a ≤ B * w a := Int.mul_le_mul_of_nonneg_right h2.2 (by omega)
    have e2 : (-B) * w a ≤ x a * w a := Int.mul_le_mul_of_nonneg_right h2.1 (by omega)
    rw [Int.neg_mul] at e2
    omega
theorem nm_sixty {x w : Int → Int} (hx : ∀ i, 0 ≤ i → i < 6 → ∃ y, x i = 60 * y) : ∀ {es : List Int}, (∀ e ∈ es, 0 ≤ e ∧ e < 6) → ∃ z, Nm x w es = 60 * z
  | [], _ => ⟨0, by simp [Nm]⟩
  | a :: es, hi => by
    obtain ⟨z, hz⟩ := nm_sixty hx (es := es) fun e he => hi e (.tail _ he)
    have h := hi a (.head _)
    obtain ⟨y, hy⟩ := hx a h.1 h.2
    refine ⟨y * w a + z, ?_⟩
    simp only [Nm, List.map_cons, List.sum_cons] at hz ⊢
    rw [hz, hy, Int.mul_add, Int.mul_assoc]
theorem mean_ok {xs ws es : List Int} {k : Nat} (Z : Six xs ws) (he : Sel k es) (hk : 0 < k) (hk3 : k ≤ 3) : ∃ q, MeanOk xs ws es q := by
  have wb := wt_bounds Z.wt he.inn
  rw [he.len] at wb
  obtain ⟨z, hz⟩ := nm_sixty (w := xf ws) Z.sixty he.inn
  have hW : 1 ≤ Wt (xf ws) es ∧ Wt (xf ws) es ≤ 6 := by omega
  obtain ⟨q, hq⟩ : ∃ q, Nm (xf xs) (xf ws) es = q * Wt (xf ws) es := by
    rw [hz]
    generalize Wt (xf ws) es = W at hW
    have : W = 1 ∨ W = 2 ∨ W = 3 ∨ W = 4 ∨ W = 5 ∨ W = 6 := by omega
    rcases this with rfl | rfl | rfl | rfl | rfl | rfl
    · exact ⟨60 * z, by omega⟩
    · exact ⟨30 * z, by omega⟩
    · exact ⟨20 * z, by omega⟩
    · exact ⟨15 * z, by omega⟩
    · exact ⟨12 * z, by omega⟩
    · exact ⟨10 * z, by omega⟩
  have hx1 : ∀ n ∈ pick xs es, n.natAbs ≤ 2 ^ 37 := fun n hn => by
    obtain ⟨e, h, rfl⟩ := List.mem_map.mp hn
    exact Z.small e (he.inn e h).1 (he.inn e h).2
  have hw1 : ∀ n ∈ pick ws es, 1 ≤ n ∧ n ≤ 2 := fun n hn => by
    obtain ⟨e, h, rfl⟩ := List.mem_map.mp hn
    exact Z.wt e (he.inn e h).1 (he.inn e h).2
  have had := adot_le (B := 2 ^ 37) (pick xs es) (pick ws es) hx1 (fun b hb => by have := hw1 b hb; omega)
  have hl : (pick xs es).length = k := by rw [pick_xf, List.length_map, he.len]
  rw [hl] at had
  have had2 : adot (pick xs es) (pick ws es) ≤ 3 * (2 ^ 37 * 2) := Nat.le_trans had (Nat.mul_le_mul_right _ hk3)
  have hd := dot_le_adot (pick xs es) (pick ws es)
  refine ⟨q, fun n hn => by have := hx1 n hn; omega, fun n hn => by have := hw1 n hn; omega, by omega, ?_, ?_, by omega⟩
  · rw [dot_Nm, sum_Wt]; exact hq
  · have nb := nm_bounds (x := xf xs) (B := 2 ^ 37) Z.wt (fun i h0 h6 => by have := Z.small i h0 h6; omega) he.inn
    rw [hq] at nb
    have q1 : q ≤ 2 ^ 37 := Int.le_of_mul_le_mul_right nb.2 (by omega)
    have q2 : -(2 ^ 37) ≤ q := by
      have : (-(2 ^ 37)) * Wt (xf ws) es ≤ q * Wt (xf ws) es := by rw [Int.neg_mul]; exact nb.1
      exact Int.le_of_mul_le_mul_right this (by omega)
    omega
theorem MeanOk.nm {xs ws es : List Int} {q : Int} (M : MeanOk xs ws es q) : Nm (xf xs) (xf ws) es = q * Wt (xf ws) es := by rw [← dot_Nm, ← sum_Wt]; exact M.hq
theorem mean_uniq {xs ws es : List Int} {q r : Int} (h1 : Nm (xf xs) (xf ws) es = q * Wt (xf ws) es) (h2 : Nm (xf xs) (xf ws) es = r * Wt (xf ws) es) (hp : 0 < Wt (xf ws) es) : q = r :=
  Int.eq_of_mul_eq_mul_right (by omega) (h1.symm.trans h2)
end Mine
end

section
namespace Mine
def Best (up : Bool) (k : Nat) (xs ws : List Int) (M : Int) : Prop :=
  (∃ S, Sel k S ∧ Nm (xf xs) (xf ws) S = M * Wt (xf ws) S) ∧ ∀ S, Sel k S → if up = true then Nm (xf xs) (xf ws) S ≤ M * Wt (xf ws) S else M * Wt (xf ws) S ≤ Nm (xf xs) (xf ws) S
/-- turned round for nsmallest -/
def sg (up : Bool) (a : Int) : Int := if up = true then a else -a
theorem Nm_neg (x w : Int → Int) : ∀ es : List Int, Nm (fun i => - x i) w es = - Nm x w es
  | [] => by simp [Nm]
  | a :: es => by
    have ih := Nm_neg x w es
    simp only [Nm, List.map_cons, List.sum_cons] at ih ⊢
    rw [ih, Int.neg_mul]; omega
theorem Nm_sg (up : Bool) (x w : Int → Int) (es : List Int) : Nm (fun i => sg up (x i)) w es = sg up (Nm x w es) := by
  cases up
  · exact Nm_neg x w es
  · rfl
theorem sg_mul (up : Bool) (a b : Int) : sg up a * b = sg up (a * b) := by
  cases up
  · show -a * b = -(a * b); rw [Int.neg_mul]
  · rfl
theorem sg_inj {up : Bool} {a b : Int} (h : sg up a = sg up b) : a = b := by
  cases up
  · have : -a = -b := h; omega
  · exact h
theorem sg_above (up : Bool) (w x μ : Int) : sg up (w * (x - μ)) = w * (sg up x - sg up μ) := by
  cases up
  · show -(w * (x - μ)) = w * (-x - -μ)
    rw [← Int.mul_neg]; congr 1; omega
  · rfl
/-- what holds ahead of each round -/
structure LI (up : Bool) (k : Nat) (xs ws : List Int) (j : Nat) (μ ld : Int) : Prop where
  ex : ∃ C, Sel k C ∧ Nm (xf xs) (xf ws) C = μ * Wt (xf ws) C ∧
    ((j = 0 ∧ ld = six (xf ws) + 1) ∨ (1 ≤ j ∧ ld = Wt (xf ws) C ∧ Wt (xf ws) C + j ≤ 2 * k + 1 ∧ ∃ μ₀, μ₀ < sg up μ ∧ ∀ S, Sel k S → Nm (fun i => sg up (xf xs i)) (xf ws) S - μ₀ * Wt (xf ws) S ≤ Nm (fun i => sg up (xf xs i)) (xf ws) C - μ₀ * Wt (xf ws) C))
theorem LI.bound {up : Bool} {k : Nat} {xs ws : List Int} {j : Nat} {μ ld : Int} (Z : Six xs ws) (h : LI up k xs ws j μ ld) : j ≤ k + 1 := by
  obtain ⟨C, hC, hμ, h⟩ := h.ex
  have wb := wt_bounds Z.wt hC.inn
  rw [hC.len] at wb
  rcases h with ⟨rfl, _⟩ | ⟨h1, h2, h3, _⟩ <;> omega
theorem LI.turn {up : Bool} {k : Nat} {xs ws : List Int} {j : Nat} {μ ld τ : Int} {es : List Int} (Z : Six xs ws) (hk : 0 < k) (h : LI up k xs ws j μ ld) (he : Sel k es)
    (P : Picked (fun i => sg up (xf ws i * (xf xs i - μ))) es) (hτ : Nm (xf xs) (xf ws) es = τ * Wt (xf ws) es) :
    (τ = μ → Best up k xs ws μ) ∧ (τ ≠ μ → sg up μ < sg up τ ∧ Wt (xf ws) es < ld ∧ LI up k xs ws (j + 1) τ (Wt (xf ws) es)) := by
  obtain ⟨C, hC, hμ, h⟩ := h.ex
  have P' : Picked (fun i => xf ws i * (sg up (xf xs i) - sg up μ)) es := by
    have e : (fun i => sg up (xf ws i * (xf xs i - μ))) = fun i => xf ws i * (sg up (xf xs i) - sg up μ) := funext fun i => sg_above up _ _ _
    rw [← e]; exact P
  have hμ' : Nm (fun i => sg up (xf xs i)) (xf ws) C = sg up μ * Wt (xf ws) C := by rw [Nm_sg, sg_mul, hμ]
  have hτ' : Nm (fun i => sg up (xf xs i)) (xf ws) es = sg up τ * Wt (xf ws) es := by rw [Nm_sg, sg_mul, hτ]
  obtain ⟨s1, s2, s3⟩ := dk_step (x := fun i => sg up (xf xs i)) (w := xf ws) Z.wt hk hC he P' hμ' hτ'
  have wb := wt_bounds Z.wt he.inn
  rw [he.len] at wb
  constructor
  · intro e
    subst e
    refine ⟨⟨es, he, hτ⟩, fun S hS => ?_⟩
    have := s3 rfl S hS
    rw [Nm_sg, sg_mul] at this
    cases up
    · have t : -(Nm (xf xs) (xf ws) S) ≤ -(τ * Wt (xf ws) S) := this
      simp only [Bool.false_eq_true, if_false]; omega
    · simpa [sg] using this
  · intro e
    have hlt : sg up μ < sg up τ := by
      rcases Int.lt_or_eq_of_le s1 with q | q
      · exact q
      · exact absurd (sg_inj q).symm e
    have hdrop : Wt (xf ws) es < ld ∧ Wt (xf ws) es + (j + 1 : Nat) ≤ 2 * k + 1 := by
      rcases h with ⟨rfl, rfl⟩ | ⟨h1, rfl, h3, μ₀, h4, h5⟩
      · have := wt_le_all he (w := xf ws) (fun i a b => by have := Z.wt i a b; omega)
        push_cast
        omega
      · have := dk_drop (x := fun i => sg up (xf xs i)) (w := xf ws) (by omega) he h5 h4 hμ' hτ' hlt
        push_cast
        omega
    refine ⟨hlt, hdrop.1, ⟨es, he, hτ, .inr ⟨by omega, rfl, hdrop.2, sg up μ, hlt, s2⟩⟩⟩
theorem LI.start {up : Bool} {k : Nat} {xs ws : List Int} {μ : Int} {C : List Int} (hC : Sel k C) (hμ : Nm (xf xs) (xf ws) C = μ * Wt (xf ws) C) : LI up k xs ws 0 μ (six (xf ws) + 1) := ⟨C, hC, hμ, .inl ⟨rfl, rfl⟩⟩
theorem six_sum {ws : List Int} (h : ws.length = 6) : six (xf ws) = ws.sum := by
  match ws, h with
  | [a, b, c, d, e, f], _ => simp [six, xf]; omega
/-- what sorted gives, and what the six things within are -/
theorem sorted_is {es ns : List Int} {k : Nat} (he : Sel k es) (hp : ns.Perm es) (ho : ns.Pairwise (· ≤ ·)) : ns = ((List.range 6).map fun i : Nat => (i : Int)).filter fun i => es.any (· == i) := by
  refine List.Perm.eq_of_pairwise (le := (· ≤ ·)) (fun a b _ _ h1 h2 => Int.le_antisymm h1 h2) ho ?_ ?_
  · refine List.Pairwise.filter _ ?_
    decide
  · refine hp.trans ((List.perm_ext_iff_of_nodup he.nd ?_).mpr fun a => ?_)
    · exact List.Pairwise.filter _ (show List.Nodup _ by decide)
    · simp only [List.mem_filter, List.any_eq_true, beq_iff_eq, exists_eq_right]
      constructor
      · intro h
        refine ⟨?_, h⟩
        have := he.inn a h
        exact List.mem_map.mpr ⟨a.toNat, by simp; omega, by omega⟩
      · exact fun h => h.2
theorem sel_of {v : Int → Int} {es : List Int} {k : Nat} (P : Picked v es) (h : es.length = k) : Sel k es := ⟨h, P.apart, P.inn⟩
theorem sel_range {k : Nat} (hk : k ≤ 6) : Sel k ((List.range k).map fun i : Nat => (i : Int)) := by
  refine ⟨by simp, ?_, fun e he => ?_⟩
  · exact (List.nodup_range).map _ fun a b h q => h (by omega)
  · obtain ⟨i, hi, rfl⟩ := List.mem_map.mp he
    have := List.mem_range.mp hi
    omega
end Mine
end

section
open PySem PySem.W PySem.Spec PySem.Calls PyProof.Rows
set_option maxRecDepth 100000
namespace Mine
section
variable {w : World} {A : Around} {E : Value → Shared → Prop} {s : Shared} {env : Env} {g : Heap} {L : Addr} {m : Str → Option Value} {news : List (Addr × Obj)} {p : Program} {loose : List Str} {mean : ExcName → Option Value} {mg mb : Str → Option Value}
/-- range(e) -/
theorem range_eval {pl pc : Pos} {e : Expr} {n : Int} {t : Tok} {Q : Value → Shared → Prop} (X : (Mine.hd.heap_39 w.params).In g) (T : Top p loose mean mg mb g) (kp : Keeps g s.heap)
    (hg : env.globals = mainGlobals) (hb : env.builtins = builtinsNs) (hk : env.scope.kind = .function) (hx : env.kindOf (Str.ofString "range") = some .globalImplicit) (hst : backTo pc (starEach [e] env) = [(false, eval e env)])
    (he : ∀ Q' : Value → Shared → Prop, (∀ tk, Q' (.int n t) { s with toks := tk }) → wpAny (model PySem.Challenge.rw_op0141_01.row.prog w) A (eval e env) Q' E s)
    (h : ∀ r h' tk' t' u' v', IsRange h' r 0 n 1 t' u' v' → Keeps s.heap h' → @LE.le Nat _ s.heap.objs.size r → Q (.ref r) { s with heap := h', toks := tk' }) :
    wpAny (model PySem.Challenge.rw_op0141_01.row.prog w) A (eval (.Call (.Name (Str.ofString "range") pl) [e] [] pc) env) Q E s := by
  refine Call_Name hst ?_
  revert X; k_fill; intro X
  refine name_bi X T kp (by k_is) PyProof.Rows.boot_range (by decide) ?_ hg hb hk hx (by decide)
  refine PySem.callWith_type rfl (Calls.evalArgs_plain (Calls.spliced_cons (he _ fun tk => Calls.spliced_nil ?_)))
  show wpAny _ A (call (.type "range") [.int n t]) Q E _
  refine call_range_1 ?_
  exact h _ _ _ _ _ _ (Heap.get?_push_size _ rfl) (fun b o e => Heap.get?_push_of_some _ e) (Nat.le_refl _)
end
theorem p1023 : (2 : Nat) ^ 40 ≤ 2 ^ 1023 := by decide +kernel
/-- the floats above, told: their values, their tokens apart -/
structure AbvOk (fs : List (UInt64 × Tok)) (v : Int → Int) (t : Nat) : Prop where
  is : ∀ i : Nat, (h : i < fs.length) → IsI fs[i].1 (v (i : Int))
  lo : ∀ f ∈ fs, 0 < f.2 ∧ f.2 < t
  ap : (fs.map (·.2)).Pairwise (@LT.lt Nat _)
abbrev flv (f : UInt64 × Tok) : Value := .float f.1 f.2
theorem AbvOk.mono {fs : List (UInt64 × Tok)} {v : Int → Int} {t t' : Nat} (h : AbvOk fs v t) (q : t ≤ t') : AbvOk fs v t' := ⟨h.is, fun f hf => ⟨(h.lo f hf).1, Nat.lt_of_lt_of_le (h.lo f hf).2 q⟩, h.ap⟩
theorem AbvOk.nil {v : Int → Int} {t : Nat} : AbvOk [] v t := ⟨fun i h => absurd h (Nat.not_lt_zero _), (fun f hf => by cases hf), List.Pairwise.nil⟩
theorem AbvOk.snoc {fs : List (UInt64 × Tok)} {v : Int → Int} {t t2 : Nat} {x : UInt64} {tx : Tok} (h : AbvOk fs v t) (hx : IsI x (v (fs.length : Nat))) (h0 : 0 < tx) (h1 : t ≤ tx) (h2 : tx < t2) : AbvOk (fs ++ [(x, tx)]) v t2 := by
  refine ⟨fun i hi => ?_, fun f hf => ?_, ?_⟩
  · by_cases q : i < fs.length
    · rw [List.getElem_append_left q]; exact h.is i q
    · have : i = fs.length := by rw [List.length_append] at hi; simp at hi; omega
      subst this
      simpa using hx
  · rcases List.mem_append.mp hf with hf | hf
    · exact ⟨(h.lo f hf).1, Nat.lt_of_lt_of_le (h.lo f hf).2 (Nat.le_trans h1 (Nat.le_of_lt h2))⟩
    · simp only [List.mem_singleton] at hf; subst hf; exact ⟨h0, h2⟩
  · rw [List.map_append, List.pairwise_append]
    refine ⟨h.ap, by simp, fun a ha b hb => ?_⟩
    obtain ⟨f, hf, rfl⟩ := List.mem_map.mp ha
    simp at hb
    subst hb
    exact Nat.lt_of_lt_of_le (h.lo f hf).2 h1
section
variable {w : World} {A : Around} {E : Value → Shared → Prop} {s : Shared} {env : Env} {g : Heap} {L : Addr} {m : Str → Option Value} {news : List (Addr × Obj)}
theorem abv_lc {wN xN mN iN : Str} {p1 p2 p3 p4 p5 p6 p7 p8 p9 px pos : Pos} {iter : Expr} {scope : Scope} {cl : List (Str × Addr)} {Q : Value → Shared → Prop} {bw bx : Addr} {vs us : List Value} {ws xs : List Int} {μb : UInt64} {tμ : Tok} {μ : Int}
    (hh : A.handled = none)
    (hclos : closureFor scope env = pure cl) (hcell : ∀ y ∈ scope.names, y.2 ≠ .cell) (hkind : scope.kind = .function)
    (hnames : ∀ y ∈ scope.names, y.2 = .local → scope.names.lookup y.1 = some .local) (hs : ∀ x, foldedSetIterable iter env x = pure x)
    (hx : ∀ C, (compEnvC scope cl C env).kindOf iN = some .local) (hb : (iN == Str.ofString "__debug__") = false)
    (F : Fr g L s.heap m)
    (hwN : ∀ C (s₃ : Shared) (Q' : Value → Shared → Prop) pn, (∀ b o, s.heap.get? b = some o → s₃.heap.get? b = some o) → Q' (.ref bw) s₃ → wpAny (model PySem.Challenge.rw_op0141_01.row.prog w) A (eval (.Name wN pn) (compEnvC scope cl C env)) Q' (fun _ _ => False) s₃)
    (hxN : ∀ C (s₃ : Shared) (Q' : Value → Shared → Prop) pn, (∀ b o, s.heap.get? b = some o → s₃.heap.get? b = some o) → Q' (.ref bx) s₃ → wpAny (model PySem.Challenge.rw_op0141_01.row.prog w) A (eval (.Name xN pn) (compEnvC scope cl C env)) Q' (fun _ _ => False) s₃)
    (hmN : ∀ C (s₃ : Shared) (Q' : Value → Shared → Prop) pn, (∀ b o, s.heap.get? b = some o → s₃.heap.get? b = some o) → Q' (.float μb tμ) s₃ → wpAny (model PySem.Challenge.rw_op0141_01.row.prog w) A (eval (.Name mN pn) (compEnvC scope cl C env)) Q' (fun _ _ => False) s₃)
    (hlw : s.heap.IsList bw vs.toArray) (aw : IntsAre vs ws) (hlx : s.heap.IsList bx us.toArray) (ax : IntsAre us xs) (lw : ws.length = 6) (lx : xs.length = 6) (hμ : IsI μb μ) (hμb : μ.natAbs ≤ 2 ^ 37) (bW : ∀ i : Int, 0 ≤ i → i < 6 → (ws.getD i.toNat 0).natAbs ≤ 2) (bX : ∀ i : Int, 0 ≤ i → i < 6 → (xs.getD i.toNat 0).natAbs ≤ 2 ^ 37)
    (hiter : ∀ Q' : Value → Shared → Prop, (∀ r h' tk' t' u' v', IsRange h' r 0 6 1 t' u' v' → Keeps s.heap h' → Fr g L h' m → News g L h' news → Q' (.ref r) { s with heap := h', toks := tk' }) → wpAny (model PySem.Challenge.rw_op0141_01.row.prog w) A (eval iter env) Q' E s)
    (h : ∀ D h' tk' fs n', fs.length = 6 → AbvOk fs (fun i => ws.getD i.toNat 0 * (xs.getD i.toNat 0 - μ)) tk' → Fr g L h' m → News g L h' ((D, lsto (fs.map flv) n') :: news) → (∀ q ∈ news, @LT.lt Nat _ q.1 D) → Q (.ref D) { s with heap := h', toks := tk' }) :
    wpAny (model PySem.Challenge.rw_op0141_01.row.prog w) A (eval (.ListComp (.BinOp (.Subscript (.Name wN p1) (.Name iN p2) p3) .Mult (.BinOp (.Subscript (.Name xN p4) (.Name iN p5) p6) .Sub (.Name mN p7) p8) p9) [⟨.Name iN px, iter, [], 0⟩] scope pos) env) Q E s := by
  refine lcj (fun j ys os t => ∃ fs : List (UInt64 × Tok), os = [] ∧ ys = fs.map flv ∧ fs.length = j ∧ AbvOk fs (fun i => ws.getD i.toNat 0 * (xs.getD i.toNat 0 - μ)) t) F hclos hcell hkind hnames hs hx (hiter _ fun r h1 tk1 t1 u1 v1 hr k1 F1 N1 => ?_)
  refine srcJ_range (n := 6) hh F1 N1 hr (by decide +kernel) ⟨fun _ _ _ _ _ ⟨fs, a, b, c, d⟩ q => ⟨fs, a, b, c, d.mono q⟩, fun t => ⟨[], rfl, rfl, rfl, .nil⟩, ?_⟩ ?_
  · intro C j v ys os s₃ m₃ hj hP hJ hn hm hkp hos
    obtain ⟨tj, rfl⟩ := hP
    obtain ⟨fs, rfl, rfl, hlen, hok⟩ := hJ
    have k3 : Keeps s.heap s₃.heap := fun b o e => hkp _ _ (k1 _ _ e)
    have hi : ∀ (s₄ : Shared) (pn : Pos) (Q' : Value → Shared → Prop), s₄.heap.Ns C m₃ → Q' (.int (j : Nat) tj) s₄ → wpAny (model PySem.Challenge.rw_op0141_01.row.prog w) A (eval (.Name iN pn) (compEnvC scope cl C env)) Q' (fun _ _ => False) s₄ := fun s₄ pn Q' h4 hq =>
      wpAny_Name (wpAny_loadName_local hkind (hx C) h4 hm hq) hb
    have bw := bW (j : Nat) (by omega) (by omega)
    have bx := bX (j : Nat) (by omega) (by omega)
    refine tests_none ⟨keeps_refl _, ?_⟩
    simp only [if_true]
    refine wpAny_BinOp (item_at (hlw.at fun o e => k3 _ _ e) aw (by omega) (by omega) (by omega) (fun Q' hq => hwN C s₃ Q' _ k3 hq) (fun Q' hq => hi _ _ _ hn hq) fun tw => ?_)
    refine wpAny_BinOp (item_at (hlx.at fun o e => k3 _ _ e) ax (by omega) (by omega) (by omega) (fun Q' hq => hxN C s₃ Q' _ k3 hq) (fun Q' hq => hi _ _ _ hn hq) fun tx => ?_)
    refine hmN C s₃ _ _ k3 ?_
    refine sub_if_fits (Nat.lt_of_lt_of_le (m := 2 ^ 40) (by omega) p1023) ?_
    refine mul_if_fits (Nat.lt_of_lt_of_le (m := 2 ^ 40) (by omega) p1023) ?_
    have hsub : IsI (Float64.sub (Float64.ofInt (xs.getD (j : Int).toNat 0)) μb) (xs.getD (j : Int).toNat 0 - μ) := IsI_sub (IsI_ofInt (by omega)) hμ (by omega)
    have hmulb : (ws.getD (j : Int).toNat 0 * (xs.getD (j : Int).toNat 0 - μ)).natAbs ≤ 2 * 2 ^ 38 := by
      rw [Int.natAbs_mul]; exact Nat.mul_le_mul bw (by omega)
    have hmul := IsI_mul (IsI_ofInt (n := ws.getD (j : Int).toNat 0) (by omega)) hsub (by omega)
    refine ⟨⟨_, _, rfl, fun b o e => e⟩, by rw [List.length_map]; omega, [], ⟨fs ++ [(Float64.mul (Float64.ofInt (ws.getD (j : Int).toNat 0)) (Float64.sub (Float64.ofInt (xs.getD (j : Int).toNat 0)) μb), s₃.toks + 1)], rfl, by simp, by simp [hlen], hok.snoc (by rw [hlen]; exact hmul) (Nat.succ_pos _) (Nat.le_succ _) (Nat.lt_succ_self _)⟩, fun p hp => by cases hp⟩
  · intro D h' tk' ys os n' hJ F' N' l1 l2
    obtain ⟨fs, rfl, rfl, hlen, hok⟩ := hJ
    exact h D h' tk' fs n' hlen hok F' N' l1
end
end Mine
end

section
open PySem PySem.W PySem.Spec PySem.Calls PyProof.Rows
set_option maxRecDepth 100000
namespace Mine
abbrev lamP (pa : Pos) : Arguments := { posonlyargs := [], args := [{ arg := Str.ofString "i", annotation := none, pos := pa }], vararg := none, kwonlyargs := [], kw_defaults := [], kwarg := none, defaults := [] }
abbrev lamB (p1 p2 p3 : Pos) : Expr := .Subscript (.Name (Str.ofString "above") p1) (.Name (Str.ofString "i") p2) p3
abbrev lamS : Scope := { kind := .function, names := [(Str.ofString "i", .local), (Str.ofString "above", .free)], isGenerator := false, isCoroutine := false, more := [] }
abbrev fx (fs : List (UInt64 × Tok)) : Int → UInt64 := fun i => (fs.getD i.toNat (0, 0)).1
abbrev ft (fs : List (UInt64 × Tok)) : Int → Tok := fun i => (fs.getD i.toNat (0, 0)).2
theorem lam_key {w : World} {g : Heap} {f c' D ca : Addr} {qual : Str} {pa p1 p2 p3 : Pos} {clos : List (Str × Addr)} {pm ctv : Value} {oc : Obj} {fs : List (UInt64 × Tok)}
    (hf : g.get? f = some (kla_obj (Str.ofString "<lambda>") qual (lamP pa) (lamB p1 p2 p3) lamS clos pm c' ctv)) (hcode : g.CodeRec (.ref c') qual) (hlim : g.NoLimit) (hclos : clos.lookup (Str.ofString "above") = some ca)
    (hca : g.get? ca = some oc) (hoc : oc.data = .cell (some (.ref D))) (hD : g.IsList D (fs.map flv).toArray) (hlen : fs.length = 6) : KeyCall w g f (fx fs) (ft fs) := by
  refine ⟨⟨_, _, hf, rfl⟩, fun A s i ti Q E hk hd hu h0 h6 hq => ?_⟩
  refine wpAny_call (kla_callFunE (by omega) (hk _ _ hf) rfl rfl rfl rfl (hcode.keeps hk) ?_)
  refine wpAny_of_eq (a := [(Str.ofString "i", Value.int i ti)]) rfl ?_
  refine wpAny_newFunctionEnv (by show ∀ x ∈ lamS.names, x.2 ≠ NameKind.cell; decide) (by intro y hy; simp only [List.mem_singleton] at hy; subst hy; rfl) (fun h₁ hns hsb => ?_) rfl
  have hk₁ : Keeps s.heap h₁ := fun b o e => hsb.extBut b o (Nat.ne_of_lt (Heap.lt_size e)) (Heap.get?_push_of_some _ e)
  have hkk : Keeps g h₁ := fun b o e => hk₁ _ _ (hk _ _ e)
  refine ⟨hlim.keeps hkk, kla_codeExpr ?_⟩
  have hi : i.toNat < fs.length := by omega
  refine Subscript_ (wpAny_Name (wpAny_loadName_free (c := ca) (v := .ref D) rfl rfl hclos ⟨oc, hkk _ _ hca, hoc⟩ ?_))
  refine wpAny_Name (wpAny_loadName_local (v := .int i ti) rfl rfl hns rfl ?_)
  have hl : Heap.IsList h₁ D (fs.map flv).toArray := hD.at fun o e => hkk _ _ e
  refine tail_any (T := "list") (id := "list.__getitem__") (Heap.IsList.typeIs (s := { s with heap := h₁, toks := _ }) hl) slot_list_getitem.lookup (wpAny_getItem_list (s := { s with heap := h₁, toks := _ }) hl h0 (by omega) (x := flv fs[i.toNat]) (by simp [hi]) ?_) (by with_unfolding_all rfl)
  have := hq h₁ (s.toks + [(Str.ofString "i", Value.int i ti)].length) hk₁
  have e : fs.getD i.toNat (0, 0) = fs[i.toNat] := by simp [hi]
  simp only [fx, ft, e] at this
  exact this
/-- every code in the table is on the heap -/
def CodsOk (g : Heap) (led : List (Addr × Obj)) (qual : Str) (ps : Array Value) : Prop :=
  TriplesOk ps.toList ∧ ∀ pos cv, codeAmong pos ps.toList = some cv → ∃ c' oc vs t, cv = .ref c' ∧ (g.get? c' = some oc ∨ (c', oc) ∈ led) ∧ oc.data = .fields vs ∧ vs[1]? = some (.str qual t)
theorem CodsOk.more {g : Heap} {led led' : List (Addr × Obj)} {qual : Str} {ps : Array Value} (h : CodsOk g led qual ps) (hs : ∀ q ∈ led, q ∈ led') : CodsOk g led' qual ps :=
  ⟨h.1, fun pos cv e => let ⟨c', oc, vs, t, a, b, c, d⟩ := h.2 pos cv e; ⟨c', oc, vs, t, a, b.imp id (hs _), c, d⟩⟩
theorem CodsOk.rec {g h : Heap} {L : Addr} {m : Str → Option Value} {led : List (Addr × Obj)} {qual : Str} {ps : Array Value} {pos : Pos} {cv : Value} (o : CodsOk g led qual ps) (F : Fr g L h m) (N : News g L h led) (e : codeAmong pos ps.toList = some cv) : h.CodeRec cv qual := by
  obtain ⟨c', oc, vs, t, a, b, c, d⟩ := o.2 pos cv e
  refine ⟨c', oc, vs, t, a, ?_, c, d⟩
  rcases b with b | b
  · exact F.keep _ _ b
  · exact N.get b
theorem codeAmong_more {pos pos' : Pos} {c cv : Value} (l : List Value) (h : TriplesOk l) (e : codeAmong pos' (l ++ [rawInt pos.line, rawInt pos.col, c]) = some cv) : codeAmong pos' l = some cv ∨ cv = c := by
  fun_induction TriplesOk l with
  | case1 =>
    simp only [List.nil_append, codeAmong, rawInt] at e
    split at e
    · exact .inr (Option.some.inj e).symm
    · cases e
  | case2 a t b u x rest ih =>
    simp only [List.cons_append, codeAmong] at e ⊢
    split at e
    · rename_i hc; rw [if_pos hc]; exact .inl e
    · rename_i hc; rw [if_neg hc]; exact ih h e
  | case3 l h1 h2 => exact h.elim
section
variable {M : Model} {A : Around} {E : Value → Shared → Prop} {s : Shared} {g : Heap} {L a c P : Addr} {m mg mb : Str → Option Value} {rest cods : List (Addr × Obj)} {p : Program} {loose : List Str} {mean : ExcName → Option Value}
theorem lam_K {cn : Str} {cs : Scope} {cl : List (Str × Addr)} {params : Arguments} {body : Expr} {scope : Scope} {ps : Array Value} {pos : Pos} {clos : List (Str × Addr)} {Q : Value → Shared → Prop} {qual : Str}
    (F : Fr g L s.heap m) (N : News g L s.heap ((P, tabObj ps) :: rest)) (T : Top p loose mean mg mb g) (C : CodeHd g c P) (hsub : ∀ q ∈ cods, q ∈ rest) (hok : CodsOk g cods qual ps) (hne : ∀ q ∈ rest, q.1 ≠ P) (hq : (envX cn cs L a (.ref c) cl).qual ++ "<lambda>" = qual)
    (hdef : defaultsOf params (envX cn cs L a (.ref c) cl) = ([], [])) (hcl : closureFor scope (envX cn cs L a (.ref c) cl) = pure clos)
    (h : ∀ f c' ctv pm ps' new h' tk, Fr g L h' m → News g L h' ((f, kla_obj (Str.ofString "<lambda>") qual params body scope clos pm c' ctv) :: (P, tabObj ps') :: (new ++ rest)) → CodsOk g (new ++ cods) qual ps' → h'.CodeRec (.ref c') qual →
      (∀ q ∈ rest, @LT.lt Nat _ q.1 f) → (∀ n ∈ new, n.1 ≠ P ∧ ∀ q ∈ rest, @LT.lt Nat _ q.1 n.1) → Q (.ref f) { s with heap := h', toks := tk }) :
    wpAny M A (eval (.Lambda params body scope pos) (envX cn cs L a (.ref c) cl)) Q E s := by
  subst hq
  refine kla_eval hdef ?_
  cases hca : codeAmong pos ps.toList with
  | some cv =>
    obtain ⟨c', oc, vs, t, rfl, hw, hd, hv⟩ := hok.2 pos cv hca
    refine kla_hit F N T C rfl (.head _) hok.1 hca hcl fun f ctv h' tk F' N' hlt => ?_
    have hrec := hok.rec F' (fun q hq => N' q (.tail _ (.tail _ (hsub q hq)))) hca
    exact h f c' ctv _ ps [] h' tk F' N' hok hrec (fun q hq => hlt q (.tail _ hq)) (fun n hn => by cases hn)
  | none =>
    refine kla_nest F N T C rfl (.head hne) hok.1 hca hcl fun f c' oc vs t ctv h' tk F' N' hd hv hlt hlf => ?_
    have hlt' : ∀ q ∈ rest, @LT.lt Nat _ q.1 c' := fun q hq => hlt q (.tail _ hq)
    have hP : @LT.lt Nat _ P c' := hlt _ (.head _)
    have hn := (N' (c', oc) (.tail _ (.head _))).2.2
    refine h f c' ctv ((mg "__name__").getD .none) (ps ++ #[rawInt pos.line, rawInt pos.col, .ref c']) [(c', oc)] h' tk F' (fun (q : Addr × Obj) hq => N' q ?_) ⟨?_, fun pos' cv e => ?_⟩ ⟨c', oc, vs, t, rfl, N'.get (.tail _ (.head _)), hd, hv⟩ (fun q hq => Nat.lt_trans (hlt' q hq) hlf) (fun n hn => ?_)
    · simp only [List.mem_cons, List.mem_append, List.not_mem_nil, or_false] at hq ⊢
      rcases hq with h1 | h1 | h1 | h1
      · exact .inl h1
      · exact .inr (.inr (.inl h1))
      · exact .inr (.inl h1)
      · exact .inr (.inr (.inr h1))
    · rw [Array.toList_append]; exact TriplesOk_snoc _ _ _ _ hok.1
    · rw [Array.toList_append] at e
      rcases codeAmong_more _ hok.1 e with e | rfl
      · obtain ⟨c2, oc2, vs2, t2, a, b, d, f⟩ := hok.2 pos' cv e
        exact ⟨c2, oc2, vs2, t2, a, b.imp id (fun q => List.mem_append_right _ q), d, f⟩
      · exact ⟨c', oc, vs, t, rfl, .inr (by simp), hd, hv⟩
    · simp only [List.mem_singleton] at hn
      subst hn
      exact ⟨neN (by dsimp only; omega), hlt'⟩
end
end Mine
end

section
open PySem PySem.W PySem.Spec PySem.Calls PyProof.Rows
set_option maxRecDepth 100000
namespace Mine
section
variable {w : World} {A : Around} {E : Value → Shared → Prop} {s : Shared} {env : Env} {g : Heap} {L : Addr} {m : Str → Option Value} {news : List (Addr × Obj)} {p : Program} {loose : List Str} {mean : ExcName → Option Value} {mg mb : Str → Option Value}
theorem name_glob {K : Frag} {x : Str} {pos : Pos} {v : Value} {Q : Value → Shared → Prop} (X : K.In g) (T : Top p loose mean mg mb g) (kp : Keeps g s.heap) (e : nsIn K mainGlobals x = some (some v)) (h : Q v s)
    (hg : env.globals = mainGlobals) (hk : env.scope.kind = .function) (hx : env.kindOf x = some .globalImplicit) (hd : (x == Str.ofString "__debug__") = false) :
    wpAny (model PySem.Challenge.rw_op0141_01.row.prog w) A (eval (.Name x pos) env) Q E s :=
  Name_function_global hk hx (loadGlobal_global (env := env) (by rw [hg]; exact T.g.keeps kp) (mg_of X T.g e) h) hd
/-- a call of a def of the text's -/
theorem fn_call {K : Frag} {x : Str} {pn pc : Pos} {f : Addr} {oc : Value} {od : Option Addr} {fd : FuncData} {osl : Array (Option Value)} {es : List Expr} {t1 : Sem Value} {trees : List (Bool × Sem Value)} {Q : Value → Shared → Prop} (X : K.In g) (T : Top p loose mean mg mb g) (kp : Keeps g s.heap)
    (e : nsIn K mainGlobals x = some (some (.ref f))) (ho : K.lookup f = some ⟨oc, od, .func fd, osl⟩)
    (hg : env.globals = mainGlobals) (hk : env.scope.kind = .function) (hx : env.kindOf x = some .globalImplicit) (hd : (x == Str.ofString "__debug__") = false) (ht : backTo pc (starEach es env) = (false, t1) :: trees)
    (h : wpAny (model PySem.Challenge.rw_op0141_01.row.prog w) A (spliced ((false, t1) :: trees)) (fun vs s₁ => Keeps g s₁.heap ∧ wpAny (model PySem.Challenge.rw_op0141_01.row.prog w) A (call (.ref f) vs) Q E s₁) E s) :
    wpAny (model PySem.Challenge.rw_op0141_01.row.prog w) A (eval (.Call (.Name x pn) es [] pc) env) Q E s := by
  refine Call_Name ht (name_glob X T kp e ?_ hg hk hx hd)
  exact callWith_function (o := ⟨oc, od, .func fd, osl⟩) (fd := fd) (evalArgs_plain (wpAny_mono h (fun vs s₁ h₁ => ⟨⟨h₁.1 _ _ (X _ _ ho), rfl⟩, h₁.2⟩) fun _ _ x => x))
/-- a call of a built-in function with one argument -/
theorem bi_call1 {K : Frag} {x : Str} {pn pc : Pos} {id : String} {e : Expr} {Q : Value → Shared → Prop} (X : K.In g) (T : Top p loose mean mg mb g) (kp : Keeps g s.heap)
    (hn : nsIn K mainGlobals x = some none) (hv : bootBuiltins x = some (.builtin id)) (hne : x ≠ "__name__")
    (hg : env.globals = mainGlobals) (hb : env.builtins = builtinsNs) (hk : env.scope.kind = .function) (hx : env.kindOf x = some .globalImplicit) (hd : (x == Str.ofString "__debug__") = false) (ht : backTo pc (starEach [e] env) = [(false, eval e env)])
    (h : wpAny (model PySem.Challenge.rw_op0141_01.row.prog w) A (eval e env) (fun v s₁ => wpAny (model PySem.Challenge.rw_op0141_01.row.prog w) A (call (.builtin id) [v]) Q E s₁) E s) :
    wpAny (model PySem.Challenge.rw_op0141_01.row.prog w) A (eval (.Call (.Name x pn) [e] [] pc) env) Q E s := by
  refine Call_Name ht (name_bi X T kp hn hv hne ?_ hg hb hk hx hd)
  exact Calls.callWith_builtin rfl (Calls.evalArgs_plain (Calls.spliced_cons (wpAny_mono h (fun v s₁ h₁ => Calls.spliced_nil h₁) fun _ _ x => x)))
/-- list(range(k)) -/
theorem list_range_eval {p1 p2 p3 pc pd : Pos} {kN : Str} {k : Nat} {t : Tok} {Q : Value → Shared → Prop} (X : (Mine.hd.heap_39 w.params).In g) (T : Top p loose mean mg mb g) (kp : Keeps g s.heap) (hh : A.handled = none) (hk6 : k ≤ 6)
    (hg : env.globals = mainGlobals) (hb : env.builtins = builtinsNs) (hk : env.scope.kind = .function) (hx : env.kindOf (Str.ofString "range") = some .globalImplicit) (hl : env.kindOf (Str.ofString "list") = some .globalImplicit)
    (ht1 : backTo pd (starEach [.Call (.Name (Str.ofString "range") p2) [.Name kN p3] [] pc] env) = [(false, eval (.Call (.Name (Str.ofString "range") p2) [.Name kN p3] [] pc) env)]) (ht2 : backTo pc (starEach [.Name kN p3] env) = [(false, eval (.Name kN p3) env)])
    (he : ∀ Q' : Value → Shared → Prop, (∀ tk, Q' (.int (k : Nat) t) { s with toks := tk }) → wpAny (model PySem.Challenge.rw_op0141_01.row.prog w) A (eval (.Name kN p3) env) Q' E s)
    (h : ∀ D h' tk' cs n', IntsAre cs ((List.range k).map fun i : Nat => (i : Int)) → Keeps s.heap h' → h'.get? D = some (lsto cs n') → s.heap.get? D = none → Q (.ref D) { s with heap := h', toks := tk' }) :
    wpAny (model PySem.Challenge.rw_op0141_01.row.prog w) A (eval (.Call (.Name (Str.ofString "list") p1) [.Call (.Name (Str.ofString "range") p2) [.Name kN p3] [] pc] [] pd) env) Q E s := by
  refine Call_Name ht1 ?_
  revert X; k_fill; intro X
  refine name_bi X T kp (by k_is) PyProof.Rows.boot_list (by decide) ?_ hg hb hk hl (by decide)
  refine PySem.callWith_type rfl (Calls.evalArgs_plain (Calls.spliced_cons ?_))
  refine range_eval X T kp hg hb hk hx ht2 he fun r h1 tk1 t1 u1 v1 hr k1 hr0 => Calls.spliced_nil ?_
  show wpAny _ A (call (.type "list") [.ref r]) Q E { s with heap := h1, toks := tk1 }
  have hsz : Builtin.Range.rangeSize 0 (k : Int) 1 = (k : Nat) := by
    unfold Builtin.Range.rangeSize
    rw [if_pos (by decide)]
    by_cases h0 : (0 : Int) < k
    · rw [if_pos h0]; omega
    · rw [if_neg h0]; omega
  have hsm : Builtin.Range.small 0 (k : Int) 1 = true := by
    have : k = 0 ∨ k = 1 ∨ k = 2 ∨ k = 3 ∨ k = 4 ∨ k = 5 ∨ k = 6 := by omega
    rcases this with rfl | rfl | rfl | rfl | rfl | rfl | rfl <;> decide +kernel
  refine call_list_range (s := { s with heap := h1, toks := tk1 }) hh hr hsm hsz (by omega) fun h2 tk2 acc c hk2 hD hit => ?_
  have hacc : IntsAre acc.toList ((List.range k).map fun i : Nat => (i : Int)) := by
    obtain ⟨hs, hi⟩ := hit
    have key : ∀ (n : Nat) (l : List Value), l.length = n → (∀ (j : Nat) (v : Value), l[j]? = some v → ∃ t : Tok, v = Value.int (0 + (j : Nat) * 1) t) → IntsAre l ((List.range n).map fun i : Nat => (i : Int)) := by
      intro n
      induction n with
      | zero => intro l hl _; rw [List.length_eq_zero_iff.mp hl]; exact .nil
      | succ n ih =>
        intro l hl hv
        have hne : l ≠ [] := fun e => by rw [e] at hl; cases hl
        rw [List.range_succ, List.map_append]
        have e : l = l.dropLast ++ [l.getLast hne] := (List.dropLast_concat_getLast hne).symm
        rw [e]
        refine IntsAre.append (ih _ (by rw [List.length_dropLast, hl]; rfl) fun j v q => hv j v ?_) ?_
        · have : j < l.dropLast.length := (List.getElem?_eq_some_iff.mp q).1
          rw [e, List.getElem?_append_left this]; exact q
        · obtain ⟨t, et⟩ := hv n (l.getLast hne) (by rw [show n = l.length - 1 by omega, ← List.getLast?_eq_getElem?, List.getLast?_eq_some_getLast hne])
          rw [et]
          have e0 : (0 : Int) + (n : Nat) * 1 = (n : Nat) := by omega
          rw [e0]
          exact .cons _ _ .nil
    exact key k acc.toList (by rw [Array.length_toList]; exact hs) fun j v q => hi j v (by simpa using q)
  refine h _ h2 tk2 acc.toList c hacc (fun b o q => hk2 _ _ (k1 _ _ q)) hD ?_
  cases q : s.heap.get? h1.objs.size with
  | none => rfl
  | some o => exact absurd (Heap.lt_size (k1 _ _ q)) (Nat.lt_irrefl _)
end
/-- nlargest or nsmallest, k of 1, 2, 3 -/
theorem pick_c {w : World} {A : Around} {s : Shared} {R : Result → Shared → Prop} {h₀ : Heap} {p : Program} {loose : List Str} {mean : ExcName → Option Value} {mg mb : Str → Option Value}
   {r fl : Addr} {tk t1 t2 t3 : Tok} {x : Int → UInt64} {t : Int → Tok} {v : Int → Int} {up : Bool} {k : Nat} (hk1 : 0 < k) (hk3 : k ≤ 3)
   (X : (Mine.hd.heap_39 w.params).In h₀) (T : Top p loose mean mg mb h₀) (hS : NoShare h₀) (hk : Keeps h₀ s.heap) (hroom : A.depth + 40 < recursionLimit) (hun : A.units + 150 < cLine) (hh : A.handled = none)
   (hr : IsRange s.heap r 0 6 1 t1 t2 t3) (hkey : KeyCall w s.heap fl x t) (hx : ∀ i, 0 ≤ i → i < 6 → IsI (x i) (v i)) (ht : ∀ i, 0 ≤ i → i < 6 → t i ≠ 0) (hd : ∀ i j, 0 ≤ i → i < 6 → 0 ≤ j → j < 6 → t i = t j → v i = v j)
   (hR : PickR s R (fun i => sg up (v i)) k) :
   codeAny (model PySem.Challenge.rw_op0141_01.row.prog w) A (.call (.ref (if up = true then 110 else 104)) ⟨[.int (k : Nat) tk, .ref r], [(Str.ofString "key", .ref fl)]⟩) R s := by
  have : k = 1 ∨ k = 2 ∨ k = 3 := by omega
  cases up <;> rcases this with rfl | rfl | rfl
  · exact nsmallest1 X T hS hk hroom hun hh hr hkey hx ht hd hR
  · exact nsmallest2 X T hS hk hroom hun hh hr hkey hx ht hd hR
  · exact nsmallest3 X T hS hk hroom hun hh hr hkey hx ht hd hR
  · exact nlargest1 X T hS hk hroom hun hh hr hkey hx ht hd hR
  · exact nlargest2 X T hS hk hroom hun hh hr hkey hx ht hd hR
  · exact nlargest3 X T hS hk hroom hun hh hr hkey hx ht hd hR
section
variable {prog : Program} {w : World} {A : Around} {E : Value → Shared → Prop} {s : Shared} {env : Env} {g : Heap} {L : Addr} {m : Str → Option Value} {news : List (Addr × Obj)}
theorem store_cell_K {name : Str} {c : Addr} {v₀ : Option Value} {v : Value} {pre post : List (Addr × Obj)} {o : Obj} {Q : Unit → Shared → Prop} (F : Fr g L s.heap m) (N : News g L s.heap (pre ++ (c, o) :: post))
    (hk : env.scope.kind = .function) (hl : env.kindOf name = some .cell) (hc : env.cells.lookup name = some c) (hd : o.data = .cell v₀) (h1 : ∀ q ∈ pre, q.1 ≠ c) (h2 : ∀ q ∈ post, q.1 ≠ c)
    (h : ∀ h' o', Fr g L h' m → News g L h' (pre ++ (c, o') :: post) → o'.data = .cell (some v) → Q () { s with heap := h' }) : wpAny (model prog w) A (storeName env name v) Q E s := by
  refine wpAny_storeName_cell hk hl hc ⟨o, N.get (by k_mem), hd⟩ fun h' hc' hs => ?_
  obtain ⟨o', e', d'⟩ := hc'
  obtain ⟨F', N'⟩ := led_set F N (fun b x e ne => hs.extBut _ _ ne e) e' h1 h2
  exact h h' o' F' N' d'
theorem store_loc_K {name : Str} {v : Value} {Q : Unit → Shared → Prop} (F : Fr g L s.heap m) (N : News g L s.heap news) (hL : env.locals = L) (hk : env.scope.kind = .function) (hl : env.kindOf name = some .local)
    (h : ∀ h' tk', Fr g L h' (fun y => if y = name then some v else m y) → News g L h' news → Q () { s with heap := h', toks := tk' }) : wpAny (model prog w) A (storeName env name v) Q E s := by
  have hp : (env.scope.kind == .class || (env.scope.kind == .module && env.locals != env.globals)) = false := by rw [hk]; rfl
  refine wpAny_storeName_local hl (hL ▸ F.ns) (fun h' hn hs => ?_) hp
  subst hL
  exact h h' _ (F.set hn hs) (N.set hs)
theorem isL_N {h : Heap} {D : Addr} {cs : List Value} {n : Nat} (N : News g L h news) (hm : (D, lsto cs n) ∈ news) : h.IsList D cs.toArray := ⟨_, N.get hm, rfl, _, rfl⟩
theorem led_add {h h' : Heap} {D : Addr} {o : Obj} (F : Fr g L h m) (N : News g L h news) (k : Keeps h h') (hD : h'.get? D = some o) (h0 : h.get? D = none) : Fr g L h' m ∧ News g L h' ((D, o) :: news) ∧ ∀ q ∈ news, @Ne Nat q.1 D := by
  obtain ⟨F', N'⟩ := led_keeps F N k
  refine ⟨F', fun p hp => ?_, fun q hq e => ?_⟩
  · rcases List.mem_cons.mp hp with rfl | hp
    · refine ⟨hD, fun e => ?_, ?_⟩
      · obtain ⟨oL, _, _, hL, _⟩ := F.ns
        dsimp only at e
        rw [e, hL] at h0; cases h0
      · cases q : g.get? D with
        | none => rfl
        | some o' => rw [F.keep _ _ q] at h0; cases h0
    · exact N' p hp
  · have e' : q.1 = D := e
    have := (N q hq).1
    rw [e', h0] at this; cases this
end
abbrev lamQ : Str := Str.ofString "_law_where_it_stays" ++ ".<locals>." ++ "<lambda>"
theorem AbvOk.key {fs : List (UInt64 × Tok)} {v : Int → Int} {t : Nat} (h : AbvOk fs v t) (hl : fs.length = 6) :
    (∀ i, 0 ≤ i → i < 6 → IsI (fx fs i) (v i)) ∧ (∀ i, 0 ≤ i → i < 6 → ft fs i ≠ 0) ∧ (∀ i j, 0 ≤ i → i < 6 → 0 ≤ j → j < 6 → ft fs i = ft fs j → v i = v j) := by
  have at' : ∀ i : Int, 0 ≤ i → i < 6 → ∃ hi : i.toNat < fs.length, fs.getD i.toNat (0, 0) = fs[i.toNat] := fun i h0 h6 => ⟨by omega, by simp [show i.toNat < fs.length by omega]⟩
  refine ⟨fun i h0 h6 => ?_, fun i h0 h6 => ?_, fun i j h0 h6 j0 j6 e => ?_⟩
  · obtain ⟨hi, e⟩ := at' i h0 h6
    simp only [fx, e]
    have := h.is i.toNat hi
    have ei : ((i.toNat : Nat) : Int) = i := by omega
    rw [ei] at this
    exact this
  · obtain ⟨hi, e⟩ := at' i h0 h6
    simp only [ft, e]
    have := (h.lo _ (List.getElem_mem hi)).1
    exact Nat.ne_of_gt this
  · obtain ⟨hi, e1⟩ := at' i h0 h6
    obtain ⟨hj, e2⟩ := at' j j0 j6
    simp only [ft, e1, e2] at e
    have hp := h.ap
    have g := fun (a b : Nat) (ha : a < (fs.map (·.2)).length) (hb : b < (fs.map (·.2)).length) (hab : a < b) => List.pairwise_iff_getElem.mp hp a b ha hb hab
    rcases Nat.lt_trichotomy i.toNat j.toNat with q | q | q
    · have := g _ _ (by simpa using hi) (by simpa using hj) q
      simp at this
      exact absurd e (Nat.ne_of_lt this)
    · have : i = j := by omega
      rw [this]
    · have := g _ _ (by simpa using hj) (by simpa using hi) q
      simp at this
      exact absurd e.symm (Nat.ne_of_lt this)
section
variable {w : World} {A : Around} {E : Value → Shared → Prop} {s : Shared} {g : Heap} {L a : Addr} {m : Str → Option Value} {rest cods : List (Addr × Obj)} {p : Program} {loose : List Str} {mean : ExcName → Option Value} {mg mb : Str → Option Value}
theorem pick_eval {up : Bool} {nm cn : Str} {cs : Scope} {cl : List (Str × Addr)} {pn pk pr prc p6 pa p1 p2 p3 pl pkw pc : Pos} {kk : Nat} {ps : Array Value} {clos : List (Str × Addr)} {AB D nD : Addr} {oA : Obj} {fs : List (UInt64 × Tok)} {v : Int → Int} {t0 : Nat} {k : Nat} {tk0 : Tok} {Q : Value → Shared → Prop}
    (X : (Mine.hd.heap_39 w.params).In g) (T : Top p loose mean mg mb g) (hS : NoShare g) (C : CodeHd g 152 150) (hh : A.handled = none) (hd : A.depth + 41 < recursionLimit) (hu : A.units + 160 < cLine) (hk1 : 0 < k) (hk3 : k ≤ 3)
    (F : Fr g L s.heap m) (N : News g L s.heap ((150, tabObj ps) :: rest)) (hsub : ∀ q ∈ cods, q ∈ rest) (hok : CodsOk g cods lamQ ps) (hne : ∀ q ∈ rest, @Ne Nat q.1 150)
    (hm : m (Str.ofString "k") = some (.int (k : Nat) tk0)) (hnm : nm = if up = true then Str.ofString "nlargest" else Str.ofString "nsmallest") (hq : (envX cn cs L a (.ref 152) cl).qual ++ "<lambda>" = lamQ)
    (hkk : (envX cn cs L a (.ref 152) cl).kindOf (Str.ofString "k") = some .local) (hkf : (envX cn cs L a (.ref 152) cl).kindOf nm = some .globalImplicit) (hkr : (envX cn cs L a (.ref 152) cl).kindOf (Str.ofString "range") = some .globalImplicit) (hkd : cs.kind = .function)
    (hcl : closureFor lamS (envX cn cs L a (.ref 152) cl) = pure clos) (hAB : clos.lookup (Str.ofString "above") = some AB)
    (hA : (AB, oA) ∈ rest) (hoA : oA.data = .cell (some (.ref D))) (hD : (D, lsto (fs.map flv) nD) ∈ rest) (hfs : fs.length = 6) (hav : AbvOk fs v t0)
    (h : ∀ h' tk' D2 n2 ys es ps' new, Fr g L h' m → News g L h' ((D2, lsto ys n2) :: (150, tabObj ps') :: (new ++ rest)) → CodsOk g (new ++ cods) lamQ ps' → (∀ n ∈ new, @Ne Nat n.1 150 ∧ @Ne Nat n.1 D2 ∧ ∀ q ∈ rest, @LT.lt Nat _ q.1 n.1) → (∀ q ∈ rest, @Ne Nat q.1 D2) → @Ne Nat 150 D2 →
      IntsAre ys es → es.length = k → Picked (fun i => sg up (v i)) es → Q (.ref D2) { s with heap := h', toks := tk' }) :
    wpAny (model PySem.Challenge.rw_op0141_01.row.prog w) A (eval (.Call (.Name nm pn) [.Name (Str.ofString "k") pk, .Call (.Name (Str.ofString "range") pr) [.Constant (.int 6) kk p6] [] prc] [⟨some (Str.ofString "key"), .Lambda (lamP pa) (lamB p1 p2 p3) lamS pl, pkw⟩] pc) (envX cn cs L a (.ref 152) cl)) Q E s := by
  have hfn : nsIn (Mine.hd.heap_39 w.params) mainGlobals nm = some (some (.ref (if up = true then 110 else 104))) := by
    subst hnm
    revert X; k_fill; intro X
    cases up
    · exact (by k_is : nsIn (Mine.hd.heap_39 w.params) mainGlobals (Str.ofString "nsmallest") = some (some (.ref 104)))
    · exact (by k_is : nsIn (Mine.hd.heap_39 w.params) mainGlobals (Str.ofString "nlargest") = some (some (.ref 110)))
  have hfo : ∃ o fd, g.get? (if up = true then 110 else 104) = some o ∧ o.data = .func fd := by
    revert X; k_fill; intro X
    cases up
    · exact ⟨_, _, X _ _ (by k_is), rfl⟩
    · exact ⟨_, _, X _ _ (by k_is), rfl⟩
  obtain ⟨ofn, fd, hofn, hfd⟩ := hfo
  have hdbg : (nm == Str.ofString "__debug__") = false := by subst hnm; cases up <;> decide
  show wpAny _ A (eval (.Name nm pn) (envX cn cs L a (.ref 152) cl) >>= fun f => callWith pc f [] _ _) Q E s
  refine wpAny_bind (name_glob X T F.keep hfn ?_ rfl hkd hkf hdbg)
  refine callWith_function_kw (o := ofn) (fd := fd) (evalArgs_kw rfl ?_)
  refine spliced_cons (wpAny_Name (wpAny_loadName_local hkd hkk F.ns hm ?_))
  refine spliced_cons ?_
  refine range_eval (n := 6) (t := s.toks) X T F.keep rfl rfl hkd hkr rfl (fun Q' hq => wpAny_Constant_int (hq _)) fun r h1 tk1 t1 u1 v1 hr k1 hr0 => spliced_nil ?_
  obtain ⟨F1, N1, ne1⟩ := led_add F N k1 hr (Heap.get?_none_of_le hr0)
  have N1' : News g L h1 ((150, tabObj ps) :: ((r, { cls := .type "range", dict := none, data := .fields #[.int 0 t1, .int 6 u1, .int 1 v1], slots := #[] }) :: rest)) := nw_cons N1 (.tail _ (.head _)) (nw_cons N1 (.head _) (nw_tail (nw_tail N1)))
  have hr150 := ne1 _ (.head _)
  clear N1
  show wpAny _ A (evalAll ((backToKw pc (keywordEach [⟨some (Str.ofString "key"), .Lambda (lamP pa) (lamB p1 p2 p3) lamS pl, pkw⟩] (envX cn cs L a (.ref 152) cl))).map (·.2))) _ _ _
  refine kwAll_cons ?_
  refine lam_K F1 N1' T C (fun q hq => .tail _ (hsub q hq)) hok (fun q hq => by
    rcases List.mem_cons.mp hq with rfl | hq
    · exact fun e => hr150 e.symm
    · exact hne q hq) hq rfl hcl fun f c' ctv pm ps' new h2 tk2 F2 N2 hok2 hrec hlt hnew => ?_
  refine kwAll_nil ⟨⟨F2.keep _ _ hofn, hfd⟩, ?_⟩
  show wpAny _ A (call (.ref (if up = true then 110 else 104)) [.int (k : Nat) tk0, .ref r] [(Str.ofString "key", .ref f)]) Q E _
  have mrest : ∀ q ∈ rest, q ∈ (f, kla_obj (Str.ofString "<lambda>") lamQ (lamP pa) (lamB p1 p2 p3) lamS clos pm c' ctv) :: (150, tabObj ps') :: (new ++ (r, { cls := .type "range", dict := none, data := .fields #[.int 0 t1, .int 6 u1, .int 1 v1], slots := #[] }) :: rest) := fun q hq => .tail _ (.tail _ (List.mem_append_right _ (.tail _ hq)))
  have hkey := lam_key (w := w) (fs := fs) (ca := AB) (N2.get (.head _)) hrec (T.nolimit.keeps F2.keep) hAB (N2.get (mrest _ hA)) hoA ⟨_, N2.get (mrest _ hD), rfl, _, rfl⟩ hfs
  obtain ⟨kx, kt, kd⟩ := hav.key hfs
  refine wpAny_call (pick_c (s := { s with heap := h2, toks := tk2 }) hk1 hk3 X T hS F2.keep (by omega) (by omega) hh (N2.get (.tail _ (.tail _ (List.mem_append_right _ (.head _))))) hkey kx kt kd ?_)
  intro h3 tk3 D2 n2 ys es aes hlen hpk k3 hD2 hD20
  obtain ⟨F3, N3, ne3⟩ := led_add F2 N2 k3 hD2 hD20
  refine h h3 tk3 D2 n2 ys es ps' (new ++ [(r, { cls := .type "range", dict := none, data := .fields #[.int 0 t1, .int 6 u1, .int 1 v1], slots := #[] })]) F3 (fun q hq => N3 q ?_) ?_ ?_ ?_ ?_ aes hlen hpk
  · simp only [List.mem_cons, List.mem_append, List.not_mem_nil, or_false] at hq ⊢
    rcases hq with h | h | (h | h) | h
    · exact .inl h
    · exact .inr (.inr (.inl h))
    · exact .inr (.inr (.inr (.inl h)))
    · exact .inr (.inr (.inr (.inr (.inl h))))
    · exact .inr (.inr (.inr (.inr (.inr h))))
  · exact hok2.more fun q hq => by
      rcases List.mem_append.mp hq with h | h
      · simp [h]
      · simp [h]
  · intro n hn
    rcases List.mem_append.mp hn with hn | hn
    · exact ⟨(hnew n hn).1, ne3 n (.tail _ (.tail _ (List.mem_append_left _ hn))), fun q hq => (hnew n hn).2 q (.tail _ hq)⟩
    · simp only [List.mem_singleton] at hn
      subst hn
      exact ⟨fun e => hr150 e.symm, ne3 _ (.tail _ (.tail _ (List.mem_append_right _ (.head _)))), fun q hq => Nat.lt_of_lt_of_le (Heap.lt_size (N q (.tail _ hq)).1) hr0⟩
  · exact fun q hq => ne3 _ (mrest _ hq)
  · exact ne3 _ (.tail _ (.head _))
/-- `if up: chosen = nlargest(..) else: chosen = nsmallest(..)` -/
theorem pick_if {up : Bool} {chn cn : Str} {cs : Scope} {cl : List (Str × Addr)} {pu pif pch pas qch qas : Pos} {pn pk pr prc p6 pa p1 p2 p3 pl pkw pc : Pos} {qn qk qr qrc q6 qa q1 q2 q3 ql qkw qc : Pos} {kk kl : Nat} {ps : Array Value} {clos : List (Str × Addr)} {AB D nD : Addr} {oA : Obj} {fs : List (UInt64 × Tok)} {v : Int → Int} {t0 : Nat} {k : Nat} {tk0 : Tok} {Q : Flow → Shared → Prop}
    (X : (Mine.hd.heap_39 w.params).In g) (T : Top p loose mean mg mb g) (hS : NoShare g) (C : CodeHd g 152 150) (hh : A.handled = none) (hd : A.depth + 41 < recursionLimit) (hu : A.units + 160 < cLine) (hk1 : 0 < k) (hk3 : k ≤ 3)
    (F : Fr g L s.heap m) (N : News g L s.heap ((150, tabObj ps) :: rest)) (hsub : ∀ q ∈ cods, q ∈ rest) (hok : CodsOk g cods lamQ ps) (hne : ∀ q ∈ rest, @Ne Nat q.1 150)
    (hm : m (Str.ofString "k") = some (.int (k : Nat) tk0)) (hmu : m (Str.ofString "up") = some (.bool up)) (hq : (envX cn cs L a (.ref 152) cl).qual ++ "<lambda>" = lamQ)
    (hku : (envX cn cs L a (.ref 152) cl).kindOf (Str.ofString "up") = some .local) (hkk : (envX cn cs L a (.ref 152) cl).kindOf (Str.ofString "k") = some .local) (hkl : (envX cn cs L a (.ref 152) cl).kindOf (Str.ofString "nlargest") = some .globalImplicit) (hks : (envX cn cs L a (.ref 152) cl).kindOf (Str.ofString "nsmallest") = some .globalImplicit) (hkr : (envX cn cs L a (.ref 152) cl).kindOf (Str.ofString "range") = some .globalImplicit) (hkd : cs.kind = .function)
    (hcl : closureFor lamS (envX cn cs L a (.ref 152) cl) = pure clos) (hAB : clos.lookup (Str.ofString "above") = some AB)
    (hA : (AB, oA) ∈ rest) (hoA : oA.data = .cell (some (.ref D))) (hD : (D, lsto (fs.map flv) nD) ∈ rest) (hfs : fs.length = 6) (hav : AbvOk fs v t0)
    (h : ∀ h' tk' D2 n2 ys es ps' new, Fr g L h' m → News g L h' ((D2, lsto ys n2) :: (150, tabObj ps') :: (new ++ rest)) → CodsOk g (new ++ cods) lamQ ps' → (∀ n ∈ new, @Ne Nat n.1 150 ∧ @Ne Nat n.1 D2 ∧ ∀ q ∈ rest, @LT.lt Nat _ q.1 n.1) → (∀ q ∈ rest, @Ne Nat q.1 D2) → @Ne Nat 150 D2 →
      IntsAre ys es → es.length = k → Picked (fun i => sg up (v i)) es → wpAny (model PySem.Challenge.rw_op0141_01.row.prog w) A (storeName (envX cn cs L a (.ref 152) cl) chn (.ref D2)) (fun _ => Q .next) E { s with heap := h', toks := tk' }) :
    wpAny (model PySem.Challenge.rw_op0141_01.row.prog w) A (exec (.If (.Name (Str.ofString "up") pu)
      [.Assign [.Name chn pch] (.Call (.Name (Str.ofString "nlargest") pn) [.Name (Str.ofString "k") pk, .Call (.Name (Str.ofString "range") pr) [.Constant (.int 6) kk p6] [] prc] [⟨some (Str.ofString "key"), .Lambda (lamP pa) (lamB p1 p2 p3) lamS pl, pkw⟩] pc) pas]
      [.Assign [.Name chn qch] (.Call (.Name (Str.ofString "nsmallest") qn) [.Name (Str.ofString "k") qk, .Call (.Name (Str.ofString "range") qr) [.Constant (.int 6) kl q6] [] qrc] [⟨some (Str.ofString "key"), .Lambda (lamP qa) (lamB q1 q2 q3) lamS ql, qkw⟩] qc) qas] pif) (envX cn cs L a (.ref 152) cl)) Q E s := by
  refine wpAny_If (isTrue_plain (wpAny_Name (wpAny_loadName_local hkd hku F.ns hmu (wpAny_truthy_bool ?_))))
  cases up
  · simp only [Bool.false_eq_true, if_false]
    exact wpAny_execs_cons (wpAny_Assign_Name (pick_eval (up := false) X T hS C hh hd hu hk1 hk3 F N hsub hok hne hm rfl hq hkk hks hkr hkd hcl hAB hA hoA hD hfs hav fun h' tk' D2 n2 ys es ps' new a1 a2 a3 a4 a5 a6 a7 a8 a9 =>
      wpAny_mono (h h' tk' D2 n2 ys es ps' new a1 a2 a3 a4 a5 a6 a7 a8 a9) (fun _ _ hq => wpAny_execs_nil hq) (fun _ _ x => x)))
  · simp only [if_true]
    exact wpAny_execs_cons (wpAny_Assign_Name (pick_eval (up := true) X T hS C hh hd hu hk1 hk3 F N hsub hok hne hm rfl hq hkk hkl hkr hkd hcl hAB hA hoA hD hfs hav fun h' tk' D2 n2 ys es ps' new a1 a2 a3 a4 a5 a6 a7 a8 a9 =>
      wpAny_mono (h h' tk' D2 n2 ys es ps' new a1 a2 a3 a4 a5 a6 a7 a8 a9) (fun _ _ hq => wpAny_execs_nil hq) (fun _ _ x => x)))
end
end Mine
end

section
open PySem PySem.W PySem.Spec PySem.Calls PyProof.Rows
set_option maxRecDepth 100000
namespace Mine
theorem paired_eq {α : Type} : ∀ {l l' : List α}, Paired (fun a b => b = a) l l' → l' = l
  | _, _, .nil => rfl
  | _, _, .cons h r => by rw [h, paired_eq r]
def inP (es : List Int) : Value → Bool
  | .int i _ => es.any (· == i)
  | _ => false
theorem ints_filter (es : List Int) : ∀ {vs : List Value} {ns : List Int}, IntsAre vs ns → IntsAre (vs.filter (inP es)) (ns.filter fun i => es.any (· == i))
  | _, _, .nil => .nil
  | _, _, .cons n t h => by
    have ih := ints_filter es h
    have e : inP es (.int n t) = es.any (· == n) := rfl
    rw [List.filter_cons, List.filter_cons, e]
    cases es.any (· == n)
    · exact ih
    · exact .cons _ _ ih
theorem ints_range (ts : Nat → Tok) : ∀ n : Nat, IntsAre ((List.range n).map fun (i : Nat) => Value.int (i : Int) (ts i)) ((List.range n).map fun i : Nat => (i : Int))
  | 0 => .nil
  | n + 1 => by
    rw [List.range_succ, List.map_append, List.map_append]
    exact IntsAre.append (ints_range ts n) (.cons _ _ .nil)
section
variable {w : World} {A : Around} {E : Value → Shared → Prop} {s : Shared} {env : Env} {g : Heap} {L : Addr} {m : Str → Option Value} {news : List (Addr × Obj)}
theorem in_six {iN cN : Str} {p1 p2 p3 p4 px pos : Pos} {iter : Expr} {scope : Scope} {cl : List (Str × Addr)} {Q : Value → Shared → Prop} {c : Addr} {cs : List Value} {es : List Int}
    (hh : A.handled = none) (F : Fr g L s.heap m) (N : News g L s.heap news)
    (hclos : closureFor scope env = pure cl) (hcell : ∀ y ∈ scope.names, y.2 ≠ .cell) (hkind : scope.kind = .function)
    (hnames : ∀ y ∈ scope.names, y.2 = .local → scope.names.lookup y.1 = some .local) (hs : ∀ x, foldedSetIterable iter env x = pure x)
    (hx : ∀ C, (compEnvC scope cl C env).kindOf iN = some .local) (hb : (iN == Str.ofString "__debug__") = false)
    (hv : ∀ C (s₃ : Shared) (Q' : Value → Shared → Prop), (∀ b o, s.heap.get? b = some o → s₃.heap.get? b = some o) → Q' (.ref c) s₃ → wpAny (model PySem.Challenge.rw_op0141_01.row.prog w) A (eval (.Name cN p3) (compEnvC scope cl C env)) Q' (fun _ _ => False) s₃)
    (hc : s.heap.IsList c cs.toArray) (ac : IntsAre cs es)
    (hiter : ∀ Q' : Value → Shared → Prop, (∀ r h' tk' t' u' v', IsRange h' r 0 6 1 t' u' v' → Keeps s.heap h' → Fr g L h' m → News g L h' news → Q' (.ref r) { s with heap := h', toks := tk' }) → wpAny (model PySem.Challenge.rw_op0141_01.row.prog w) A (eval iter env) Q' E s)
    (h : ∀ D h' tk' ys n', IntsAre ys (((List.range 6).map fun i : Nat => (i : Int)).filter fun i => es.any (· == i)) → Fr g L h' m → News g L h' ((D, lsto ys n') :: news) → (∀ q ∈ news, q.1 < D) → Q (.ref D) { s with heap := h', toks := tk' }) :
    wpAny (model PySem.Challenge.rw_op0141_01.row.prog w) A (eval (.ListComp (.Name iN p1) [⟨.Name iN px, iter, [.Compare (.Name iN p2) [.In] [.Name cN p3] p4], 0⟩] scope pos) env) Q E s := by
  refine lcw (inP es) (fun v y => y = v) F hclos hcell hkind hnames hs hx (hiter _ fun r h1 tk1 t1 u1 v1 hr k1 F1 N1 => ?_)
  refine src_range (n := 6) hh F1 N1 hr (by decide +kernel) (by decide) ?_ ?_ ?_
  · intro C i ti s₃ m₃ hi hn hm hk
    have k3 : Keeps s.heap s₃.heap := fun b o e => hk _ _ (k1 _ _ e)
    refine tests_one (wpAny_isTrue_Compare1 (wpAny_Name (wpAny_loadName_local hkind (hx C) hn hm ?_) hb))
    refine hv C s₃ _ k3 (in_list_ints (hc.at fun o e => k3 _ _ e) ac (wpAny_truthy_bool ⟨rfl, keeps_refl _⟩))
  · intro C i ti s₃ m₃ hi hp hn hm hk
    exact wpAny_Name (wpAny_loadName_local hkind (hx C) hn hm ⟨rfl, keeps_refl _⟩) hb
  · intro D h' tk' ys n' ts hP F' N' hD
    refine h D h' tk' ys n' ?_ F' N' hD
    rw [paired_eq hP]
    exact ints_filter es (ints_range ts 6)
end
end Mine
end

section
open PySem PySem.W PySem.Spec PySem.Calls PyProof.Rows
set_option maxRecDepth 100000
namespace Mine
/-- the table of the codes made within _law_where_it_stays -/
def TabAt (h : Heap) : Prop := ∃ ps, h.get? 150 = some (tabObj ps) ∧ TriplesOk ps.toList ∧ ∀ pos cv, codeAmong pos ps.toList = some cv → h.CodeRec cv lamQ
/-- what holds ahead of each round of the loop -/
inductive WI (up : Bool) (k : Nat) (tk0 : Tok) (xs ws : List Int) (g : Heap) (L it : Addr) (oW oX : Obj) (s : Shared) (n : Nat) (s' : Shared) : Prop
  | mk (h : Heap) (tk j : Nat) (mm : Str → Option Value) (ps : Array Value) (oA oM oC : Obj) (vA vC : Option Value) (μb : UInt64) (tμ : Tok) (μ ld : Int) (tl : Tok) (cods : List (Addr × Obj))
    (q0 : s' = { s with heap := h, toks := tk }) (q1 : n = k + 3 - j) (q2 : j ≤ k + 2) (q3 : Fr g L h mm) (q4 : mm (Str.ofString "up") = some (.bool up)) (q5 : mm (Str.ofString "k") = some (.int (k : Nat) tk0)) (q6 : mm (Str.ofString "load") = some (.int ld tl)) (q7 : News g L h ((it, rit (j : Nat) ((k : Nat) + 2 - (j : Nat)) 1) :: (150, tabObj ps) :: (L + 1 + 1 + 1 + 1 + 1, oA) :: (L + 1 + 1 + 1 + 1, oM) :: (L + 1 + 1 + 1, oC) :: (L + 1 + 1, oW) :: (L + 1, oX) :: cods)) (q8 : CodsOk g cods lamQ ps) (q9 : (∀ q ∈ cods, @LT.lt Nat _ it q.1)) (q10 : oA.data = .cell vA) (q11 : oM.data = .cell (some (.float μb tμ))) (q12 : oC.data = .cell vC) (q13 : IsI μb μ) (q14 : μ.natAbs ≤ 2 ^ 37) (q15 : LI up k xs ws j μ ld) : WI up k tk0 xs ws g L it oW oX s n s'
theorem for_WI {prog : Program} {w : World} {A : Around} {s₁ : Shared} {R : Result → Shared → Prop} {target : Expr} {itv : Value} {body orelse : List Stmt} {env : Env} {up : Bool} {k : Nat} {tk0 : Tok} {xs ws : List Int} {g : Heap} {L it : Addr} {oW oX : Obj} {s : Shared} {n : Nat} (init : WI up k tk0 xs ws g L it oW oX s n s₁)
    (turn : ∀ n s₂, WI up k tk0 xs ws g L it oW oX s n s₂ → wpAny (model prog w) A (pyNext itv) (fun r s₁ => match r with
      | none => wpAny (model prog w) A (execs orelse env) (fun f s₃ => R (.ok f) s₃) (fun _ _ => False) s₁
      | some v' => wpAny (model prog w) A (assign target env v') (fun _ s₂ => wpAny (model prog w) A (execs body env) (fun f s₃ => match f with
          | .next | .cont => ∃ m, m < n ∧ WI up k tk0 xs ws g L it oW oX s m s₃
          | .brk => R (.ok .next) s₃
          | .ret v => R (.ok (.ret v)) s₃) (fun _ _ => False) s₂) (fun _ _ => False) s₁) (fun _ _ => False) s₂)
    (ht : ∀ v, letOwnedTupleGo target itv v = pure () := by intro _; rfl) : codeAny (model prog w) A (.forLoop target itv body orelse env) R s₁ :=
  for_inv (WI up k tk0 xs ws g L it oW oX s) turn n init ht
theorem wis_c {w : World} {A : Around} {s : Shared} {R : Result → Shared → Prop} {h₀ : Heap} {p : Program} {loose : List Str} {mean : ExcName → Option Value} {mg mb : Str → Option Value}
   {up : Bool} {k : Nat} {tk0 : Tok} {a b : Addr} {us vs : List Value} {xs ws : List Int}
   (X : (Mine.hd.heap_39 w.params).In h₀) (T : Top p loose mean mg mb h₀) (hS : NoShare h₀) (C : CodeHd h₀ 152 150) (hk : Keeps h₀ s.heap) (h150 : h₀.get? 150 = none) (htab : TabAt s.heap)
   (hroom : A.depth + 60 < recursionLimit) (hun : A.units + 250 < cLine) (hh : A.handled = none)
   (ja : s.heap.IsList a us.toArray) (jb : s.heap.IsList b vs.toArray) (aa : IntsAre us xs) (ab : IntsAre vs ws) (Z : Six xs ws) (hk1 : 0 < k) (hk3 : k ≤ 3)
   (hR : ∀ h' tk' t r M, (∀ c o, c ≠ 150 → s.heap.get? c = some o → h'.get? c = some o) → TabAt h' → IsI r M → Best up k xs ws M → R (.ok (.ret (.float r t))) { s with heap := h', toks := tk' }) :
   codeAny (model PySem.Challenge.rw_op0141_01.row.prog w) A (.call (.ref 153) ⟨[.bool up, .int (k : Nat) tk0, .ref a, .ref b], []⟩) R s := by
  obtain ⟨ps, hps, htr, hcods⟩ := htab
  revert X; k_fill; intro X
  refine' enterC X T hk [(150, tabObj ps)] ?hh ?k6 ?k7 ?k8 ?k9 ?kB ?kD ?_ ?c2 ?c3 ?c4
  case hh => intro q hq; simp only [List.mem_singleton] at hq; subst hq; exact ⟨hps, h150⟩
  case k6 => k_is
  case k7 => k_is
  case k8 => omega
  case k9 => exact BindsTo.of_eq rfl
  case kB => exact rfl
  case kD => decide +kernel
  case c2 => rfl
  case c3 => rfl
  case c4 => rfl
  intro g L' h₁ tk₁ cells hg hkg X' T' F' N' Y' hL
  k_cells Y'
  (try simp only [List.cons_append, List.nil_append] at N')
  rename_i oA oM oC oW oX dA dM dC dW dX
  have cA : oA.data = .cell none := dA
  have cM : oM.data = .cell none := dM
  have cC : oC.data = .cell none := dC
  have cW : oW.data = .cell (some (.ref b)) := dW
  have cX : oX.data = .cell (some (.ref a)) := dX
  clear dA dM dC dW dX
  have h150L : @LT.lt Nat _ 150 L' := hL _ (.head _)
  have c1 : @Ne Nat 150 (L' + 1) := Nat.ne_of_lt (Nat.lt_succ_of_lt h150L)
  have c2 : @Ne Nat 150 (L' + 1 + 1) := Nat.ne_of_lt (Nat.lt_succ_of_lt (Nat.lt_succ_of_lt h150L))
  have c3 : @Ne Nat 150 (L' + 1 + 1 + 1) := Nat.ne_of_lt (Nat.lt_succ_of_lt (Nat.lt_succ_of_lt (Nat.lt_succ_of_lt h150L)))
  have c4 : @Ne Nat 150 (L' + 1 + 1 + 1 + 1) := Nat.ne_of_lt (Nat.lt_succ_of_lt (Nat.lt_succ_of_lt (Nat.lt_succ_of_lt (Nat.lt_succ_of_lt h150L))))
  have c5 : @Ne Nat 150 (L' + 1 + 1 + 1 + 1 + 1) := Nat.ne_of_lt (Nat.lt_succ_of_lt (Nat.lt_succ_of_lt (Nat.lt_succ_of_lt (Nat.lt_succ_of_lt (Nat.lt_succ_of_lt h150L)))))
  have hg1 : ∀ c o, c ≠ 150 → s.heap.get? c = some o → g.get? c = some o := fun c o hc e => hg c o e (by intro q hq; simp only [List.mem_singleton] at hq; subst hq; exact hc)
  have ja' : g.IsList a us.toArray := by
    obtain ⟨o, e, c, r⟩ := ja
    exact ⟨o, hg1 _ _ (fun q => by rw [q, hps] at e; cases e; cases c) e, c, r⟩
  have jb' : g.IsList b vs.toArray := by
    obtain ⟨o, e, c, r⟩ := jb
    exact ⟨o, hg1 _ _ (fun q => by rw [q, hps] at e; cases e; cases c) e, c, r⟩
  have C' := C.keeps hkg
  have hS' := hS.keeps hkg
  have hok0 : CodsOk g [] lamQ ps := ⟨htr, fun pos cv e => by
    obtain ⟨c, o, vs2, t, rfl, e1, e2, e3⟩ := hcods pos cv e
    refine ⟨c, o, vs2, t, rfl, .inl (hg1 _ _ (fun q => ?_) e1), e2, e3⟩
    rw [q, hps] at e1
    cases e1
    have e2' : ps = vs2 := by injection e2
    subst e2'
    have e4 : ps.toList[1]? = some (.str lamQ t) := by rw [Array.getElem?_toList]; exact e3
    match hl : ps.toList, htr, e4 with
    | [], _, e4 => simp at e4
    | .int _ _ :: .int _ _ :: _ :: _, _, e4 => simp at e4⟩
  clear hg hL hS hk hkg ja jb hcods
  refine wpAny_execs_cons (wpAny_Assign_Name ?_)
  refine list_range_eval (k := k) (t := tk0) X' T' F'.keep hh (by omega) rfl rfl rfl rfl rfl rfl rfl ?_ fun D1 h2 tk2 cs1 n1 ac1 k2 hD1 hD10 => ?_
  · exact fun Q' hq => wpAny_Name (wpAny_loadName_local rfl rfl F'.ns (by with_unfolding_all rfl) (hq _))
  obtain ⟨F2, N2, ne2⟩ := led_add F' N' k2 hD1 hD10
  have q1 := ne2 _ (.head _)
  have q2 := ne2 _ (.tail _ (.head _))
  have q3 := ne2 _ (.tail _ (.tail _ (.head _)))
  dsimp only at q1 q2 q3
  refine store_cell_K (pre := [(D1, lsto cs1 n1), (L' + 1 + 1 + 1 + 1 + 1, oA), (L' + 1 + 1 + 1 + 1, oM)]) (post := [(L' + 1 + 1, oW), (L' + 1, oX), (150, tabObj ps)]) F2 N2 rfl rfl rfl cC ?h1 ?h2 fun h3 oC3 F3 N3 cC3 => ?_
  case h1 => exact ap_cons (Ne.symm q3) (ap_cons (cn2 _) (ap_cons (cn1 _) ap_nil))
  case h2 => exact ap_cons (Ne.symm (cn1 _)) (ap_cons (Ne.symm (cn2 _)) (ap_cons c3 ap_nil))
  clear F' N' F2 N2 k2 ne2
  dsimp only [List.cons_append, List.nil_append] at N3
  dsimp only
  have hC0 := sel_range (k := k) (by omega)
  obtain ⟨μ₀, M0⟩ := mean_ok Z hC0 hk1 hk3
  refine wpAny_execs_cons (wpAny_Assign_Name ?_)
  refine fn_call (x := Str.ofString "_law_mean") X' T' F3.keep (by k_is) (by k_is) rfl rfl rfl rfl rfl ?_
  refine spliced_cons (wpAny_Name (wpAny_loadName_cell rfl rfl rfl ⟨oC3, N3.get (by k_mem), cC3⟩ ?_))
  refine spliced_cons (wpAny_Name (wpAny_loadName_cell rfl rfl rfl ⟨oX, N3.get (by k_mem), cX⟩ ?_))
  refine spliced_cons (wpAny_Name (wpAny_loadName_cell rfl rfl rfl ⟨oW, N3.get (by k_mem), cW⟩ ?_))
  refine spliced_nil ⟨F3.keep, ?_⟩
  refine wpAny_call (lmean_c (h₀ := g) (es := (List.range k).map fun i : Nat => (i : Int)) (q := μ₀) X' T' F3.keep ?d1 ?d2 hh (isL_N (n := n1) N3 (by k_mem)) (isList_F F3 ja') (isList_F F3 jb') ac1 aa ab Z.lx Z.lw (by simp; omega) (by simp; omega) hC0.inn M0.b1 M0.b2 M0.ba M0.hq (by have := M0.hqb; omega) M0.hdb ?_)
  case d1 => show A.depth + 1 + 12 < _; omega
  case d2 => show A.units + 3 + 70 < _; omega
  intro h4 tk4 t4 r4 k4 ir4
  obtain ⟨F4, N4⟩ := led_keeps F3 N3 k4
  clear F3 N3 k4
  dsimp only
  refine store_cell_K (pre := [(D1, lsto cs1 n1), (L' + 1 + 1 + 1 + 1 + 1, oA)]) (post := [(L' + 1 + 1 + 1, oC3), (L' + 1 + 1, oW), (L' + 1, oX), (150, tabObj ps)]) F4 N4 rfl rfl rfl cM ?h1 ?h2 fun h5 oM5 F5 N5 cM5 => ?_
  case h1 => exact ap_cons (Ne.symm q2) (ap_cons (cn1 _) ap_nil)
  case h2 => exact ap_cons (Ne.symm (cn1 _)) (ap_cons (Ne.symm (cn2 _)) (ap_cons (Ne.symm (cn3 _)) (ap_cons c4 ap_nil)))
  clear F4 N4
  dsimp only [List.cons_append, List.nil_append] at N5
  dsimp only
  refine wpAny_execs_cons (wpAny_Assign_Name (wpAny_BinOp ?_))
  refine bi_call1 X' T' F5.keep (by k_is) PyProof.Rows.boot_sum (by decide) rfl rfl rfl rfl rfl rfl ?_
  refine wpAny_Name (wpAny_loadName_cell rfl rfl rfl ⟨oW, N5.get (by k_mem), cW⟩ ?_)
  refine sumK hh F5 N5 (isList_F F5 jb') ab fun h6 tk6 t6 F6 N6 => ?_
  clear F5 N5
  refine wpAny_Constant_int (add_int ?_)
  refine store_loc_K F6 N6 rfl rfl rfl fun h7 tk7 F7 N7 => ?_
  clear F6 N6
  dsimp only
  refine wpAny_execs_cons (wpAny_For ?_)
  refine range_eval (n := (k : Nat) + 2) (t := tk7 + 1) X' T' F7.keep rfl rfl rfl rfl rfl ?_ fun r h8 tk8 t8 u8 v8 hr8 k8 hr80 => ?_
  · intro Q' hq
    refine wpAny_BinOp (wpAny_Name (wpAny_loadName_local (v := .int (k : Nat) tk0) rfl rfl F7.ns (by with_unfolding_all rfl) ?_))
    refine wpAny_Constant_int (add_int ?_)
    exact hq _
  obtain ⟨F8, N8⟩ := led_keeps F7 N7 k8
  clear F7 N7 k8
  refine pyiter_range_K F8 N8 hr8 ?hsm ?hsz fun it h9 F9 N9 l9 => ?_
  case hsm => (have : k = 1 ∨ k = 2 ∨ k = 3 := by omega); rcases this with rfl | rfl | rfl <;> decide +kernel
  case hsz => (have : k = 1 ∨ k = 2 ∨ k = 3 := by omega); rcases this with rfl | rfl | rfl <;> decide +kernel
  clear F8 N8
  dsimp only
  have lL5 : @LT.lt Nat _ (L' + 1 + 1 + 1 + 1 + 1) it := l9 (L' + 1 + 1 + 1 + 1 + 1, oA) (by k_mem)
  have lL4 : @LT.lt Nat _ (L' + 1 + 1 + 1 + 1) it := dn1 lL5
  have lL3 : @LT.lt Nat _ (L' + 1 + 1 + 1) it := dn1 lL4
  have lL2 : @LT.lt Nat _ (L' + 1 + 1) it := dn1 lL3
  have lL1 : @LT.lt Nat _ (L' + 1) it := dn1 lL2
  have l150 : @LT.lt Nat _ 150 it := Nat.lt_trans h150L (dn1 lL1)
  clear q1 q2 q3 h150L
  refine for_WI (up := up) (k := k) (tk0 := tk0) (xs := xs) (ws := ws) (g := g) (L := L') (it := it) (oW := oW) (oX := oX) (s := s) (n := k + 3) ⟨h9, tk8, 0, _, ps, oA, oM5, oC3, none, _, r4, t4, μ₀, ws.sum + 1, _, [], rfl, rfl, by omega, F9, by with_unfolding_all rfl, by with_unfolding_all rfl, by with_unfolding_all rfl, ?_, hok0, (fun q hq => by cases hq), cA, cM5, cC3, ir4, M0.hqb, ?_⟩ ?_
  · have e1 : ((k : Nat) : Int) + 2 - ((0 : Nat) : Int) = (k : Nat) + 2 := Int.sub_zero _
    rw [e1]
    exact nw_cons N9 (.head _) (nw_cons N9 (by k_mem) (nw_cons N9 (by k_mem) (nw_cons N9 (by k_mem) (nw_cons N9 (by k_mem) (nw_cons N9 (by k_mem) (nw_cons N9 (by k_mem) nw_nil))))))
  · rw [← six_sum Z.lw]; exact LI.start hC0 M0.nm
  clear F9 N9 l9 ac1 ir4 M0 hC0 cA cM cC cM5 cC3 hok0 htr hps
  rintro n s' ⟨h, tk, j, mm, ps, oA, oM, oC, vA, vC, μb, tμ, μ, ld, tl, cods, rfl, rfl, hj, F, mup, mk, mld, N, hok, hcods, cA, cM, cC, iμ, bμ, hLI⟩
  have hjb := hLI.bound Z
  refine next_rit_K (pre := []) F N (by intro q hq; cases hq) ?h2 (by omega) ?_
  case h2 => exact ap_cons (Nat.ne_of_lt l150) (ap_cons (Nat.ne_of_lt lL5) (ap_cons (Nat.ne_of_lt lL4) (ap_cons (Nat.ne_of_lt lL3) (ap_cons (Nat.ne_of_lt lL2) (ap_cons (Nat.ne_of_lt lL1) fun q hq => Nat.ne_of_gt (hcods q hq))))))
  intro h1 F1 N1
  clear F N
  dsimp only [List.nil_append] at N1
  dsimp only
  refine wpAny_assign_Name (store_loc_K F1 N1 rfl rfl rfl fun h2 tk2 F2 N2 => ?_)
  clear F1 N1
  dsimp only
  have hv0 : ∀ i, sg up (xf ws i * (xf xs i - μ)) = sg up (ws.getD i.toNat 0 * (xs.getD i.toNat 0 - μ)) := fun i => rfl
  refine wpAny_execs_cons (wpAny_Assign_Name ?_)
  refine abv_lc (tμ := tμ) (cl := [(Str.ofString "worths", L' + 1), (Str.ofString "weights", L' + 1 + 1), (Str.ofString "mean", L' + 1 + 1 + 1 + 1)]) (news := (it, rit ((j : Nat) + 1) ((k : Nat) + 2 - (j : Nat) - 1) 1) :: (150, tabObj ps) :: (L' + 1 + 1 + 1 + 1 + 1, oA) :: (L' + 1 + 1 + 1 + 1, oM) :: (L' + 1 + 1 + 1, oC) :: (L' + 1 + 1, oW) :: (L' + 1, oX) :: cods)
    hh ?a1 ?a2 ?a3 ?a4 ?a5 (fun C => ?a6) ?a7 F2 ?b1 ?b2 ?b3 (isList_F F2 jb') ab (isList_F F2 ja') aa Z.lw Z.lx iμ bμ ?b4 ?b5 ?b6 ?_
  case a1 => rfl
  case a2 => decide
  case a3 => rfl
  case a4 => decide
  case a5 => (intro _; rfl)
  case a6 => rfl
  case a7 => decide
  case b1 => exact fun C s₃ Q' pn hk hq => wpAny_Name (wpAny_loadName_cell rfl rfl rfl ⟨oW, hk _ _ (N2.get (by k_mem)), cW⟩ hq)
  case b2 => exact fun C s₃ Q' pn hk hq => wpAny_Name (wpAny_loadName_cell rfl rfl rfl ⟨oX, hk _ _ (N2.get (by k_mem)), cX⟩ hq)
  case b3 => exact fun C s₃ Q' pn hk hq => wpAny_Name (wpAny_loadName_cell rfl rfl rfl ⟨oM, hk _ _ (N2.get (by k_mem)), cM⟩ hq)
  case b4 => exact fun i h0 h6 => by have := Z.wt i h0 h6; unfold xf at this; omega
  case b5 => exact Z.small
  case b6 => exact fun Q' hq => range_eval (n := 6) (t := tk2) X' T' F2.keep rfl rfl rfl rfl rfl (fun Q'' hq2 => wpAny_Constant_int (hq2 _)) fun r h' tk' t u v hr k hr0 => hq r h' tk' t u v hr k (led_keeps F2 N2 k).1 (led_keeps F2 N2 k).2
  intro D3 h3 tk3 fs n3 hfs hav F3 N3 l3
  clear F2 N2
  have d1 := l3 (L' + 1 + 1 + 1 + 1 + 1, oA) (by k_mem)
  have d2 := l3 (it, rit ((j : Nat) + 1) ((k : Nat) + 2 - (j : Nat) - 1) 1) (by k_mem)
  dsimp only at d1 d2
  refine store_cell_K (pre := [(D3, lsto (fs.map flv) n3), (it, rit ((j : Nat) + 1) ((k : Nat) + 2 - (j : Nat) - 1) 1), (150, tabObj ps)]) F3 N3 rfl rfl rfl cA ?h1 ?h2 fun h4 oA4 F4 N4 cA4 => ?_
  case h1 => exact ap_cons (Nat.ne_of_gt d1) (ap_cons (Nat.ne_of_gt lL5) (ap_cons c5 ap_nil))
  case h2 => exact ap_cons (Ne.symm (cn1 _)) (ap_cons (Ne.symm (cn2 _)) (ap_cons (Ne.symm (cn3 _)) (ap_cons (Ne.symm (cn4 _)) fun q hq => Nat.ne_of_gt (Nat.lt_trans lL5 (hcods q hq)))))
  clear F3 N3
  dsimp only [List.cons_append, List.nil_append] at N4
  dsimp only
  obtain ⟨mm2, F5, mup2, mk2, mld2⟩ : ∃ mm2, Fr g L' h4 mm2 ∧ mm2 (Str.ofString "up") = some (.bool up) ∧ mm2 (Str.ofString "k") = some (.int (k : Nat) tk0) ∧ mm2 (Str.ofString "load") = some (.int ld tl) :=
    ⟨_, F4, (if_neg (by decide)).trans mup, (if_neg (by decide)).trans mk, (if_neg (by decide)).trans mld⟩
  clear F4
  have N5 : News g L' h4 ((150, tabObj ps) :: (D3, lsto (fs.map flv) n3) :: (it, rit ((j : Nat) + 1) ((k : Nat) + 2 - (j : Nat) - 1) 1) :: (L' + 1 + 1 + 1 + 1 + 1, oA4) :: (L' + 1 + 1 + 1 + 1, oM) :: (L' + 1 + 1 + 1, oC) :: (L' + 1 + 1, oW) :: (L' + 1, oX) :: cods) := nw_cons N4 (.tail _ (.tail _ (.head _))) (nw_cons N4 (.head _) (nw_cons N4 (.tail _ (.head _)) (nw_tail (nw_tail (nw_tail N4)))))
  clear N4
  have hne5 : ∀ q ∈ (D3, lsto (fs.map flv) n3) :: (it, rit ((j : Nat) + 1) ((k : Nat) + 2 - (j : Nat) - 1) 1) :: (L' + 1 + 1 + 1 + 1 + 1, oA4) :: (L' + 1 + 1 + 1 + 1, oM) :: (L' + 1 + 1 + 1, oC) :: (L' + 1 + 1, oW) :: (L' + 1, oX) :: cods, @Ne Nat q.1 150 := ap_cons (Nat.ne_of_gt (Nat.lt_trans l150 d2)) (ap_cons (Nat.ne_of_gt l150) (ap_cons (Ne.symm c5) (ap_cons (Ne.symm c4) (ap_cons (Ne.symm c3) (ap_cons (Ne.symm c2) (ap_cons (Ne.symm c1) fun q hq => Nat.ne_of_gt (Nat.lt_trans l150 (hcods q hq))))))))
  refine wpAny_execs_cons (pick_if (up := up) (clos := [(Str.ofString "above", L' + 1 + 1 + 1 + 1 + 1)]) (D := D3) (nD := n3) (fs := fs) (v := fun i => ws.getD i.toNat 0 * (xs.getD i.toNat 0 - μ)) (k := k) (tk0 := tk0) X' T' hS' C' hh ?d1 ?d2 hk1 hk3 F5 N5 (fun q hq => .tail _ (.tail _ (.tail _ (.tail _ (.tail _ (.tail _ (.tail _ hq))))))) hok hne5 mk2 mup2 ?d3 rfl rfl rfl rfl rfl rfl rfl rfl (.tail _ (.tail _ (.head _))) cA4 (.head _) hfs hav ?_)
  case d1 => show A.depth + 1 + 41 < _; omega
  case d2 => show A.units + 3 + 160 < _; omega
  case d3 => rfl
  intro h6 tk6 D5 n5 ys5 es ps5 new5 F6a N6a hok5 hnew5 hneD h150D aes hlen hP
  have e1 := hneD (it, rit ((j : Nat) + 1) ((k : Nat) + 2 - (j : Nat) - 1) 1) (by k_mem)
  have e2 := hneD (L' + 1 + 1 + 1 + 1 + 1, oA4) (by k_mem)
  have hD5M : @Ne Nat D5 (L' + 1 + 1 + 1 + 1) := Ne.symm (hneD (L' + 1 + 1 + 1 + 1, oM) (by k_mem))
  have e4 := hneD (L' + 1 + 1 + 1, oC) (by k_mem)
  have hcods5 : ∀ q ∈ new5 ++ cods, @LT.lt Nat _ it q.1 := fun q hq => (List.mem_append.mp hq).elim (fun hq => (hnew5 q hq).2.2 (it, rit ((j : Nat) + 1) ((k : Nat) + 2 - (j : Nat) - 1) 1) (by k_mem)) (hcods q)
  have hsub : ∀ q ∈ new5 ++ cods, q ∈ (D5, lsto ys5 n5) :: (150, tabObj ps5) :: (new5 ++ (D3, lsto (fs.map flv) n3) :: (it, rit ((j : Nat) + 1) ((k : Nat) + 2 - (j : Nat) - 1) 1) :: (L' + 1 + 1 + 1 + 1 + 1, oA4) :: (L' + 1 + 1 + 1 + 1, oM) :: (L' + 1 + 1 + 1, oC) :: (L' + 1 + 1, oW) :: (L' + 1, oX) :: cods) := fun q hq => .tail _ (.tail _ ((List.mem_append.mp hq).elim (fun hq => List.mem_append_left _ hq) fun hq => List.mem_append_right _ (.tail _ (.tail _ (.tail _ (.tail _ (.tail _ (.tail _ (.tail _ hq)))))))))
  have N6a' : News g L' h6 ((D3, lsto (fs.map flv) n3) :: (it, rit ((j : Nat) + 1) ((k : Nat) + 2 - (j : Nat) - 1) 1) :: (L' + 1 + 1 + 1 + 1 + 1, oA4) :: (L' + 1 + 1 + 1 + 1, oM) :: (L' + 1 + 1 + 1, oC) :: (L' + 1 + 1, oW) :: (L' + 1, oX) :: cods) := fun q hq => N6a q (.tail _ (.tail _ (List.mem_append_right _ hq)))
  have N7 : News g L' h6 ([(D5, lsto ys5 n5), (150, tabObj ps5), (it, rit ((j : Nat) + 1) ((k : Nat) + 2 - (j : Nat) - 1) 1), (L' + 1 + 1 + 1 + 1 + 1, oA4), (L' + 1 + 1 + 1 + 1, oM)] ++ (L' + 1 + 1 + 1, oC) :: ((L' + 1 + 1, oW) :: (L' + 1, oX) :: (new5 ++ cods))) :=
    nw_cons N6a (.head _) (nw_cons N6a (.tail _ (.head _)) (nw_cons N6a' (by k_mem) (nw_cons N6a' (by k_mem) (nw_cons N6a' (by k_mem) (nw_cons N6a' (by k_mem) (nw_cons N6a' (by k_mem) (nw_cons N6a' (by k_mem) fun q hq => N6a q (hsub q hq))))))))
  clear N6a N6a' hsub hneD hnew5 hne5
  refine store_cell_K F6a N7 rfl rfl rfl cC ?h1 ?h2 fun h5 oC5 F6 N6 cC5 => ?_
  case h1 => exact ap_cons (Ne.symm e4) (ap_cons c3 (ap_cons (Nat.ne_of_gt lL3) (ap_cons (cn2 _) (ap_cons (cn1 _) ap_nil))))
  case h2 => exact ap_cons (Ne.symm (cn1 _)) (ap_cons (Ne.symm (cn2 _)) fun q hq => Nat.ne_of_gt (Nat.lt_trans lL3 (hcods5 q hq)))
  clear F6a N7
  dsimp only [List.cons_append, List.nil_append] at N6
  dsimp only
  clear F5 N5 hok hcods cC cA hav hfs
  have cA5 := cA4
  clear cA4
  generalize new5 ++ cods = cods5 at hok5 hcods5 N6
  have hSel : Sel k es := sel_of hP hlen
  (try dsimp only)
  have lD5 : ys5.length = es.length := aes.length.symm ▸ rfl
  refine wpAny_execs_cons (wpAny_If (isTrue_or (wpAny_isTrue_Compare1 ?_)))
  refine bi_call1 X' T' F6.keep (by k_is) PyProof.Rows.boot_sorted (by decide) rfl rfl rfl rfl rfl rfl ?_
  refine wpAny_Name (wpAny_loadName_cell rfl rfl rfl ⟨oC5, N6.get (by k_mem), cC5⟩ ?_)
  refine kso_sorted F6 N6 (isL_N (n := n5) N6 (.head _)) aes (by omega) fun D7 vs7 ns7 c7 h7 F7 N7 l7 a7 hl7 p7 o7 _ => ?_
  refine in_six (cl := [(Str.ofString "chosen", L' + 1 + 1 + 1)]) hh F7 N7 ?a1 ?a2 ?a3 ?a4 ?a5 (fun C => ?a6) ?a7 ?b1 (isL_N (n := n5) N7 (.tail _ (.head _))) aes ?b6 ?_
  case a1 => rfl
  case a2 => decide
  case a3 => rfl
  case a4 => decide
  case a5 => (intro _; rfl)
  case a6 => rfl
  case a7 => decide
  case b1 => exact fun C s₃ Q' hk hq => wpAny_Name (wpAny_loadName_cell rfl rfl rfl ⟨oC5, hk _ _ (N7.get (by k_mem)), cC5⟩ hq)
  case b6 => exact fun Q' hq => range_eval (n := 6) (t := _) X' T' F7.keep rfl rfl rfl rfl rfl (fun Q'' hq2 => wpAny_Constant_int (hq2 _)) fun r h' tk' t u v hr k hr0 => hq r h' tk' t u v hr k (led_keeps F7 N7 k).1 (led_keeps F7 N7 k).2
  intro D8 h8 tk8 ys8 n8 a8 F8 N8 l8
  refine ne_intsK (isL_N (n := c7) N8 (.tail _ (.head _))) a7 (isL_N (n := n8) N8 (.head _)) a8 (by show A.units + 3 + 64 < _; omega) (wpAny_truthy_bool ?_)
  rw [sorted_is hSel p7 o7]
  simp only [decide_true, Bool.not_true, Bool.false_eq_true, if_false]
  clear F6 N6 F7 N7
  have N9 : News g L' h8 ((D5, lsto ys5 n5) :: (150, tabObj ps5) :: (it, rit ((j : Nat) + 1) ((k : Nat) + 2 - (j : Nat) - 1) 1) :: (L' + 1 + 1 + 1 + 1 + 1, oA4) :: (L' + 1 + 1 + 1 + 1, oM) :: (L' + 1 + 1 + 1, oC5) :: (L' + 1 + 1, oW) :: (L' + 1, oX) :: cods5) := fun q hq => N8 q (.tail _ (.tail _ hq))
  clear N8
  refine isTrue_or (wpAny_isTrue_Compare1 ?_)
  refine bi_call1 X' T' F8.keep (by k_is) PySem.boot_len (by decide) rfl rfl rfl rfl rfl rfl ?_
  refine wpAny_Name (wpAny_loadName_cell rfl rfl rfl ⟨oC5, N9.get (by k_mem), cC5⟩ ?_)
  refine call_len_list (isL_N (n := n5) N9 (.head _)) (by rw [List.size_toArray]; omega) ?_
  refine wpAny_Name (wpAny_loadName_local rfl rfl F8.ns mk2 ?_)
  refine ne_int (wpAny_truthy_bool ?_)
  have hlk : ((((ys5.toArray.size : Nat) : Int)) != ((k : Nat) : Int)) = false := by rw [List.size_toArray, lD5, hlen]; simp
  rw [hlk]
  simp only [Bool.false_eq_true, if_false]
  refine isTrue_or_nil ?_
  simp only [Bool.false_eq_true, if_false]
  refine wpAny_execs_nil ?_
  dsimp only
  obtain ⟨τ, M1⟩ := mean_ok Z hSel hk1 hk3
  obtain ⟨T1, T2⟩ := hLI.turn Z hk1 hSel hP M1.nm
  refine wpAny_execs_cons (wpAny_Assign_Name ?_)
  refine fn_call (x := Str.ofString "_law_mean") X' T' F8.keep (by k_is) (by k_is) rfl rfl rfl rfl rfl ?_
  refine spliced_cons (wpAny_Name (wpAny_loadName_cell rfl rfl rfl ⟨oC5, N9.get (by k_mem), cC5⟩ ?_))
  refine spliced_cons (wpAny_Name (wpAny_loadName_cell rfl rfl rfl ⟨oX, N9.get (by k_mem), cX⟩ ?_))
  refine spliced_cons (wpAny_Name (wpAny_loadName_cell rfl rfl rfl ⟨oW, N9.get (by k_mem), cW⟩ ?_))
  refine spliced_nil ⟨F8.keep, ?_⟩
  refine wpAny_call (lmean_c (h₀ := g) (es := es) (q := τ) X' T' F8.keep ?d1 ?d2 hh (isL_N (n := n5) N9 (.head _)) (isList_F F8 ja') (isList_F F8 jb') aes aa ab Z.lx Z.lw (by omega) (fun e => by rw [e] at hlen; simp at hlen; omega) hSel.inn M1.b1 M1.b2 M1.ba M1.hq (by have := M1.hqb; omega) M1.hdb ?_)
  case d1 => show A.depth + 1 + 12 < _; omega
  case d2 => show A.units + 3 + 70 < _; omega
  intro h10 tk10 t10 r10 k10 ir10
  obtain ⟨F10, N10⟩ := led_keeps F8 N9 k10
  clear F8 N9 k10
  dsimp only
  refine store_loc_K F10 N10 rfl rfl rfl fun h11 tk11 F11 N11 => ?_
  clear F10 N10
  obtain ⟨mm3, F12, mup3, mk3, mld3, mto3⟩ : ∃ mm3, Fr g L' h11 mm3 ∧ mm3 (Str.ofString "up") = some (.bool up) ∧ mm3 (Str.ofString "k") = some (.int (k : Nat) tk0) ∧ mm3 (Str.ofString "load") = some (.int ld tl) ∧ mm3 (Str.ofString "told") = some (.float r10 t10) :=
    ⟨_, F11, (if_neg (by decide)).trans mup2, (if_neg (by decide)).trans mk2, (if_neg (by decide)).trans mld2, if_pos rfl⟩
  clear F11
  dsimp only
  refine wpAny_execs_cons (wpAny_If (wpAny_isTrue_Compare1 ?_))
  refine wpAny_Name (wpAny_loadName_local rfl rfl F12.ns mto3 ?_)
  refine wpAny_Name (wpAny_loadName_cell rfl rfl rfl ⟨oM, N11.get (by k_mem), cM⟩ ?_)
  refine AutoFloatOps.eq_0 ?_
  show wpAny _ _ (truthy (.bool (Float64.cmp r10 μb == some .eq))) _ _ _
  rw [IsI_eq ir10 iμ]
  refine wpAny_truthy_bool ?_
  by_cases hτμ : τ = μ
  · simp only [hτμ, decide_true, if_true]
    refine wpAny_execs_cons (wpAny_Return_some (wpAny_Name (wpAny_loadName_cell rfl rfl rfl ⟨oM, N11.get (by k_mem), cM⟩ ?_)))
    dsimp only
    exact hR _ _ _ _ _ (fun c o hc e => F12.keep _ _ (hg1 c o hc e)) ⟨ps5, N11.get (by k_mem), hok5.1, fun pos cv e => hok5.rec F12 (fun q hq => N11 q (.tail _ (.tail _ (.tail _ (.tail _ (.tail _ (.tail _ (.tail _ (.tail _ hq))))))))) e⟩ iμ (T1 hτμ)
  · simp only [hτμ, decide_false, Bool.false_eq_true, if_false]
    obtain ⟨G1, G2, G3⟩ := T2 hτμ
    clear T1 T2 hτμ
    refine wpAny_execs_nil ?_
    dsimp only
    refine wpAny_execs_cons (wpAny_If (isTrue_or (wpAny_isTrue_Compare1 (wpAny_Compare1 ?_))))
    refine wpAny_Name (wpAny_loadName_local rfl rfl F12.ns mto3 ?_)
    refine wpAny_Name (wpAny_loadName_cell rfl rfl rfl ⟨oM, N11.get (by k_mem), cM⟩ ?_)
    refine gt_fl ir10 iμ ?_
    refine wpAny_Name (wpAny_loadName_local rfl rfl F12.ns mup3 ?_)
    refine ne_bool (wpAny_truthy_bool ?_)
    have hgt : (decide (μ < τ) != up) = false := by
      cases up
      · have : -μ < -τ := G1
        simp; omega
      · have : μ < τ := G1
        simp [this]
    rw [hgt]
    simp only [Bool.false_eq_true, if_false]
    refine isTrue_or (wpAny_isTrue_Compare1 ?_)
    refine bi_call1 X' T' F12.keep (by k_is) PyProof.Rows.boot_sum (by decide) rfl rfl rfl rfl rfl rfl ?_
    refine lc_pick (cl := [(Str.ofString "weights", L' + 1 + 1)]) hh F12 N11 ?a1 ?a2 ?a3 ?a4 ?a5 (fun C => ?a6) ?a7 ?a8 (isL_N (n := n5) N11 (.head _)) aes (isList_F F12 jb') ab (by rw [Z.lw]; exact hSel.inn) (by rw [Z.lw]; omega) (by omega) ?a9 ?_
    case a1 => rfl
    case a2 => decide
    case a3 => rfl
    case a4 => decide
    case a5 => (intro _; rfl)
    case a6 => rfl
    case a7 => decide
    case a8 => exact fun C s₃ Q' hk hq => wpAny_Name (wpAny_loadName_cell rfl rfl rfl ⟨oW, hk _ _ (N11.get (by k_mem)), cW⟩ hq)
    case a9 => exact fun Q' hq => wpAny_Name (wpAny_loadName_cell rfl rfl rfl ⟨oC5, N11.get (by k_mem), cC5⟩ hq)
    intro D13 h13 tk13 ys13 n13 a13 F13 N13 l13
    refine sumK hh F13 N13 (isL_N (n := n13) N13 (.head _)) a13 fun h14 tk14 t14 F14 N14 => ?_
    clear F12 N11 F13 N13
    refine wpAny_Name (wpAny_loadName_local rfl rfl F14.ns mld3 ?_)
    refine ge_int (wpAny_truthy_bool ?_)
    have hlt : decide (ld ≤ (pick ws es).sum) = false := by
      rw [sum_Wt]; simp; omega
    rw [hlt]
    simp only [Bool.false_eq_true, if_false]
    refine isTrue_or_nil ?_
    simp only [Bool.false_eq_true, if_false]
    refine wpAny_execs_nil ?_
    dsimp only
    refine wpAny_execs_cons (wpAny_Assign_Name ?_)
    refine wpAny_Name (wpAny_loadName_local rfl rfl F14.ns mto3 ?_)
    have N15 : News g L' h14 ([(D5, lsto ys5 n5), (150, tabObj ps5), (it, rit ((j : Nat) + 1) ((k : Nat) + 2 - (j : Nat) - 1) 1), (L' + 1 + 1 + 1 + 1 + 1, oA4)] ++ (L' + 1 + 1 + 1 + 1, oM) :: ((L' + 1 + 1 + 1, oC5) :: (L' + 1 + 1, oW) :: (L' + 1, oX) :: cods5)) := nw_tail N14
    clear N14
    refine store_cell_K F14 N15 rfl rfl rfl cM ?h1 ?h2 fun h16 oM16 F16 N16 cM16 => ?_
    case h1 => exact ap_cons hD5M (ap_cons c4 (ap_cons (Nat.ne_of_gt lL4) (ap_cons (cn1 _) ap_nil)))
    case h2 => exact ap_cons (Ne.symm (cn1 _)) (ap_cons (Ne.symm (cn2 _)) (ap_cons (Ne.symm (cn3 _)) fun q hq => Nat.ne_of_gt (Nat.lt_trans lL4 (hcods5 q hq))))
    clear F14 N15
    dsimp only [List.cons_append, List.nil_append] at N16
    dsimp only
    refine wpAny_execs_cons (wpAny_Assign_Name ?_)
    refine bi_call1 X' T' F16.keep (by k_is) PyProof.Rows.boot_sum (by decide) rfl rfl rfl rfl rfl rfl ?_
    refine lc_pick (cl := [(Str.ofString "weights", L' + 1 + 1)]) hh F16 N16 ?a1 ?a2 ?a3 ?a4 ?a5 (fun C => ?a6) ?a7 ?a8 (isL_N (n := n5) N16 (.head _)) aes (isList_F F16 jb') ab (by rw [Z.lw]; exact hSel.inn) (by rw [Z.lw]; omega) (by omega) ?a9 ?_
    case a1 => rfl
    case a2 => decide
    case a3 => rfl
    case a4 => decide
    case a5 => (intro _; rfl)
    case a6 => rfl
    case a7 => decide
    case a8 => exact fun C s₃ Q' hk hq => wpAny_Name (wpAny_loadName_cell rfl rfl rfl ⟨oW, hk _ _ (N16.get (by k_mem)), cW⟩ hq)
    case a9 => exact fun Q' hq => wpAny_Name (wpAny_loadName_cell rfl rfl rfl ⟨oC5, N16.get (by k_mem), cC5⟩ hq)
    intro D17 h17 tk17 ys17 n17 a17 F17 N17 l17
    refine sumK hh F17 N17 (isL_N (n := n17) N17 (.head _)) a17 fun h18 tk18 t18 F18 N18 => ?_
    clear F16 N16 F17 N17
    refine store_loc_K F18 N18 rfl rfl rfl fun h19 tk19 F19 N19 => ?_
    clear F18 N18
    dsimp only
    refine wpAny_execs_nil ?_
    dsimp only
    refine ⟨k + 3 - (j + 1), by omega, h19, tk19, j + 1, _, ps5, oA4, oM16, oC5, _, _, r10, t10, τ, Wt (xf ws) es, t18, cods5, rfl, rfl, by omega, F19, (if_neg (by decide)).trans mup3, (if_neg (by decide)).trans mk3, if_pos rfl, ?_, hok5, hcods5, cA5, cM16, cC5, ir10, M1.hqb, G3⟩
    have e6 : ((k : Nat) : Int) + 2 - ((j + 1 : Nat) : Int) = (k : Nat) + 2 - (j : Nat) - 1 := by omega
    rw [e6]
    exact nw_cons (nw_tail N19) (.tail _ (.tail _ (.head _))) (nw_cons (nw_tail N19) (.tail _ (.head _)) (nw_tail (nw_tail (nw_tail (nw_tail N19)))))
end Mine
end

section
open PySem PySem.W PySem.Spec PySem.Calls PyProof.Rows
set_option maxRecDepth 100000
namespace Mine
def lawParts : List Stmt × Scope := match PySem.Challenge.rw_op0141_01.row.prog.main.body.getLast? with
  | some (.FunctionDef _ _ b _ _ _ sc _ _ _) => (b, sc)
  | _ => ([], ⟨.function, [], false, false, []⟩)
def lawScope : Scope := lawParts.2
def lawFor : Stmt := match lawParts.1 with
  | [_, _, _, _, _, f, _, _] => f
  | _ => .Pass ⟨0, 0, 0, 0⟩
def lawEnd : List Stmt := lawParts.1.drop 6
abbrev lawEnv (L f : Addr) (cd : Value) : Env := envOfC (Str.ofString "law") lawScope L f cd
/-- v is a float that stands for q -/
def FloatIs (v : Value) (q : Int) : Prop := ∃ x t, v = .float x t ∧ IsI x q
/-- weight times worth at the places es -/
def pprod (xs ws es : List Int) : List Int := es.map fun e => ws.getD e.toNat 0 * xs.getD e.toNat 0
theorem pprod_sum (xs ws es : List Int) : (pprod xs ws es).sum = Nm (xf xs) (xf ws) es := by
  unfold pprod Nm
  congr 1
  exact List.map_congr_left fun e _ => Int.mul_comm _ _
theorem Paired.len {α β : Type} {F : α → β → Prop} : ∀ {l : List α} {l' : List β}, Paired F l l' → l.length = l'.length
  | _, _, .nil => rfl
  | _, _, .cons _ r => congrArg Nat.succ (Paired.len r)
theorem Paired.onMap {α β γ : Type} {F : γ → β → Prop} {f : α → γ} : ∀ {l : List α} {l' : List β}, Paired (fun a b => F (f a) b) l l' → Paired F (l.map f) l'
  | _, _, .nil => .nil
  | _, _, .cons h r => .cons h (Paired.onMap r)
section
variable {prog : Program} {w : World} {A : Around} {E : Value → Shared → Prop} {s : Shared} {env : Env} {g : Heap} {L : Addr} {m : Str → Option Value} {news : List (Addr × Obj)}
/-- `[ws[i] * xs[i] for i in chosen]`, both captured -/
theorem lc_prod {a b i : Str} {pa pb pi pj ps pt pm px pos : Pos} {iter : Expr} {scope : Scope} {cl : List (Str × Addr)} {Q : Value → Shared → Prop} {c l k : Addr} {cs vs us : List Value} {es ws xs : List Int}
    (hh : A.handled = none) (F : Fr g L s.heap m) (N : News g L s.heap news)
    (hclos : closureFor scope env = pure cl) (hcell : ∀ y ∈ scope.names, y.2 ≠ .cell) (hkind : scope.kind = .function)
    (hnames : ∀ y ∈ scope.names, y.2 = .local → scope.names.lookup y.1 = some .local) (hs : ∀ x, foldedSetIterable iter env x = pure x)
    (hx : ∀ C, (compEnvC scope cl C env).kindOf i = some .local) (hb : (i == Str.ofString "__debug__") = false)
    (hv : ∀ C (s₃ : Shared) (Q' : Value → Shared → Prop), (∀ b o, s.heap.get? b = some o → s₃.heap.get? b = some o) → Q' (.ref l) s₃ → wpAny (model prog w) A (eval (.Name a pa) (compEnvC scope cl C env)) Q' (fun _ _ => False) s₃)
    (hu : ∀ C (s₃ : Shared) (Q' : Value → Shared → Prop), (∀ b o, s.heap.get? b = some o → s₃.heap.get? b = some o) → Q' (.ref k) s₃ → wpAny (model prog w) A (eval (.Name b pb) (compEnvC scope cl C env)) Q' (fun _ _ => False) s₃)
    (hc : s.heap.IsList c cs.toArray) (ac : IntsAre cs es) (hl : s.heap.IsList l vs.toArray) (av : IntsAre vs ws) (hk' : s.heap.IsList k us.toArray) (au : IntsAre us xs)
    (hin : ∀ e ∈ es, 0 ≤ e ∧ e < 6) (hlw : ws.length = 6) (hlx : xs.length = 6) (hlen2 : es.length < 100) (hw : ∀ i : Int, 0 ≤ i → i < 6 → ws.getD i.toNat 0 = 1 ∨ ws.getD i.toNat 0 = 2)
    (hiter : ∀ Q' : Value → Shared → Prop, Q' (.ref c) s → wpAny (model prog w) A (eval iter env) Q' E s)
    (h : ∀ D h' tk' ys n', IntsAre ys (pprod xs ws es) → Fr g L h' m → News g L h' ((D, lsto ys n') :: news) → (∀ q ∈ news, q.1 < D) → Q (.ref D) { s with heap := h', toks := tk' }) :
    wpAny (model prog w) A (eval (.ListComp (.BinOp (.Subscript (.Name a pa) (.Name i pi) ps) .Mult (.Subscript (.Name b pb) (.Name i pj) pt) pm) [⟨.Name i px, iter, [], 0⟩] scope pos) env) Q E s := by
  refine lcw (fun _ => true) (IntFn fun e => ws.getD e.toNat 0 * xs.getD e.toNat 0) F hclos hcell hkind hnames hs hx (hiter _ (src_list hh F N hc (by have := ac.length; rw [sizeLine_eq]; omega) ?_ ?_ ?_))
  · intro C v s₃ m₃ hm hn hx' hk
    exact tests_none ⟨rfl, s₃.heap, s₃.toks, rfl, fun b o e => e⟩
  · intro C v s₃ m₃ hm _ hn hx' hk
    obtain ⟨j, hj⟩ := List.getElem?_of_mem hm
    obtain ⟨e, t, rfl, hej⟩ := ac.at j v hj
    have hi := hin e (List.mem_of_getElem? hej)
    refine wpAny_BinOp (item_at (hl.at fun o q => hk _ _ q) av hi.1 (by omega) (by omega) (fun Q' hq => hv C s₃ Q' hk hq) (fun Q' hq => wpAny_Name (wpAny_loadName_local hkind (hx C) hn hx' hq) hb) fun t' => ?_)
    refine item_at (hk'.at fun o q => hk _ _ q) au hi.1 (by omega) (by omega) (fun Q' hq => hu C s₃ Q' hk hq) (fun Q' hq => wpAny_Name (wpAny_loadName_local hkind (hx C) hn hx' hq) hb) fun t2 => ?_
    refine PyProof.Rows.mul_int ?_ (IntMulOk.of_left ?_)
    · exact ⟨⟨e, t, s₃.toks, rfl, rfl⟩, s₃.heap, s₃.toks + 1, rfl, fun b o e => e⟩
    · rcases hw e hi.1 hi.2 with q | q <;> rw [q] <;> decide
  · intro D h' tk ys n' hP F' N' hD
    rw [filter_true] at hP
    exact h D h' tk ys n' (intFn_are ac hP) F' N' hD
end
/-- what holds ahead of each turn of law's loop -/
inductive LawI (g : Heap) (L it lm D : Addr) (ns : List Sub) (nD k : Nat) (tk0 : Tok) (xs ws : List Int) (rest : List (Addr × Obj)) (s : Shared) (n : Nat) (s' : Shared) : Prop
  | mk (h : Heap) (tk j : Nat) (mm : Str → Option Value) (oI : Obj) (ms : List Value) (nl : Nat) (qs : List Int)
    (q0 : s' = { s with heap := h, toks := tk }) (q1 : n + j = ns.length + 1) (q2 : j ≤ ns.length) (q3 : Fr g L h mm) (q4 : mm (Str.ofString "means") = some (.ref lm)) (q5 : mm (Str.ofString "k") = some (.int (k : Nat) tk0)) (q6 : oI.cls = .type "list_iterator") (q7 : oI.data = .fields #[.ref D, .int (j : Nat) 0]) (q8 : News g L h ((it, oI) :: (lm, lsto ms nl) :: (D, lsto (ns.map Sub.v) nD) :: (ns.map Sub.c ++ rest))) (q9 : Paired FloatIs ms qs) (q10 : Paired (fun (c : Sub) q => Nm (xf xs) (xf ws) c.es = q * Wt (xf ws) c.es) (ns.take j) qs) : LawI g L it lm D ns nD k tk0 xs ws rest s n s'
theorem for_LawI {prog : Program} {w : World} {A : Around} {s₁ : Shared} {R : Result → Shared → Prop} {target : Expr} {itv : Value} {body orelse : List Stmt} {env : Env} {g : Heap} {L it lm D : Addr} {ns : List Sub} {nD k : Nat} {tk0 : Tok} {xs ws : List Int} {rest : List (Addr × Obj)} {s : Shared} {n : Nat}
    (init : LawI g L it lm D ns nD k tk0 xs ws rest s n s₁)
    (turn : ∀ n s₂, LawI g L it lm D ns nD k tk0 xs ws rest s n s₂ → wpAny (model prog w) A (pyNext itv) (fun r s₁ => match r with
      | none => wpAny (model prog w) A (execs orelse env) (fun f s₃ => R (.ok f) s₃) (fun _ _ => False) s₁
      | some v' => wpAny (model prog w) A (assign target env v') (fun _ s₂ => wpAny (model prog w) A (execs body env) (fun f s₃ => match f with
          | .next | .cont => ∃ m, m < n ∧ LawI g L it lm D ns nD k tk0 xs ws rest s m s₃
          | .brk => R (.ok .next) s₃
          | .ret v => R (.ok (.ret v)) s₃) (fun _ _ => False) s₂) (fun _ _ => False) s₁) (fun _ _ => False) s₂)
    (ht : ∀ v, letOwnedTupleGo target itv v = pure () := by intro _; rfl) : codeAny (model prog w) A (.forLoop target itv body orelse env) R s₁ :=
  for_inv (LawI g L it lm D ns nD k tk0 xs ws rest s) turn n init ht
/-- each of what full gives is k things apart -/
theorem full_sel {k : Nat} (hk1 : 0 < k) (hk3 : k ≤ 3) : ∀ es ∈ full k (grown k 6), Sel k es := by
  have : k = 1 ∨ k = 2 ∨ k = 3 := by omega
  have key : ∀ k : Nat, (k = 1 ∨ k = 2 ∨ k = 3) → ((full (k : Nat) (grown (k : Nat) 6)).all fun es => decide (es.length = k) && decide es.Nodup && es.all fun e => decide (0 ≤ e) && decide (e < 6)) = true := by
    intro k hk
    rcases hk with rfl | rfl | rfl <;> decide +kernel
  intro es hes
  have := List.all_eq_true.mp (key k this) es hes
  simp only [Bool.and_eq_true, decide_eq_true_eq, List.all_eq_true] at this
  exact ⟨this.1.1, this.1.2, this.2⟩
set_option maxHeartbeats 4000000 in
theorem law_for {w : World} {A : Around} {s : Shared} {g : Heap} {p : Program} {loose : List Str} {mean : ExcName → Option Value} {mg mb : Str → Option Value} {L f : Addr} {cd : Value} {m : Str → Option Value} {rest : List (Addr × Obj)}
   {k : Nat} {tk0 : Tok} {xs ws : List Int} {us vs : List Value} {lm Dx Dw : Addr} {nx nw : Nat} {oX oW : Obj}
   (X : (Mine.hd.heap_39 w.params).In g) (T : Top p loose mean mg mb g) (hroom : A.depth + 60 < recursionLimit) (hun : A.units + 250 < cLine) (hh : A.handled = none)
   (F : Fr g L s.heap m) (N : News g L s.heap ((lm, lsto [] 0) :: rest)) (hlm : ∀ q ∈ rest, q.1 ≠ lm)
   (hcX : (L + 1 + 1 + 1, oX) ∈ rest) (cX : oX.data = .cell (some (.ref Dx))) (hcW : (L + 1 + 1, oW) ∈ rest) (cW : oW.data = .cell (some (.ref Dw))) (hDx : (Dx, lsto us nx) ∈ rest) (hDw : (Dw, lsto vs nw) ∈ rest)
   (ax : IntsAre us xs) (aw : IntsAre vs ws) (Z : Six xs ws) (hk1 : 0 < k) (hk3 : k ≤ 3) (hmk : m (Str.ofString "k") = some (.int (k : Nat) tk0)) (hmm : m (Str.ofString "means") = some (.ref lm)) :
   wpAny (model PySem.Challenge.rw_op0141_01.row.prog w) A (exec lawFor (lawEnv L f cd)) (fun fl s' => fl = .next ∧ ∃ (h : Heap) (tk : Nat) (mm : Str → Option Value) (ms : List Value) (nl : Nat) (qs : List Int), s' = { s with heap := h, toks := tk } ∧ Fr g L h mm ∧ mm (Str.ofString "means") = some (.ref lm) ∧ mm (Str.ofString "k") = some (.int (k : Nat) tk0) ∧
      News g L h ((lm, lsto ms nl) :: rest) ∧ Paired FloatIs ms qs ∧ Paired (fun es q => Nm (xf xs) (xf ws) es = q * Wt (xf ws) es) (full k (grown k 6)) qs) (fun _ _ => False) s := by
  refine wpAny_For ?_
  revert X; k_fill; intro X
  refine fn_call (x := Str.ofString "_law_choices") (t1 := eval (.Constant (.int 6) 0 ⟨231, 31, 231, 32⟩) (lawEnv L f cd)) (trees := [(false, eval (.Name (Str.ofString "k") ⟨231, 34, 231, 35⟩) (lawEnv L f cd))]) X T F.keep (by k_is) (by k_is) rfl rfl rfl rfl rfl ?_
  refine spliced_cons (wpAny_Constant_int ?_)
  refine spliced_cons (wpAny_Name (wpAny_loadName_local rfl rfl F.ns hmk ?_))
  refine spliced_nil ⟨F.keep, ?_⟩
  refine wpAny_call (choices_c (h₀ := g) (k := (k : Nat)) X T F.keep ?d1 ?d2 hh ?_)
  case d1 => omega
  case d2 => omega
  intro h1 tk1 D n1 ns hes k1 hD hsub hnew
  dsimp only
  have hSel : ∀ c ∈ ns, Sel k c.es := fun c hc => full_sel hk1 hk3 _ (hes ▸ List.mem_map_of_mem hc)
  obtain ⟨F1, N0⟩ := led_keeps F N k1
  have hgn : ∀ a, s.heap.get? a = none → g.get? a = none := fun a q => by
    cases e : g.get? a with
    | none => rfl
    | some o => rw [F.keep _ _ e] at q; cases q
  have hLn : ∀ a, s.heap.get? a = none → @Ne Nat a L := fun a q e => by
    obtain ⟨oL, _, _, eL, _⟩ := F.ns
    rw [e, eL] at q; cases q
  have hne1 : ∀ q ∈ (lm, lsto [] 0) :: rest, ∀ a, s.heap.get? a = none → @Ne Nat q.1 a := fun q hq a e1 e2 => by
    have := (N q hq).1
    rw [e2, e1] at this; cases this
  have N1 : News g L h1 ((lm, lsto [] 0) :: (D, lsto (ns.map Sub.v) n1) :: (ns.map Sub.c ++ rest)) := by
    intro q hq
    simp only [List.mem_cons, List.mem_append, List.mem_map] at hq
    rcases hq with rfl | rfl | ⟨c, hc, rfl⟩ | hq
    · exact N0 _ (.head _)
    · exact ⟨hD, hLn _ hnew.1, hgn _ hnew.1⟩
    · exact ⟨hsub c hc, hLn _ (hnew.2 c hc), hgn _ (hnew.2 c hc)⟩
    · exact N0 _ (.tail _ hq)
  have hlmD : @Ne Nat D lm := fun e => hne1 _ (.head _) D hnew.1 e.symm
  have hlmc : ∀ c ∈ ns, @Ne Nat c.a lm := fun c hc e => hne1 _ (.head _) c.a (hnew.2 c hc) e.symm
  clear N0 hgn hLn hne1 hsub hnew
  refine wpAny_pyIter_list ⟨_, hD, rfl, _, rfl⟩ ?_
  obtain ⟨F2, N2, l2⟩ := led_push F1 N1 { cls := .type "list_iterator", data := .fields #[.ref D, .int 0 0] }
  dsimp only
  have hns : ns.length = (full k (grown k 6)).length := by rw [← hes, List.length_map]
  have hns64 : ns.length < 1000 := by
    have : k = 1 ∨ k = 2 ∨ k = 3 := by omega
    rw [hns]; rcases this with rfl | rfl | rfl <;> decide +kernel
  refine for_LawI (g := g) (L := L) (it := h1.objs.size) (lm := lm) (D := D) (ns := ns) (nD := n1) (k := k) (tk0 := tk0) (xs := xs) (ws := ws) (rest := rest) (s := s) (n := ns.length + 1) ⟨_, _, 0, m, _, [], 0, [], rfl, rfl, Nat.zero_le _, F2, hmm, hmk, rfl, rfl, N2, .nil, .nil⟩ ?_
  clear F1 N1 F2 N2 F N hmk hmm
  generalize h1.objs.size = it at l2 ⊢
  rintro n s' ⟨h, tk, j, mm, oI, ms, nl, qs, rfl, hn, hj, F, hmm, hmk, hIc, hId, N, hms, hqs⟩
  have hit : @Ne Nat lm it := fun e => Nat.lt_irrefl _ (e ▸ l2 (lm, lsto [] 0) (.head _))
  have hrest : ∀ q ∈ (D, lsto (ns.map Sub.v) n1) :: (ns.map Sub.c ++ rest), @Ne Nat q.1 it := fun q hq e => Nat.lt_irrefl _ (e ▸ l2 q (.tail _ hq))
  have hrest2 : ∀ q ∈ (D, lsto (ns.map Sub.v) n1) :: (ns.map Sub.c ++ rest), @Ne Nat q.1 lm := fun q hq => by
    simp only [List.mem_cons, List.mem_append, List.mem_map] at hq
    rcases hq with rfl | ⟨c, hc, rfl⟩ | hq
    · exact hlmD
    · exact hlmc c hc
    · exact hlm q hq
  have hI : h.IsListIter it D j := ⟨oI, N.get (.head _), hIc, hId⟩
  have hDl : h.IsList D (ns.map Sub.v).toArray := ⟨_, N.get (.tail _ (.tail _ (.head _))), rfl, _, rfl⟩
  by_cases hjl : j < ns.length
  · have hjx : (ns.map Sub.v).toArray[j]? = some (Sub.v ns[j]) := by simp [hjl]
    refine wpAny_pyNext_list_item hI hDl hjx fun h2 hI2 s2 => ?_
    obtain ⟨oI2, eI2, hIc2, hId2⟩ := hI2
    obtain ⟨F2, N2⟩ := led_set (pre := []) F N (fun b x e ne => s2.extBut _ _ ne e) eI2 (fun q hq => by cases hq) (fun q hq => by
      rcases List.mem_cons.mp hq with rfl | hq
      · exact hit
      · exact hrest q hq)
    clear F N hI hDl
    dsimp only [List.nil_append] at N2
    dsimp only
    refine wpAny_assign_Name (store_loc_K F2 N2 rfl rfl rfl fun h3 tk3 F3 N3 => ?_)
    clear F2 N2 s2
    have hcm : ns[j] ∈ ns := List.getElem_mem hjl
    generalize hcj : ns[j] = c at *
    have S := hSel c hcm
    obtain ⟨q, M⟩ := mean_ok Z S hk1 hk3
    have mcN : (c.a, lsto c.cs c.n) ∈ (it, oI2) :: (lm, lsto ms nl) :: (D, lsto (ns.map Sub.v) n1) :: (ns.map Sub.c ++ rest) := .tail _ (.tail _ (.tail _ (List.mem_append_left _ (List.mem_map_of_mem (f := Sub.c) hcm))))
    have inR : ∀ q ∈ rest, q ∈ (it, oI2) :: (lm, lsto ms nl) :: (D, lsto (ns.map Sub.v) n1) :: (ns.map Sub.c ++ rest) := fun q hq => .tail _ (.tail _ (.tail _ (List.mem_append_right _ hq)))
    dsimp only
    refine wpAny_execs_cons (wpAny_Assign_Name ?_)
    refine fn_call (x := Str.ofString "_law_mean") (t1 := eval (.Name (Str.ofString "chosen") ⟨232, 25, 232, 31⟩) (lawEnv L f cd)) (trees := [(false, eval (.Name (Str.ofString "worths") ⟨232, 33, 232, 39⟩) (lawEnv L f cd)), (false, eval (.Name (Str.ofString "weights") ⟨232, 41, 232, 48⟩) (lawEnv L f cd))]) X T F3.keep (by k_is) (by k_is) rfl rfl rfl rfl rfl ?_
    refine spliced_cons (wpAny_Name (wpAny_loadName_local rfl rfl F3.ns (if_pos rfl) ?_))
    refine spliced_cons (wpAny_Name (wpAny_loadName_cell rfl rfl rfl ⟨oX, N3.get (inR _ hcX), cX⟩ ?_))
    refine spliced_cons (wpAny_Name (wpAny_loadName_cell rfl rfl rfl ⟨oW, N3.get (inR _ hcW), cW⟩ ?_))
    refine spliced_nil ⟨F3.keep, ?_⟩
    refine wpAny_call (lmean_c (h₀ := g) (es := c.es) (q := q) X T F3.keep ?d1 ?d2 hh (isL_N N3 mcN) (isL_N N3 (inR _ hDx)) (isL_N N3 (inR _ hDw)) c.ok ax aw Z.lx Z.lw (by rw [S.len]; omega) (fun e => by have := S.len; rw [e] at this; simp at this; omega) S.inn M.b1 M.b2 M.ba M.hq (by have := M.hqb; omega) M.hdb ?_)
    case d1 => omega
    case d2 => omega
    intro h4 tk4 t4 r4 k4 ir4
    obtain ⟨F4, N4⟩ := led_keeps F3 N3 k4
    clear F3 N3 k4
    dsimp only
    refine store_loc_K F4 N4 rfl rfl rfl fun h5 tk5 F5 N5 => ?_
    clear F4 N4
    obtain ⟨mm2, F6, hmm2, hmk2, hme, hch⟩ : ∃ mm2, Fr g L h5 mm2 ∧ mm2 (Str.ofString "means") = some (.ref lm) ∧ mm2 (Str.ofString "k") = some (.int (k : Nat) tk0) ∧ mm2 (Str.ofString "mean") = some (.float r4 t4) ∧ mm2 (Str.ofString "chosen") = some (.ref c.a) :=
      ⟨_, F5, (if_neg (by decide)).trans ((if_neg (by decide)).trans hmm), (if_neg (by decide)).trans ((if_neg (by decide)).trans hmk), if_pos rfl, (if_neg (by decide)).trans (if_pos rfl)⟩
    clear F5
    have N6 := N5
    clear N5
    dsimp only
    refine wpAny_execs_cons (wpAny_If (wpAny_isTrue_Compare1 ?_))
    refine wpAny_BinOp (wpAny_Name (wpAny_loadName_local rfl rfl F6.ns hme ?_))
    refine bi_call1 X T F6.keep (by k_is) PyProof.Rows.boot_sum (by decide) rfl rfl rfl rfl rfl rfl ?_
    refine lc_pick (cl := [(Str.ofString "weights", L + 1 + 1)]) hh F6 N6 ?a1 ?a2 ?a3 ?a4 ?a5 (fun C => ?a6) ?a7 ?a8 (isL_N N6 mcN) c.ok (isL_N N6 (inR _ hDw)) aw (by rw [Z.lw]; exact S.inn) (by rw [Z.lw]; omega) (by rw [S.len]; omega) ?a9 ?_
    case a1 => rfl
    case a2 => decide
    case a3 => rfl
    case a4 => decide
    case a5 => (intro _; rfl)
    case a6 => rfl
    case a7 => decide
    case a8 => exact fun C s₃ Q' hk hq => wpAny_Name (wpAny_loadName_cell rfl rfl rfl ⟨oW, hk _ _ (N6.get (inR _ hcW)), cW⟩ hq)
    case a9 => exact fun Q' hq => wpAny_Name (wpAny_loadName_local rfl rfl F6.ns hch hq)
    intro D7 h7 tk7 ys7 n7 a7 F7 N7 l7
    refine sumK hh F7 N7 (isL_N N7 (.head _)) a7 fun h8 tk8 t8 F8 N8' => ?_
    have N8 : News g L h8 ((it, oI2) :: (lm, lsto ms nl) :: (D, lsto (ns.map Sub.v) n1) :: (ns.map Sub.c ++ rest)) := fun q hq => N8' q (.tail _ hq)
    clear F6 N6 F7 N7 N8'
    have wb := wt_bounds Z.wt S.inn
    rw [S.len] at wb
    rw [sum_Wt]
    refine mul_fi_fits (Nat.lt_of_lt_of_le (m := 2 ^ 40) (by omega) p1023) ?_
    have hprod : (q * Wt (xf ws) c.es).natAbs < 2 ^ 53 := by
      have := M.hdb; rw [dot_Nm, M.nm] at this; exact this
    have hmul : IsI (Float64.mul r4 (Float64.ofInt (Wt (xf ws) c.es))) (q * Wt (xf ws) c.es) := IsI_mul ir4 (IsI_ofInt (by omega)) hprod
    dsimp only
    refine bi_call1 X T F8.keep (by k_is) PyProof.Rows.boot_sum (by decide) rfl rfl rfl rfl rfl rfl ?_
    refine lc_prod (cl := [(Str.ofString "worths", L + 1 + 1 + 1), (Str.ofString "weights", L + 1 + 1)]) hh F8 N8 ?a1 ?a2 ?a3 ?a4 ?a5 (fun C => ?a6) ?a7 ?a8 ?b8 (isL_N N8 mcN) c.ok (isL_N N8 (inR _ hDw)) aw (isL_N N8 (inR _ hDx)) ax S.inn Z.lw Z.lx (by rw [S.len]; omega) ?b7 ?a9 ?_
    case a1 => rfl
    case a2 => decide
    case a3 => rfl
    case a4 => decide
    case a5 => (intro _; rfl)
    case a6 => rfl
    case a7 => decide
    case a8 => exact fun C s₃ Q' hk hq => wpAny_Name (wpAny_loadName_cell rfl rfl rfl ⟨oW, hk _ _ (N8.get (inR _ hcW)), cW⟩ hq)
    case b8 => exact fun C s₃ Q' hk hq => wpAny_Name (wpAny_loadName_cell rfl rfl rfl ⟨oX, hk _ _ (N8.get (inR _ hcX)), cX⟩ hq)
    case b7 => exact fun i h0 h6 => by have := Z.wt i h0 h6; unfold xf at this; omega
    case a9 => exact fun Q' hq => wpAny_Name (wpAny_loadName_local rfl rfl F8.ns hch hq)
    intro D9 h9 tk9 ys9 n9 a9 F9 N9 l9
    refine sumK hh F9 N9 (isL_N N9 (.head _)) a9 fun h10 tk10 t10 F10 N10' => ?_
    have N10 : News g L h10 ((it, oI2) :: (lm, lsto ms nl) :: (D, lsto (ns.map Sub.v) n1) :: (ns.map Sub.c ++ rest)) := fun q hq => N10' q (.tail _ hq)
    clear F8 N8 F9 N9 N10'
    rw [pprod_sum, M.nm]
    refine PyProof.Rows.ne_fi (wpAny_truthy_bool ?_)
    have hbne : (Float64.cmpInt (Float64.mul r4 (Float64.ofInt (Wt (xf ws) c.es))) (q * Wt (xf ws) c.es) != some Ordering.eq) = false := by
      show (!(Float64.cmpInt _ _ == some Ordering.eq)) = false
      rw [IsI_eqInt hmul]; simp
    rw [hbne]
    simp only [Bool.false_eq_true, if_false]
    refine wpAny_execs_nil ?_
    dsimp only
    refine wpAny_execs_cons (wpAny_Expr (wpAny_Call_method (T := "list") (id := "list.append") rfl rfl rfl PySem.F.plainAttrs_list PySem.F.slot_list_append PySem.F.type_list_append ?_) rfl rfl)
    refine wpAny_Name (wpAny_loadName_local rfl rfl F10.ns hmm2 ?_)
    have hlm10 := N10.get (a := lm) (o := lsto ms nl) (.tail _ (.head _))
    refine ⟨⟨_, hlm10, rfl⟩, fun a e => ⟨_, by cases e; exact hlm10, rfl⟩, ?_⟩
    refine Calls.callWith_builtin rfl (Calls.evalArgs_plain (Calls.spliced_cons ?_))
    refine wpAny_Name (wpAny_loadName_local rfl rfl F10.ns hme ?_)
    refine Calls.spliced_nil ?_
    have hlen : ms.length < 1000 := by
      have e1 := Mine.Paired.len hms
      have e2 := Mine.Paired.len hqs
      rw [List.length_take] at e2
      omega
    refine append_at hlm10 (fun h11 s11 d11 => ?_) (by rw [List.size_toArray, sizeLine_eq]; omega)
    obtain ⟨F12, N12⟩ := led_set (pre := [(it, oI2)]) F10 N10 (fun b x e ne => s11.extBut _ _ ne e) d11 (fun q hq => by simp only [List.mem_singleton] at hq; subst hq; exact fun e => hit e.symm) hrest2
    dsimp only
    refine wpAny_execs_nil ?_
    dsimp only
    refine ⟨n - 1, by omega, h11, tk10, j + 1, mm2, oI2, ms ++ [.float r4 t4], nl + 1, qs ++ [q], rfl, by omega, hjl, F12, hmm2, hmk2, hIc2, hId2, ?_, hms.snoc ⟨r4, t4, rfl, ir4⟩, ?_⟩
    · have e : lsto (ms ++ [.float r4 t4]) (nl + 1) = { cls := .type "list", data := .seq (ms.toArray.push (.float r4 t4)) (nl + 1) } := by simp [lsto]
      rw [e]
      exact N12
    · rw [List.take_succ_eq_append_getElem hjl, hcj]
      exact hqs.snoc M.nm
  · have hj' : j = ns.length := by omega
    subst hj'
    refine wpAny_pyNext_list_end hh hI hDl (by simp) fun h2 s2 => ?_
    have F2 : Fr g L h2 mm := fr_chg F [it] (fun c hc => by simp only [List.mem_singleton] at hc; subst hc; exact ⟨(N _ (.head _)).2.2, (N _ (.head _)).2.1⟩) fun c o hc e => s2 _ _ (by simpa using hc) e
    have N2 : News g L h2 ((lm, lsto ms nl) :: rest) := by
      intro q hq
      have hN := N q (by
        rcases List.mem_cons.mp hq with rfl | hq
        · exact .tail _ (.head _)
        · exact .tail _ (.tail _ (.tail _ (List.mem_append_right _ hq))))
      refine ⟨s2 _ _ ?_ hN.1, hN.2⟩
      rcases List.mem_cons.mp hq with rfl | hq
      · exact hit
      · exact hrest q (.tail _ (List.mem_append_right _ hq))
    dsimp only
    refine wpAny_execs_nil ?_
    rw [List.take_length] at hqs
    exact ⟨rfl, h2, tk, mm, ms, nl, qs, rfl, F2, hmm, hmk, N2, hms, hes ▸ Mine.Paired.onMap hqs⟩
end Mine
end

section
open PySem PySem.W PySem.Spec PySem.Calls PyProof.Rows
set_option maxRecDepth 100000
namespace Mine
theorem sum_perm {l l' : List Int} (h : l.Perm l') : l.sum = l'.sum := by
  induction h with
  | nil => rfl
  | cons a _ ih => simp only [List.sum_cons, ih]
  | swap a b l => simp only [List.sum_cons]; omega
  | trans _ _ h1 h2 => exact h1.trans h2
def places : List Int := [0, 1, 2, 3, 4, 5]
theorem places_of {a : Int} (h : 0 ≤ a ∧ a < 6) : a ∈ places := by
  have : a = 0 ∨ a = 1 ∨ a = 2 ∨ a = 3 ∨ a = 4 ∨ a = 5 := by omega
  rcases this with rfl | rfl | rfl | rfl | rfl | rfl <;> decide
theorem full_all1 : ∀ a ∈ places, ∃ es ∈ full 1 (grown 1 6), es.isPerm [a] = true := by decide +kernel
theorem full_all2 : ∀ a ∈ places, ∀ b ∈ places, a ≠ b → ∃ es ∈ full 2 (grown 2 6), es.isPerm [a, b] = true := by decide +kernel
theorem full_all3 : ∀ a ∈ places, ∀ b ∈ places, ∀ c ∈ places, a ≠ b ∧ a ≠ c ∧ b ≠ c → ∃ es ∈ full 3 (grown 3 6), es.isPerm [a, b, c] = true := by decide +kernel
theorem full_all {k : Nat} (hk1 : 0 < k) (hk3 : k ≤ 3) {S : List Int} (h : Sel k S) : ∃ es ∈ full k (grown k 6), es.Perm S := by
  obtain ⟨hl, hn, hi⟩ := h
  have : k = 1 ∨ k = 2 ∨ k = 3 := by omega
  rcases this with rfl | rfl | rfl
  · match S, hl with
    | [a], _ =>
      obtain ⟨es, h1, h2⟩ := full_all1 a (places_of (hi a (by simp)))
      exact ⟨es, h1, List.isPerm_iff.mp h2⟩
  · match S, hl with
    | [a, b], _ =>
      obtain ⟨es, h1, h2⟩ := full_all2 a (places_of (hi a (by simp))) b (places_of (hi b (by simp))) (by simpa using hn)
      exact ⟨es, h1, List.isPerm_iff.mp h2⟩
  · match S, hl with
    | [a, b, c], _ =>
      obtain ⟨es, h1, h2⟩ := full_all3 a (places_of (hi a (by simp))) b (places_of (hi b (by simp))) c (places_of (hi c (by simp))) (by simp at hn; exact ⟨hn.1.1, hn.1.2, hn.2⟩)
      exact ⟨es, h1, List.isPerm_iff.mp h2⟩
theorem paired_of {α β : Type} {F : α → β → Prop} : ∀ {l : List α} {l' : List β}, Paired F l l' → (∀ a ∈ l, ∃ b ∈ l', F a b) ∧ ∀ b ∈ l', ∃ a ∈ l, F a b
  | _, _, .nil => ⟨(fun _ h => by cases h), (fun _ h => by cases h)⟩
  | _, _, .cons (a := a₀) (b := b₀) h r => by
    obtain ⟨i1, i2⟩ := paired_of r
    constructor
    · intro a ha
      rcases List.mem_cons.mp ha with rfl | ha
      · exact ⟨b₀, .head _, h⟩
      · obtain ⟨b, hb, q⟩ := i1 a ha; exact ⟨b, .tail _ hb, q⟩
    · intro b hb
      rcases List.mem_cons.mp hb with rfl | hb
      · exact ⟨a₀, .head _, h⟩
      · obtain ⟨a, ha, q⟩ := i2 b hb; exact ⟨a, .tail _ ha, q⟩
/-- the best mean is the greatest (the least) of those told -/
theorem best_is {up : Bool} {k : Nat} {xs ws qs : List Int} {M q : Int} (Z : Six xs ws) (hk1 : 0 < k) (hk3 : k ≤ 3) (B : Best up k xs ws M) (P : Paired (fun es q => Nm (xf xs) (xf ws) es = q * Wt (xf ws) es) (full k (grown k 6)) qs)
    (hq : q ∈ qs) (hm : ∀ j ∈ qs, if up = true then j ≤ q else q ≤ j) : M = q := by
  obtain ⟨⟨S, hS, eS⟩, hB⟩ := B
  obtain ⟨i1, i2⟩ := paired_of P
  have wpos : ∀ es, Sel k es → 0 < Wt (xf ws) es := fun es he => by
    have wb := wt_bounds Z.wt he.inn
    rw [he.len] at wb; omega
  obtain ⟨es, hes, hp⟩ := full_all hk1 hk3 hS
  obtain ⟨j, hj, ej⟩ := i1 es hes
  have e1 : Wt (xf ws) es = Wt (xf ws) S := sum_perm (hp.map _)
  have e2 : Nm (xf xs) (xf ws) es = Nm (xf xs) (xf ws) S := sum_perm (hp.map _)
  rw [e1, e2] at ej
  have hMj : M = j := mean_uniq eS ej (wpos S hS)
  subst hMj
  obtain ⟨eq, heq, eeq⟩ := i2 q hq
  have hs := full_sel hk1 hk3 eq heq
  have h1 := hB eq hs
  have h2 := hm M hj
  have hp := wpos eq hs
  cases up
  · simp only [Bool.false_eq_true, if_false] at h1 h2
    rw [eeq] at h1
    have := Int.le_of_mul_le_mul_right h1 hp
    omega
  · simp only [if_true] at h1 h2
    rw [eeq] at h1
    have := Int.le_of_mul_le_mul_right h1 hp
    omega
set_option maxHeartbeats 4000000 in
theorem law_end {w : World} {A : Around} {s : Shared} {g : Heap} {p : Program} {loose : List Str} {mean : ExcName → Option Value} {mg mb : Str → Option Value} {L f : Addr} {cd : Value} {m : Str → Option Value} {Q : Flow → Shared → Prop}
   {k : Nat} {tk0 : Tok} {xs ws qs : List Int} {us vs ms : List Value} {lm Dx Dw : Addr} {oX oW : Obj}
   (X : (Mine.hd.heap_39 w.params).In g) (T : Top p loose mean mg mb g) (hS : NoShare g) (C : CodeHd g 152 150) (h150 : g.get? 150 = none) (hL : @LT.lt Nat _ 150 L) (hroom : A.depth + 70 < recursionLimit) (hun : A.units + 260 < cLine) (hh : A.handled = none)
   (F : Fr g L s.heap m) (htab : TabAt s.heap) (jm : s.heap.IsList lm ms.toArray) (hms : Paired FloatIs ms qs) (hqs : Paired (fun es q => Nm (xf xs) (xf ws) es = q * Wt (xf ws) es) (full k (grown k 6)) qs)
   (eX : s.heap.get? (L + 1 + 1 + 1) = some oX) (cX : oX.data = .cell (some (.ref Dx))) (eW : s.heap.get? (L + 1 + 1) = some oW) (cW : oW.data = .cell (some (.ref Dw))) (jx : s.heap.IsList Dx us.toArray) (jw : s.heap.IsList Dw vs.toArray)
   (ax : IntsAre us xs) (aw : IntsAre vs ws) (Z : Six xs ws) (hk1 : 0 < k) (hk3 : k ≤ 3) (hmk : m (Str.ofString "k") = some (.int (k : Nat) tk0)) (hmm : m (Str.ofString "means") = some (.ref lm))
   (hQ : ∀ h' tk', (∀ c o, c ≠ 150 → s.heap.get? c = some o → h'.get? c = some o) → TabAt h' → Q (.ret (.bool true)) { s with heap := h', toks := tk' }) :
   wpAny (model PySem.Challenge.rw_op0141_01.row.prog w) A (execs lawEnd (lawEnv L f cd)) Q (fun _ _ => False) s := by
  have hpos : 0 < ms.length := by
    have e1 := Mine.Paired.len hms
    have e2 := Mine.Paired.len hqs
    have : k = 1 ∨ k = 2 ∨ k = 3 := by omega
    have e3 : 0 < (full (k : Nat) (grown (k : Nat) 6)).length := by rcases this with rfl | rfl | rfl <;> decide +kernel
    omega
  have notTab : ∀ {h : Heap} {l : Addr} {zs : Array Value}, h.IsList l zs → TabAt h → l ≠ 150 := by
    rintro h l zs ⟨o, e, c, _⟩ ⟨ps, e2, _⟩ q
    rw [q, e2] at e; cases e; cases c
  have lists : ∀ {h h' : Heap} {l : Addr} {zs : Array Value}, TabAt h → h.IsList l zs → (∀ c o, c ≠ 150 → h.get? c = some o → h'.get? c = some o) → h'.IsList l zs := by
    intro h h' l zs ht hl hk
    have := notTab hl ht
    obtain ⟨o, e, c, r⟩ := hl
    exact ⟨o, hk _ _ this e, c, r⟩
  have frs : ∀ {h h' : Heap}, Fr g L h m → (∀ c o, c ≠ 150 → h.get? c = some o → h'.get? c = some o) → Fr g L h' m := fun F hk =>
    fr_chg F [150] (fun c hc => by simp only [List.mem_singleton] at hc; subst hc; exact ⟨h150, fun e => Nat.ne_of_lt hL e⟩) (fun c o hc e => hk c o (by simpa using hc) e)
  have nX : @Ne Nat (L + 1 + 1 + 1) 150 := fun e => by have e' : L + 1 + 1 + 1 = 150 := e; have hL' : 150 < L := hL; omega
  have nW : @Ne Nat (L + 1 + 1) 150 := fun e => by have e' : L + 1 + 1 = 150 := e; have hL' : 150 < L := hL; omega
  revert X; k_fill; intro X
  refine wpAny_execs_cons (wpAny_If (wpAny_isTrue_Compare1 ?_))
  refine fn_call (x := Str.ofString "_law_where_it_stays") (t1 := eval (.Constant (.bool true) 0 ⟨236, 27, 236, 31⟩) (lawEnv L f cd)) (trees := [(false, eval (.Name (Str.ofString "k") ⟨236, 33, 236, 34⟩) (lawEnv L f cd)), (false, eval (.Name (Str.ofString "worths") ⟨236, 36, 236, 42⟩) (lawEnv L f cd)), (false, eval (.Name (Str.ofString "weights") ⟨236, 44, 236, 51⟩) (lawEnv L f cd))]) X T F.keep (by k_is) (by k_is) rfl rfl rfl rfl rfl ?_
  refine spliced_cons (wpAny_Constant_bool ?_)
  refine spliced_cons (wpAny_Name (wpAny_loadName_local rfl rfl F.ns hmk ?_))
  refine spliced_cons (wpAny_Name (wpAny_loadName_cell rfl rfl rfl ⟨oX, eX, cX⟩ ?_))
  refine spliced_cons (wpAny_Name (wpAny_loadName_cell rfl rfl rfl ⟨oW, eW, cW⟩ ?_))
  refine spliced_nil ⟨F.keep, ?_⟩
  refine wpAny_call (wis_c (h₀ := g) (up := true) (k := k) (tk0 := tk0) X T hS C F.keep h150 htab ?d1 ?d2 hh jx jw ax aw Z hk1 hk3 ?_)
  case d1 => omega
  case d2 => omega
  intro h1 tk1 t1 r1 M1 k1 htab1 i1 B1
  (try dsimp only at k1)
  have F1 := frs F k1
  have jm1 := lists htab jm k1
  dsimp only
  refine bi_call1 X T F1.keep (by k_is) PyProof.Rows.boot_max (by decide) rfl rfl rfl rfl rfl rfl ?_
  refine wpAny_Name (wpAny_loadName_local rfl rfl F1.ns hmm ?_)
  refine max_list hh jm1 hms hpos fun x2 t2 q2 h2 tk2 hq2 hmax i2 k2 => ?_
  refine AutoFloatOps.ne_0 ?_
  have e1 : M1 = q2 := best_is Z hk1 hk3 B1 hqs hq2 (by simpa using hmax)
  have hbne : (Float64.cmp r1 x2 != some Ordering.eq) = false := by
    show (!(Float64.cmp _ _ == some Ordering.eq)) = false
    rw [IsI_eq i1 i2, e1]; simp
  rw [hbne]
  refine wpAny_truthy_bool ?_
  simp only [Bool.false_eq_true, if_false]
  refine wpAny_execs_nil ?_
  (try dsimp only at k2 ⊢)
  have kk2 : ∀ c o, c ≠ 150 → s.heap.get? c = some o → h2.get? c = some o := fun c o hc e => k2 _ _ (k1 _ _ hc e)
  have tab2 : TabAt h2 := by
    obtain ⟨ps, e, a, b⟩ := htab1
    exact ⟨ps, k2 _ _ e, a, fun pos cv q => (b pos cv q).keeps k2⟩
  clear k1 htab1 F1 jm1 k2
  have F2 := frs F kk2
  refine wpAny_execs_cons (wpAny_Return_some (wpAny_Compare1 ?_))
  refine fn_call (x := Str.ofString "_law_where_it_stays") (t1 := eval (.Constant (.bool false) 0 ⟨238, 31, 238, 36⟩) (lawEnv L f cd)) (trees := [(false, eval (.Name (Str.ofString "k") ⟨238, 38, 238, 39⟩) (lawEnv L f cd)), (false, eval (.Name (Str.ofString "worths") ⟨238, 41, 238, 47⟩) (lawEnv L f cd)), (false, eval (.Name (Str.ofString "weights") ⟨238, 49, 238, 56⟩) (lawEnv L f cd))]) X T F2.keep (by k_is) (by k_is) rfl rfl rfl rfl rfl ?_
  refine spliced_cons (wpAny_Constant_bool ?_)
  refine spliced_cons (wpAny_Name (wpAny_loadName_local rfl rfl F2.ns hmk ?_))
  refine spliced_cons (wpAny_Name (wpAny_loadName_cell rfl rfl rfl ⟨oX, kk2 _ _ nX eX, cX⟩ ?_))
  refine spliced_cons (wpAny_Name (wpAny_loadName_cell rfl rfl rfl ⟨oW, kk2 _ _ nW eW, cW⟩ ?_))
  refine spliced_nil ⟨F2.keep, ?_⟩
  refine wpAny_call (wis_c (h₀ := g) (up := false) (k := k) (tk0 := tk0) X T hS C F2.keep h150 tab2 ?d1 ?d2 hh (lists htab jx kk2) (lists htab jw kk2) ax aw Z hk1 hk3 ?_)
  case d1 => omega
  case d2 => omega
  intro h3 tk3 t3 r3 M3 k3 htab3 i3 B3
  (try dsimp only at k3)
  have kk3 : ∀ c o, c ≠ 150 → s.heap.get? c = some o → h3.get? c = some o := fun c o hc e => k3 _ _ hc (kk2 _ _ hc e)
  have F3 := frs F kk3
  have jm3 := lists htab jm kk3
  dsimp only
  refine bi_call1 X T F3.keep (by k_is) PyProof.Rows.boot_min (by decide) rfl rfl rfl rfl rfl rfl ?_
  refine wpAny_Name (wpAny_loadName_local rfl rfl F3.ns hmm ?_)
  refine min_list hh jm3 hms hpos fun x4 t4 q4 h4 tk4 hq4 hmin i4 k4 => ?_
  refine AutoFloatOps.eq_0 ?_
  have e3 : M3 = q4 := best_is Z hk1 hk3 B3 hqs hq4 (by simpa using hmin)
  have hbe : (Float64.cmp r3 x4 == some Ordering.eq) = true := by rw [IsI_eq i3 i4, e3]; simp
  rw [hbe]
  (try dsimp only at k4 ⊢)
  refine hQ _ _ (fun c o hc e => k4 _ _ (kk3 _ _ hc e)) ?_
  obtain ⟨ps, e, a, b⟩ := htab3
  exact ⟨ps, k4 _ _ e, a, fun pos cv q => (b pos cv q).keeps k4⟩
end Mine
end

section
open PySem PySem.W PySem.Spec PySem.Calls PyProof.Rows
set_option maxRecDepth 100000
namespace Mine
/-- what _law_worth gives -/
def worth (n : Int) : Int :=
  if (n.fdiv 2).fmod 2 = 1 then ((n.fdiv 2).fdiv 2).fmod 5
  else if (if (n.fdiv 2).fdiv 2 < 0 then -(n.fdiv 2).fdiv 2 else (n.fdiv 2).fdiv 2) < 1073741824 then (n.fdiv 2).fdiv 2 else ((n.fdiv 2).fdiv 2).fmod 1073741824
theorem worth_c {w : World} {A : Around} {s : Shared} {R : Result → Shared → Prop} {h₀ : Heap} {p : Program} {loose : List Str} {mean : ExcName → Option Value} {mg mb : Str → Option Value}
   {n : Int} {t : Tok}
   (X : (Mine.hd.heap_39 w.params).In h₀) (T : Top p loose mean mg mb h₀) (hk : Keeps h₀ s.heap) (hroom : A.depth + 12 < recursionLimit) (hun : A.units + 70 < cLine) (hh : A.handled = none)
   (hR : ∀ h' tk' t', Keeps s.heap h' → R (.ok (.ret (.int (worth n) t'))) { s with heap := h', toks := tk' }) :
   codeAny (model PySem.Challenge.rw_op0141_01.row.prog w) A (.call (.ref 138) ⟨[.int n t], []⟩) R s := by
  k_with_none
  w_top off
  revert X; k_fill; intro X
  refine' enterM X T hk [] ?hh ?k6 ?k7 ?k8 ?k9 ?kB ?_ ?c2 ?c3 ?c4 ?c5
  case hh => intro q hq; cases hq
  case k6 => k_is
  case k7 => k_is
  case k8 => omega
  case k9 => exact BindsTo.of_eq rfl
  case kB => exact locs rfl
  case c5 => decide
  case c2 => rfl
  case c3 => rfl
  case c4 => rfl
  intro g L' h₁ hg hkg X' T' F' N' hL
  have hg' : Keeps s.heap g := fun b o e => hg b o e (by intro q hq; cases hq)
  clear hg hL hk hkg
  (try dsimp only)
  have e30 : (2 : Int) ^ Int.toNat 30 = 1073741824 := by decide
  have fin : ∀ (v : Int) (h' : Heap) (tk' : Nat) (t' : Tok), worth n = v → Keeps g h' → R (.ok (.ret (.int v t'))) { s with heap := h', toks := tk' } := fun v h' tk' t' e k => e ▸ hR h' tk' t' (fun b o q => k b o (hg' b o q))
  k_steps
  · rename_i c1
    exact fin _ _ _ _ (by unfold worth; rw [if_pos c1]) (Fr.keep (by assumption))
  · rename_i c1 _ _ _ c2
    rw [e30] at c2
    exact fin _ _ _ _ (by unfold worth; rw [if_neg c1, if_pos c2]) (Fr.keep (by assumption))
  · rename_i c1 _ _ _ c2
    rw [e30] at c2 ⊢
    exact fin _ _ _ _ (by unfold worth; rw [if_neg c1, if_neg c2]) (Fr.keep (by assumption))
section
variable {w : World} {A : Around} {E : Value → Shared → Prop} {s : Shared} {g : Heap} {L : Addr} {m : Str → Option Value} {news : List (Addr × Obj)} {p : Program} {loose : List Str} {mean : ExcName → Option Value} {mg mb : Str → Option Value}
theorem worth_K {n : Int} {t : Tok} {Q : Value → Shared → Prop} (X : (Mine.hd.heap_39 w.params).In g) (T : Top p loose mean mg mb g) (F : Fr g L s.heap m) (N : News g L s.heap news)
    (hroom : A.depth + 12 < recursionLimit) (hun : A.units + 70 < cLine) (hh : A.handled = none)
    (h : ∀ h' tk' t', Fr g L h' m → News g L h' news → Q (.int (worth n) t') { s with heap := h', toks := tk' }) :
    wpAny (model PySem.Challenge.rw_op0141_01.row.prog w) A (call (.ref 138) [.int n t]) Q E s :=
  wpAny_call (worth_c X T F.keep hroom hun hh fun h' tk' t' k => h h' tk' t' (led_keeps F N k).1 (led_keeps F N k).2)
end
end Mine
end

section
open PySem PySem.W PySem.Spec PySem.Calls PyProof.Rows
set_option maxRecDepth 100000
namespace Mine
/-- a name that the written heap's namespace has not -/
theorem ns_none_of {K : Frag} {h : Heap} {ns : Addr} {mc : Str → Option Value} {n : Str} (X : K.In h) (G : h.Ns ns mc) (e : nsIn K ns n = some none) : mc n = none := by
  obtain ⟨o, es, ep, ho, hd, _, hf⟩ := G
  unfold nsIn at e
  split at e
  · rename_i c d es' n' sl q
    have hx := X _ _ q
    rw [ho] at hx
    cases hx
    cases hd
    split at e
    · cases e
    · rename_i he
      have h1 : nsFind es n = none := by
        unfold nsFind findBy
        rw [← Array.find?_toList, he]
        rfl
      exact (hf n).symm.trans h1
  · cases e
theorem noShare_of {w : World} {g : Heap} {p : Program} {loose : List Str} {mean : ExcName → Option Value} {mg mb : Str → Option Value} (X : (Mine.hd.heap_39 w.params).In g) (T : Top p loose mean mg mb g) : NoShare g := by
  obtain ⟨mc, G, _⟩ := T.nodigits
  have e : nsIn (Mine.hd.heap_39 w.params) cStatics sharingNotToldKey = some none := by
    clear X T G
    first | k_is | (k_fill; k_is) | (with_unfolding_all rfl)
  exact ⟨mc, G, ns_none_of X G e⟩
theorem worth_small (n : Int) : (worth n).natAbs ≤ 2 ^ 30 := by
  unfold worth
  generalize (n.fdiv 2) = y
  generalize hz : y.fdiv 2 = z
  have a1 := Int.fmod_nonneg_of_pos z (b := 5) (by decide)
  have a2 := Int.fmod_lt_of_pos z (b := 5) (by decide)
  have a3 := Int.fmod_nonneg_of_pos z (b := 1073741824) (by decide)
  have a4 := Int.fmod_lt_of_pos z (b := 1073741824) (by decide)
  split
  · omega
  · by_cases h0 : z < 0
    · rw [if_pos h0]; split <;> omega
    · rw [if_neg h0]; split <;> omega
/-- law's worths and weights are six, whole sixties, and 1 or 2 -/
theorem six_of {hs : List Int} (h6 : hs.length = 6) :
    Six (hs.map fun k' => 60 * worth k')
      (hs.map fun k' => 1 + k'.fmod 2) := by
  have hat : ∀ (f : Int → Int) (i : Int), 0 ≤ i → i < 6 → ∃ n, xf (hs.map f) i = f n := fun f i h0 h1 => by
    have hi : i.toNat < hs.length := by omega
    refine ⟨hs[i.toNat], ?_⟩
    unfold xf
    rw [List.getD_eq_getElem?_getD, List.getElem?_map, List.getElem?_eq_getElem hi]
    rfl
  refine ⟨by rw [List.length_map, h6], by rw [List.length_map, h6], fun i h0 h1 => ?_, fun i h0 h1 => ?_, fun i h0 h1 => ?_⟩
  · obtain ⟨n, e⟩ := hat _ i h0 h1
    rw [e]
    have a1 := Int.fmod_nonneg_of_pos n (b := 2) (by decide)
    have a2 := Int.fmod_lt_of_pos n (b := 2) (by decide)
    (try dsimp only)
    omega
  · obtain ⟨n, e⟩ := hat _ i h0 h1
    exact ⟨_, e⟩
  · obtain ⟨n, e⟩ := hat _ i h0 h1
    rw [e]
    have := worth_small n
    (try dsimp only)
    omega
set_option maxHeartbeats 4000000 in
theorem law_all {w : World} {s : Shared} {g : Heap} {p : Program} {loose : List Str} {mean : ExcName → Option Value} {mg mb : Str → Option Value} {L f : Addr} {cd : Value} {m : Str → Option Value} {nx nw : Nat}
   {z : Int} {xs ws : List Int} {us vs : List Value} {lm Dx Dw : Addr} {oX oW : Obj}
   (X : (Mine.hd.heap_39 w.params).In g) (T : Top p loose mean mg mb g) (C : CodeHd g 152 150) (hL : 150 < L ∧ 126 < L)
   (F : Fr g L s.heap m) (N0 : News g L s.heap ((lm, lsto [] 0) :: [(Dx, lsto us nx), (Dw, lsto vs nw), (L + 1 + 1 + 1, oX), (L + 1 + 1, oW), (150, tabObj #[]), (126, tabObj #[])]))
   (hlm : ∀ q ∈ [(Dx, lsto us nx), (Dw, lsto vs nw), (L + 1 + 1 + 1, oX), (L + 1 + 1, oW), (150, tabObj #[]), (126, tabObj #[])], q.1 ≠ lm)
   (cX : oX.data = .cell (some (.ref Dx))) (cW : oW.data = .cell (some (.ref Dw))) (ax : IntsAre us xs) (aw : IntsAre vs ws) (Z : Six xs ws)
   (hmk : ∃ tk0, m (Str.ofString "k") = some (.int (1 + z.fmod 3) tk0)) (hmm : m (Str.ofString "means") = some (.ref lm)) :
   wpAny (model PySem.Challenge.rw_op0141_01.row.prog w) (callerA.deeper (lawEnv L f cd)) (exec lawFor (lawEnv L f cd)) (fun fl s' => fl = .next ∧
     wpAny (model PySem.Challenge.rw_op0141_01.row.prog w) (callerA.deeper (lawEnv L f cd)) (execs lawEnd (lawEnv L f cd)) (fun fl s'' => fl = .ret (.bool true) ∧ ∃ (h' : Heap) (tk' : Nat) (ps : Array Value) (m' : Str → Option Value), s'' = { s with heap := h', toks := tk' } ∧ Fr g L h' m' ∧ News g L h' [(150, tabObj ps), (126, tabObj #[])]) (fun _ _ => False) s') (fun _ _ => False) s := by
  have a1 := Int.fmod_nonneg_of_pos z (b := 3) (by decide)
  have a2 := Int.fmod_lt_of_pos z (b := 3) (by decide)
  obtain ⟨k, hkz⟩ : ∃ k : Nat, 1 + z.fmod 3 = (k : Nat) := ⟨(1 + z.fmod 3).toNat, by omega⟩
  obtain ⟨tk0, hmk⟩ := hmk
  rw [hkz] at hmk
  have hk1 : 0 < k := by omega
  have hk3 : k ≤ 3 := by omega
  have hd : (callerA.deeper (lawEnv L f cd)).depth + 70 < recursionLimit := by simp only [depth_deeper, depth_caller]; decide
  have hu : (callerA.deeper (lawEnv L f cd)).units + 260 < cLine := by simp only [units_deeper, units_caller]; decide
  have hh : (callerA.deeper (lawEnv L f cd)).handled = none := rfl
  have hS := noShare_of X T
  have h150 : g.get? 150 = none := (N0 (150, tabObj #[]) (by k_mem)).2.2
  generalize callerA.deeper (lawEnv L f cd) = A at *
  refine wpAny_mono (law_for (k := k) (tk0 := tk0) (xs := xs) (ws := ws) (us := us) (vs := vs) (lm := lm) (Dx := Dx) (Dw := Dw) (nx := nx) (nw := nw) X T (by omega) (by omega) hh F N0 hlm ?e1 cX ?e2 cW ?e3 ?e4 ax aw Z hk1 hk3 hmk hmm) (fun fl s' hm => ?_) (fun _ _ x => x)
  case e1 => k_mem
  case e2 => k_mem
  case e3 => exact .head _
  case e4 => exact .tail _ (.head _)
  obtain ⟨rfl, h, tk, mm, ms, nl, qs, rfl, F1, hmm1, hmk1, N1, hms, hqs⟩ := hm
  refine ⟨rfl, ?_⟩
  refine law_end (k := k) (tk0 := tk0) (xs := xs) (ws := ws) (qs := qs) (us := us) (vs := vs) (ms := ms) (lm := lm) (Dx := Dx) (Dw := Dw) X T hS C h150 hL.1 hd hu hh F1 ⟨#[], N1.get (by k_mem), trivial, fun pos cv e => by cases e⟩ (isL_N N1 (.head _)) hms hqs (N1.get (by k_mem)) cX (N1.get (by k_mem)) cW (isL_N (n := nx) N1 (.tail _ (.head _))) (isL_N (n := nw) N1 (.tail _ (.tail _ (.head _)))) ax aw Z hk1 hk3 hmk1 hmm1 ?_
  intro h' tk' hkk htab
  obtain ⟨ps, e, _, _⟩ := htab
  have F2 : Fr g L h' mm := fr_chg F1 [150] (fun c hc => by simp only [List.mem_singleton] at hc; subst hc; exact ⟨h150, fun e => Nat.ne_of_lt hL.1 e⟩) (fun c o hc e => hkk c o (by simpa using hc) e)
  refine ⟨rfl, h', tk', ps, mm, rfl, F2, ?_⟩
  intro q hq
  simp only [List.mem_cons, List.not_mem_nil, or_false] at hq
  rcases hq with rfl | rfl
  · exact ⟨e, (N1 (150, tabObj #[]) (by k_mem)).2⟩
  · have hn := N1 (126, tabObj #[]) (by k_mem)
    exact ⟨hkk _ _ (by decide) hn.1, hn.2⟩
end Mine
end

section
open PySem PySem.W PySem.Spec PySem.Calls PyProof.Rows
set_option maxRecDepth 100000
namespace Mine
def lawMid : List Stmt := lawParts.1.drop 2
section
variable {prog : Program} {w : World} {A : Around} {E : Value → Shared → Prop} {s : Shared} {env : Env} {g : Heap} {L : Addr} {m : Str → Option Value} {news : List (Addr × Obj)}
/-- hands[:6] -/
theorem cut_eval {hN : Str} {p1 p2 pc ps : Pos} {Dh : Addr} {hv : List Value} {hs : List Int} {Q : Value → Shared → Prop} (F : Fr g L s.heap m) (N : News g L s.heap news) (hl : s.heap.IsList Dh hv.toArray) (ah : IntsAre hv hs) (hlen : hv.length ≤ 100)
    (hname : ∀ Q' : Value → Shared → Prop, Q' (.ref Dh) s → wpAny (model prog w) A (eval (.Name hN p1) env) Q' E s)
    (h : ∀ D ws h' tk', IntsAre ws (hs.take 6) → Fr g L h' m → News g L h' ((D, lsto ws 0) :: news) → (∀ q ∈ news, q.1 < D) → Q (.ref D) { s with heap := h', toks := tk' }) :
    wpAny (model prog w) A (eval (.Subscript (.Name hN p1) (.Slice none (some (.Constant (.int 6) 0 p2)) none pc) ps) env) Q E s := by
  refine Subscript_ (hname _ (wpAny_Slice ?_))
  refine evalPart_none_step (evalPart_some_step (wpAny_Constant_int (evalPart_none_step ?_)))
  refine kmk_slice_ints (lo := none) (hi := some 6) F N hl .none (.int _ _) ah (kmk_upto ah (by decide)) rfl (fun D ws h' F' N' l1 hI _ _ => h D ws h' _ hI F' N' l1) (by with_unfolding_all rfl) (fun _ => by with_unfolding_all rfl) (by rw [List.size_toArray, sizeLine_eq]; omega)
end
/-- a list and a cell lie apart -/
theorem list_ne_cell {h : Heap} {a c : Addr} {vs : List Value} {n : Nat} {o : Obj} {v : Option Value} (e1 : h.get? a = some (lsto vs n)) (e2 : h.get? c = some o) (d : o.data = .cell v) : @Ne Nat a c := fun e => by
  have e' : a = c := e
  rw [e', e2] at e1
  cases e1
  cases d
set_option maxHeartbeats 4000000 in
theorem law_mid {w : World} {s : Shared} {g : Heap} {p : Program} {loose : List Str} {mean : ExcName → Option Value} {mg mb : Str → Option Value} {L f : Addr} {cd : Value} {m : Str → Option Value} {q1 q2 q3 q7 : Addr × Obj}
   {z : Int} {hs : List Int} {hv : List Value} {Dh : Addr} {nh : Nat} {oX oW : Obj}
   (X : (Mine.hd.heap_39 w.params).In g) (T : Top p loose mean mg mb g) (C : CodeHd g 152 150) (hL : 150 < L ∧ 126 < L)
   (F : Fr g L s.heap m) (N : News g L s.heap [q1, (Dh, listOf hv.toArray nh), q2, q3, (L + 1 + 1 + 1, oX), (L + 1 + 1, oW), q7, (150, tabObj #[]), (126, tabObj #[])])
   (cX : oX.data = .cell none) (cW : oW.data = .cell none) (ah : IntsAre hv hs) (h6 : 6 ≤ hs.length) (h100 : hs.length ≤ 100)
   (hmk : ∃ tk0, m (Str.ofString "k") = some (.int (1 + z.fmod 3) tk0)) (hmh : m (Str.ofString "hands") = some (.ref Dh)) :
   wpAny (model PySem.Challenge.rw_op0141_01.row.prog w) (callerA.deeper (lawEnv L f cd)) (execs lawMid (lawEnv L f cd)) (fun fl s'' => fl = .ret (.bool true) ∧ ∃ (h' : Heap) (tk' : Nat) (ps : Array Value) (m' : Str → Option Value), s'' = { s with heap := h', toks := tk' } ∧ Fr g L h' m' ∧ News g L h' [(150, tabObj ps), (126, tabObj #[])]) (fun _ _ => False) s := by
  have hh : (callerA.deeper (lawEnv L f cd)).handled = none := rfl
  have hlv : hv.length = hs.length := ah.length
  have N1 : News g L s.heap [(Dh, lsto hv nh), (L + 1 + 1 + 1, oX), (L + 1 + 1, oW), (150, tabObj #[]), (126, tabObj #[])] := nw_cons N (by k_mem) (nw_cons N (by k_mem) (nw_cons N (by k_mem) (nw_cons N (by k_mem) (nw_cons N (by k_mem) nw_nil))))
  clear N
  refine wpAny_execs_cons (wpAny_Assign_Name ?_)
  refine lcw (cl := []) (fun _ => true) (IntFn fun n => 1 + n.fmod 2) F ?a1 ?a2 ?a3 ?a4 ?a5 (fun C => ?a6) ?_
  case a1 => rfl
  case a2 => decide
  case a3 => rfl
  case a4 => decide
  case a5 => (intro _; rfl)
  case a6 => rfl
  refine cut_eval F N1 (isL_N (n := nh) N1 (.head _)) ah (by omega) (fun Q' hq => wpAny_Name (wpAny_loadName_local rfl rfl F.ns hmh hq)) fun D2 w2 h2 tk2 a2 F2 N2 l2 => ?_
  have hl2 : w2.length ≤ 6 := by rw [a2.length, List.length_take]; omega
  refine src_list hh F2 N2 (isL_N (n := 0) N2 (.head _)) (by rw [sizeLine_eq]; omega) (fun C v s₃ m₃ hm hn hx' hk => tests_none ⟨rfl, s₃.heap, s₃.toks, rfl, fun b o e => e⟩) ?_ ?_
  · intro C v s₃ m₃ hm _ hn hx' hk
    obtain ⟨j, hj⟩ := List.getElem?_of_mem hm
    obtain ⟨e, t, rfl, _⟩ := a2.at j v hj
    refine wpAny_BinOp (wpAny_Constant_int (wpAny_BinOp (wpAny_Name (wpAny_loadName_local rfl rfl hn hx' (wpAny_Constant_int (mod_int (by decide) (add_int ?_)))))))
    exact ⟨⟨e, t, _, rfl, rfl⟩, _, _, rfl, fun b o e => e⟩
  intro D3 h3 tk3 ys3 n3 hP3 F3 N3 l3
  rw [filter_true] at hP3
  have a3 := intFn_are a2 hP3
  clear hP3
  dsimp only
  have N4 : News g L h3 [(D3, lsto ys3 n3), (Dh, lsto hv nh), (L + 1 + 1 + 1, oX), (L + 1 + 1, oW), (150, tabObj #[]), (126, tabObj #[])] := nw_cons N3 (.head _) (nw_tail (nw_tail N3))
  have c150 : @Ne Nat 150 (L + 1 + 1) := Nat.ne_of_lt (Nat.lt_succ_of_lt (Nat.lt_succ_of_lt hL.1))
  have c126 : @Ne Nat 126 (L + 1 + 1) := Nat.ne_of_lt (Nat.lt_succ_of_lt (Nat.lt_succ_of_lt hL.2))
  have x150 : @Ne Nat 150 (L + 1 + 1 + 1) := Nat.ne_of_lt (Nat.lt_succ_of_lt (Nat.lt_succ_of_lt (Nat.lt_succ_of_lt hL.1)))
  have x126 : @Ne Nat 126 (L + 1 + 1 + 1) := Nat.ne_of_lt (Nat.lt_succ_of_lt (Nat.lt_succ_of_lt (Nat.lt_succ_of_lt hL.2)))
  clear F N1 F2 N2 N3 a2 l2
  refine store_cell_K (pre := [(D3, lsto ys3 n3), (Dh, lsto hv nh), (L + 1 + 1 + 1, oX)]) (post := [(150, tabObj #[]), (126, tabObj #[])]) F3 N4 rfl rfl rfl cW (ap_cons (list_ne_cell (N4.get (by k_mem)) (N4.get (by k_mem)) cW) (ap_cons (list_ne_cell (N4.get (by k_mem)) (N4.get (by k_mem)) cW) (ap_cons (cn1 _) ap_nil))) (ap_cons c150 (ap_cons c126 ap_nil)) fun h5 oW5 F5 N5 cW5 => ?_
  clear F3 N4 l3 cW
  dsimp only [List.cons_append, List.nil_append] at N5
  dsimp only
  refine wpAny_execs_cons (wpAny_Assign_Name ?_)
  refine lcw (cl := []) (fun _ => true) (IntFn fun n => 60 * worth n) F5 ?a1 ?a2 ?a3 ?a4 ?a5 (fun C => ?a6) ?_
  case a1 => rfl
  case a2 => decide
  case a3 => rfl
  case a4 => decide
  case a5 => (intro _; rfl)
  case a6 => rfl
  refine cut_eval F5 N5 (isL_N (n := nh) N5 (by k_mem)) ah (by omega) (fun Q' hq => wpAny_Name (wpAny_loadName_local rfl rfl F5.ns hmh hq)) fun D6 w6 h6' tk6 a6 F6 N6 l6 => ?_
  have hl6 : w6.length ≤ 6 := by rw [a6.length, List.length_take]; omega
  have hd : (callerA.deeper (lawEnv L f cd)).depth + 13 < recursionLimit := by simp only [depth_deeper, depth_caller]; decide
  have hu : (callerA.deeper (lawEnv L f cd)).units + 73 < cLine := by simp only [units_deeper, units_caller]; decide
  refine src_list hh F6 N6 (isL_N (n := 0) N6 (.head _)) (by rw [sizeLine_eq]; omega) (fun C v s₃ m₃ hm hn hx' hk => tests_none ⟨rfl, s₃.heap, s₃.toks, rfl, fun b o e => e⟩) ?_ ?_
  · intro C v s₃ m₃ hm _ hn hx' hk
    obtain ⟨j, hj⟩ := List.getElem?_of_mem hm
    obtain ⟨e, t, rfl, _⟩ := a6.at j v hj
    have kg : Keeps g s₃.heap := fun b o q => hk _ _ (F6.keep _ _ q)
    revert X; k_fill; intro X
    refine wpAny_BinOp (wpAny_Constant_int ?_)
    refine fn_call (x := Str.ofString "_law_worth") (t1 := eval (.Name (Str.ofString "number") ⟨229, 30, 229, 36⟩) (compEnvC _ [] C (lawEnv L f cd))) (trees := []) X T kg (by k_is) (by k_is) rfl rfl rfl rfl rfl ?_
    refine spliced_cons (wpAny_Name (wpAny_loadName_local rfl rfl hn hx' ?_))
    refine spliced_nil ⟨kg, ?_⟩
    refine wpAny_call (worth_c (h₀ := g) X T kg (by omega) (by omega) hh fun h' tk' t' k' => ?_)
    refine PyProof.Rows.mul_int ?_ (IntMulOk.of_left (by decide))
    exact ⟨⟨e, t, _, rfl, rfl⟩, _, _, rfl, k'⟩
  intro D7 h7 tk7 ys7 n7 hP7 F7 N7 l7
  rw [filter_true] at hP7
  have a7 := intFn_are a6 hP7
  clear hP7
  dsimp only
  have N8 : News g L h7 [(D7, lsto ys7 n7), (D3, lsto ys3 n3), (L + 1 + 1 + 1, oX), (L + 1 + 1, oW5), (150, tabObj #[]), (126, tabObj #[])] := nw_cons N7 (.head _) (nw_cons N7 (by k_mem) (nw_tail (nw_tail (nw_tail (nw_tail N7)))))
  clear F5 N5 F6 N6 N7 a6 l6
  refine store_cell_K (pre := [(D7, lsto ys7 n7), (D3, lsto ys3 n3)]) (post := [(L + 1 + 1, oW5), (150, tabObj #[]), (126, tabObj #[])]) F7 N8 rfl rfl rfl cX (ap_cons (list_ne_cell (N8.get (by k_mem)) (N8.get (by k_mem)) cX) (ap_cons (list_ne_cell (N8.get (by k_mem)) (N8.get (by k_mem)) cX) ap_nil)) (ap_cons (cn1 _).symm (ap_cons x150 (ap_cons x126 ap_nil))) fun h9 oX9 F9 N9 cX9 => ?_
  clear F7 N8 l7 cX
  dsimp only [List.cons_append, List.nil_append] at N9
  dsimp only
  refine wpAny_execs_cons (wpAny_Assign_Name (List_ (spliced_none (wpAny_newList ?_ (Nat.zero_le _)))))
  obtain ⟨F10, N10, l10⟩ := led_push F9 N9 (lsto [] 0)
  clear F9 N9
  dsimp only
  refine store_loc_K (news := (h9.objs.size, lsto [] 0) :: [(D7, lsto ys7 n7), (D3, lsto ys3 n3), (L + 1 + 1 + 1, oX9), (L + 1 + 1, oW5), (150, tabObj #[]), (126, tabObj #[])]) F10 N10 rfl rfl rfl fun h11 tk11 F11 N11 => ?_
  clear F10 N10
  dsimp only
  generalize h9.objs.size = lm at l10 F11 N11
  refine wpAny_execs_cons (wpAny_mono (law_all (z := z) (lm := lm) (Dx := D7) (Dw := D3) (nx := n7) (nw := n3) X T C hL F11 N11 (fun q hq => Nat.ne_of_lt (l10 q hq)) cX9 cW5 a7 a3 (six_of (by rw [List.length_take]; omega)) ?hk ?hm) (fun fl s' hm => ?_) (fun _ _ x => x))
  case hk => obtain ⟨tk0, e⟩ := hmk; exact ⟨tk0, (if_neg (by decide)).trans e⟩
  case hm => exact if_pos rfl
  obtain ⟨rfl, hm⟩ := hm
  exact hm
end Mine
end

section
open PySem PySem.W PySem.Spec PySem.Calls PyProof.Rows
set_option maxRecDepth 100000
namespace Mine
section
variable {prog : Program} {w : World} {A : Around} {E : Value → Shared → Prop} {s : Shared} {h₀ : Heap} {L l : Addr} {m : Str → Option Value} {news : List (Addr × Obj)} {value slice : PySem.Expr} {vs : List Value} {ns : List Int} {vl vu vk : Value} {lo hi st : Option Int} {ops : List Value} {Q : Value → Shared → Prop}
/-- a slice with a step, of a list of ints -/
theorem slice3_ints (F : Fr h₀ L s.heap m) (N : News h₀ L s.heap news) (hl : s.heap.IsList l vs.toArray) (pl : IsPart vl lo) (pu : IsPart vu hi) (pk : IsPart vk st) (h0 : st ≠ some 0) (hi' : IntsAre vs ns)
    (h : ∀ D ws h', Fr h₀ L h' m → News h₀ L h' ((D, listOf (List.toArray ws) 0) :: news) → (∀ p ∈ news, p.1 < D) → IntsAre ws (pickNums ns lo hi st) → Q (.ref D) { s with heap := h' })
    (hs : subscripted slice false (.ref l) (.ref s.heap.objs.size) = operate ops (getItem (.ref l) (.ref s.heap.objs.size))) (ht : ∀ r, letTemporaryGo value (.ref l) r = pure ()) (hz : vs.toArray.size ≤ sizeLine) :
    wpAny (model prog w) A (subscriptTail value slice (.ref l) (.ref s.heap.objs.size)) Q E { s with heap := s.heap.push { cls := .type "slice", data := .fields #[vl, vu, vk] } } :=
  kmk_slice3_lit (its := vs.toArray) F N hl pl pu pk h0 rfl (fun D h' F' N' l1 => h D _ h' F' N' l1 (hi'.pick lo hi st)) hs ht hz
end
end Mine
open Mine
set_option maxHeartbeats 8000000 in
theorem PySem.Challenge.cw_op0141_01_holds : PySem.Challenge.rw_op0141_01.Holds :=
  Mine.hd (by
  k_with_none
  w_top off
  k_with "subscriptTail Name Slice ref ref" => (k_here; (with_reducible show wpAny _ _ (subscriptTail _ (PySem.Expr.Slice _ _ (some _) _) (Value.ref _) (Value.ref _)) _ _ _); k_dflt (refine' Mine.slice3_ints ?zF ?zN ?zl ?zp ?zq ?zk ?zo ?zi ?_ ?zs ?zt ?zz; (case zF => k_asm); (case zN => k_asm); (case zl => kmk_list); (case zp => kmk_part); (case zq => kmk_part); (case zk => kmk_part); (case zo => decide); (case zi => l_ints); (case zs => with_unfolding_all rfl); (case zt => kmk_pure); (case zz => kmk_size)); intro D' ws' h' F' N' l1 hI'; (try k_lt l1); (try k_sweep))
  k_with "execs cons" => (k_here; (with_reducible show wpAny _ _ (execs (Stmt.Assign [Expr.Name (Str.ofString "weights") _] _ _ :: _) _) _ _ _); refine Hold.out ?_; walk_say "MINE weights")
  k_go0
  all_goals try k_fold
  k_steps
  refine Hold.intro ?_
  rename News _ _ _ _ => N9
  rename Fr _ _ _ _ => F9
  refine wpAny_mono (law_mid (z := (List.take 24 _).sum + 1) (by assumption) (by assumption) (by assumption) (by assumption) F9 N9 (by assumption) (by assumption) (by assumption) ?h6 ?h100 ⟨_, if_pos rfl⟩ ((if_neg (by decide)).trans (if_pos rfl))) (fun fl s'' hd => ?_) (fun _ _ x => x.elim)
  case h6 => rw [List.length_append]; exact Nat.le_add_left _ _
  case h100 => simp only [List.length_append, List.length_map, rangeKs_length, List.length_cons, List.length_nil]; omega
  obtain ⟨rfl, h', tk', ps, m', rfl, F', N'⟩ := hd
  dsimp only
  refine ⟨?_, ⟨ps, N'.get (.head _)⟩, ⟨#[], N'.get (.tail _ (.head _))⟩, trivial⟩
  wrow_close)
end
