import PyProof.Rows.All
import Wide.All
import OpenK.AllK
import Wide.FinOn
import PySem.Challenge.RW_nb0033_01
open PySem PySem.W PyProof.Rows PySem.Calls PySem.Spec
set_option Elab.async false
set_option maxRecDepth 100000
set_option maxHeartbeats 8000000
namespace Mine
open_top hd for PySem.Challenge.rw_nb0033_01
section PartM1
/-- the digits ahead of the last, each with 64 added, the highest first (by at most f steps) -/
noncomputable def hiF : Nat → Nat → List Int
  | 0, _ => []
  | f + 1, r => if r = 0 then [] else hiF f (r / 64) ++ [64 + ((r % 64 : Nat) : Int)]
noncomputable def hi (r : Nat) : List Int := hiF r r
theorem hiF_zero (f : Nat) : hiF f 0 = [] := by
  cases f with
  | zero => rfl
  | succ f => rw [hiF, if_pos rfl]
theorem hiF_eq : ∀ (f g r : Nat), r ≤ f → r ≤ g → hiF f r = hiF g r := by
  intro f
  induction f with
  | zero => intro g r h _; rw [Nat.le_zero.mp h, hiF_zero, hiF_zero]
  | succ f ih =>
    intro g r h1 h2
    by_cases h0 : r = 0
    · rw [h0, hiF_zero, hiF_zero]
    · cases g with
      | zero => omega
      | succ g => rw [hiF, hiF, if_neg h0, if_neg h0, ih g (r / 64) (by omega) (by omega)]
theorem hi_zero : hi 0 = [] := rfl
theorem hi_pos {r : Nat} (h : 0 < r) : hi r = hi (r / 64) ++ [64 + ((r % 64 : Nat) : Int)] := by
  unfold hi
  rw [hiF_eq r (r / 64 + (r - r / 64)) r (Nat.le_refl _) (by omega)]
  obtain ⟨g, hg⟩ : ∃ g, r / 64 + (r - r / 64) = g + 1 := ⟨r - 1, by omega⟩
  rw [hg, hiF, if_neg (by omega), hiF_eq g (r / 64) (r / 64) (by omega) (Nat.le_refl _)]
/-- the octets of a number -/
noncomputable def octs (n : Int) : List Int := hi (n.toNat / 64) ++ [((n.toNat % 64 : Nat) : Int)]
theorem fdiv64 {n : Int} (h : 0 ≤ n) : Int.fdiv n 64 = ((n.toNat / 64 : Nat) : Int) := by
  rw [Int.fdiv_eq_ediv_of_nonneg _ (by omega)]; omega
theorem fmod64 {n : Int} (h : 0 ≤ n) : Int.fmod n 64 = ((n.toNat % 64 : Nat) : Int) := by
  rw [Int.fmod_eq_emod_of_nonneg _ (by omega)]; omega
theorem octs_start {n : Int} (h : 0 ≤ n) : hi (Int.fdiv n 64).toNat ++ [Int.fmod n 64] = octs n := by
  rw [fdiv64 h, fmod64 h, Int.toNat_natCast]; rfl
theorem octs_step {n r : Int} {ds : List Int} (h0 : 0 ≤ r) (hr : 0 < r) (h : hi r.toNat ++ ds = octs n) :
    hi (Int.fdiv r 64).toNat ++ ([64 + Int.fmod r 64] ++ ds) = octs n := by
  rw [fdiv64 h0, fmod64 h0, Int.toNat_natCast, ← h, hi_pos (r := r.toNat) (by omega), List.append_assoc]
theorem octs_less {r : Int} (h0 : 0 ≤ r) (hr : 0 < r) : (Int.fdiv r 64).toNat < r.toNat := by
  rw [fdiv64 h0, Int.toNat_natCast]; omega
theorem octs_nn {r : Int} (h0 : 0 ≤ r) : 0 ≤ Int.fdiv r 64 := by rw [fdiv64 h0]; omega
theorem hi_len_le {k : Nat} : ∀ {r : Nat}, r < 64 ^ k → (hi r).length ≤ k := by
  induction k with
  | zero => intro r h; have : r = 0 := by simpa using h
            subst this; rw [hi_zero]; simp
  | succ k ih =>
    intro r h
    by_cases h0 : r = 0
    · subst h0; rw [hi_zero]; simp
    · rw [hi_pos (by omega), List.length_append]
      have := ih (r := r / 64) (by rw [Nat.pow_succ] at h; omega)
      simp; omega
theorem octs_len_le {n : Int} (h1 : n < 16777216) : (octs n).length ≤ 4 := by
  have := hi_len_le (k := 3) (r := n.toNat / 64) (by omega)
  rw [octs, List.length_append]; simp; omega
theorem hi_len_succ {r : Nat} (h : 0 < r) : (hi r).length = (hi (r / 64)).length + 1 := by rw [hi_pos h, List.length_append]; rfl
theorem octs_len_eq {n : Int} : (octs n).length = (hi (n.toNat / 64)).length + 1 := by rw [octs, List.length_append]; rfl
theorem octs_len1 {n : Int} (h1 : n < 64) : (octs n).length = 1 := by
  rw [octs_len_eq, show n.toNat / 64 = 0 by omega, hi_zero]; rfl
theorem octs_len2 {n : Int} (h0 : 64 ≤ n) (h1 : n < 4096) : (octs n).length = 2 := by
  rw [octs_len_eq, hi_len_succ (by omega), show n.toNat / 64 / 64 = 0 by omega, hi_zero]; rfl
theorem octs_len3 {n : Int} (h0 : 4096 ≤ n) (h1 : n < 262144) : (octs n).length = 3 := by
  rw [octs_len_eq, hi_len_succ (by omega), hi_len_succ (by omega), show n.toNat / 64 / 64 / 64 = 0 by omega, hi_zero]; rfl
theorem octs_len4 {n : Int} (h0 : 262144 ≤ n) (h1 : n < 16777216) : (octs n).length = 4 := by
  rw [octs_len_eq, hi_len_succ (by omega), hi_len_succ (by omega), hi_len_succ (by omega), show n.toNat / 64 / 64 / 64 / 64 = 0 by omega, hi_zero]; rfl
theorem octs_len_pos {n : Int} : 0 < (octs n).length := by rw [octs, List.length_append]; simp
theorem octs_fits {n : Int} {a b : List Int} (h1 : n < 16777216) (h : a ++ b = octs n) : b.length ≤ 1000 := by
  have := octs_len_le h1
  rw [← h, List.length_append] at this; omega

end PartM1
section PartM2
/-- what a row of octets reads as -/
def V (os : List Int) : Int := os.foldl (fun v o => v * 64 + o % 64) 0
theorem V_snoc (os : List Int) (o : Int) : V (os ++ [o]) = V os * 64 + o % 64 := by simp [V]
theorem V_take {os : List Int} {j : Nat} {o : Int} (h : os[j]? = some o) : V (os.take (j + 1)) = V (os.take j) * 64 + o % 64 := by
  rw [List.take_add_one, h]; exact V_snoc _ _
theorem V_bound : ∀ (n : Nat) (os : List Int), os.length = n → 0 ≤ V os ∧ V os < 64 ^ n := by
  intro n
  induction n with
  | zero => intro os h; rw [List.length_eq_zero_iff.mp h]; simp [V]
  | succ n ih =>
    intro os h
    have hne : os ≠ [] := by intro e; rw [e] at h; simp at h
    rw [← List.dropLast_concat_getLast hne, V_snoc]
    have := ih os.dropLast (by simp [h])
    generalize V os.dropLast = v at *
    generalize os.getLast hne = o
    have e : (64 : Int) ^ (n + 1) = 64 ^ n * 64 := Int.pow_succ ..
    rw [e]
    generalize (64 : Int) ^ n = q at *
    omega
theorem V_small {os : List Int} (h : os.length ≤ 4) : 0 ≤ V os ∧ V os < 16777216 := by
  have hb := V_bound os.length os rfl
  have : (64 : Int) ^ os.length ≤ 16777216 := by
    generalize os.length = k at *
    match k, h with
    | 0, _ => decide
    | 1, _ => decide
    | 2, _ => decide
    | 3, _ => decide
    | 4, _ => decide
  omega
/-- a row of octets that is one number's: all but the last bear a 64 -/
structure Seg (os : List Int) : Prop where
  pos : 0 < os.length
  len : os.length ≤ 4
  oct : ∀ j o, os[j]? = some o → 0 ≤ o ∧ (if j + 1 < os.length then 64 ≤ o ∧ o < 128 else o < 64)
theorem and64_all : ∀ x : Fin 128, x.val &&& 64 = if 64 ≤ x.val then 64 else 0 := by decide
theorem and64 {x : Int} (h0 : 0 ≤ x) (h1 : x < 128) : Builtin.bitAnd x 64 = if 64 ≤ x then 64 else 0 := by
  rw [bitAnd_pp h0 (by decide)]
  have := and64_all ⟨x.toNat, by omega⟩
  simp only at this
  have e : (64 : Int).toNat = 64 := rfl
  rw [e, this]
  split <;> split <;> first | rfl | omega
theorem or64 {v d : Int} (h0 : 0 ≤ v) : Builtin.bitOr (v * 2 ^ Int.toNat 6) (d % 64) = v * 64 + d % 64 := by
  have e : (v * 2 ^ Int.toNat 6 : Int) = v * 64 := rfl
  have d0 : 0 ≤ d % 64 := by omega
  have d1 : d % 64 < 64 := by omega
  rw [e, bitOr_and, bitAnd_pp (by omega) d0]
  have hz : (v * 64).toNat &&& (d % 64).toNat = 0 := by
    apply Nat.eq_of_testBit_eq
    intro k
    rw [Nat.testBit_and, Nat.zero_testBit]
    by_cases hk : k < 6
    · have : (v * 64).toNat = 2 ^ 6 * v.toNat := by omega
      rw [this, Nat.testBit_two_pow_mul]
      simp [Nat.not_le.mpr hk]
    · have : (d % 64).toNat < 2 ^ k := Nat.lt_of_lt_of_le (by omega : (d % 64).toNat < 2 ^ 6) (Nat.pow_le_pow_right (by decide) (by omega))
      rw [Nat.testBit_lt_two_pow this, Bool.and_false]
  rw [hz]; simp
/-- one turn of the reading -/
theorem V_turn {os : List Int} {j : Nat} {o v : Int} (h : os[j + 1]? = some o) (hv0 : 0 ≤ v) (hv : v = V (os.take (j + 1))) :
    Builtin.bitOr (v * 2 ^ Int.toNat 6) (Builtin.bitAnd o 63) = V (os.take (j + 1 + 1)) := by
  rw [bitAnd_m6, or64 hv0, V_take h, ← hv]
theorem V_first {os : List Int} (h : 0 < os.length) : Builtin.bitAnd (os.getD 0 0) 63 = V (os.take (0 + 1)) := by
  rw [bitAnd_m6]
  cases os with
  | nil => simp at h
  | cons a r => simp [V]
theorem Seg.more {os : List Int} {j : Nat} {b : Int} (S : Seg os) (hb : os[j]? = some b) (h : Builtin.bitAnd b 64 ≠ 0) : j + 1 < os.length := by
  have := S.oct j b hb
  split at this
  · assumption
  · rw [and64 this.1 (by omega)] at h
    split at h
    · omega
    · exact absurd rfl h
theorem Seg.last {os : List Int} {j : Nat} {b : Int} (S : Seg os) (hb : os[j]? = some b) (h : Builtin.bitAnd b 64 = 0) : j + 1 = os.length := by
  have hj : j < os.length := by
    rcases Nat.lt_or_ge j os.length with h | h
    · exact h
    · rw [List.getElem?_eq_none h] at hb; cases hb
  have := S.oct j b hb
  split at this
  · rw [and64 this.1 (by omega)] at h
    split at h
    · cases h
    · omega
  · omega

end PartM2
section PartM4
theorem hi_mem : ∀ (r : Nat) (o : Int), o ∈ hi r → 64 ≤ o ∧ o < 128 := by
  intro r
  induction r using Nat.strongRecOn with
  | ind r ih =>
    intro o ho
    by_cases h0 : r = 0
    · subst h0; rw [hi_zero] at ho; cases ho
    · rw [hi_pos (by omega)] at ho
      rcases List.mem_append.mp ho with h | h
      · exact ih (r / 64) (by omega) o h
      · rw [List.mem_singleton.mp h]; omega
theorem seg_octs {n : Int} (h1 : n < 16777216) : Seg (octs n) := by
  refine ⟨octs_len_pos, octs_len_le h1, fun j o ho => ?_⟩
  have hl := octs_len_eq (n := n)
  by_cases h : j + 1 < (octs n).length
  · rw [if_pos h]
    rw [octs, List.getElem?_append_left (by omega)] at ho
    have := hi_mem _ o (List.mem_of_getElem? ho)
    omega
  · rw [if_neg h]
    have hj : j < (octs n).length := by
      rcases Nat.lt_or_ge j (octs n).length with h | h
      · exact h
      · rw [List.getElem?_eq_none h] at ho; cases ho
    rw [octs, List.getElem?_append_right (by omega), show j - (hi (n.toNat / 64)).length = 0 by omega] at ho
    cases ho
    omega
theorem Seg.drop {os : List Int} (S : Seg os) {i : Nat} (h : i < os.length) : Seg (os.drop i) := by
  refine ⟨by rw [List.length_drop]; omega, by rw [List.length_drop]; have := S.len; omega, fun j o ho => ?_⟩
  rw [List.getElem?_drop] at ho
  have := S.oct (i + j) o ho
  rw [List.length_drop]
  refine ⟨this.1, ?_⟩
  by_cases c : j + 1 < os.length - i
  · rw [if_pos c]; rw [if_pos (by omega)] at this; exact this.2
  · rw [if_neg c]; rw [if_neg (by omega)] at this; exact this.2
theorem mod64 (r m : Nat) : r % (64 ^ (m + 1)) = (r / 64 % 64 ^ m) * 64 + r % 64 := by
  rw [Nat.pow_succ, Nat.mul_comm (64 ^ m) 64, Nat.mod_mul]; omega
theorem V_hi : ∀ (r i : Nat), i ≤ (hi r).length → V ((hi r).drop i) = ((r % 64 ^ ((hi r).length - i) : Nat) : Int) := by
  intro r
  induction r using Nat.strongRecOn with
  | ind r ih =>
    intro i hi'
    by_cases h0 : r = 0
    · subst h0; rw [hi_zero]; simp [V]
    · have hp : 0 < r := by omega
      have hl := hi_len_succ hp
      by_cases c : i ≤ (hi (r / 64)).length
      · rw [hi_pos hp, List.drop_append_of_le_length c, V_snoc, ih (r / 64) (by omega) i c, List.length_append, List.length_singleton,
          show (hi (r / 64)).length + 1 - i = ((hi (r / 64)).length - i) + 1 by omega, mod64]
        generalize 64 ^ ((hi (r / 64)).length - i) = q
        generalize r / 64 % q = a
        omega
      · have e : i = (hi r).length := by omega
        rw [e, List.drop_length, Nat.sub_self, Nat.pow_zero, Nat.mod_one]; rfl
theorem V_octs {n : Int} {i : Nat} (h : i < (octs n).length) : V ((octs n).drop i) = ((n.toNat % 64 ^ ((octs n).length - i) : Nat) : Int) := by
  have hl := octs_len_eq (n := n)
  rw [hl]
  unfold octs
  rw [List.drop_append_of_le_length (by omega), V_snoc, V_hi _ _ (by omega), show (hi (n.toNat / 64)).length + 1 - i = ((hi (n.toNat / 64)).length - i) + 1 by omega, mod64]
  generalize 64 ^ ((hi (n.toNat / 64)).length - i) = q
  generalize n.toNat / 64 % q = a
  omega
theorem hi_lt : ∀ r : Nat, r < 64 ^ (hi r).length := by
  intro r
  induction r using Nat.strongRecOn with
  | ind r ih =>
    by_cases h0 : r = 0
    · subst h0; rw [hi_zero]; decide
    · rw [hi_len_succ (by omega), Nat.pow_succ]
      have := ih (r / 64) (by omega)
      generalize 64 ^ (hi (r / 64)).length = q at *
      omega
theorem V_whole {n : Int} (h0 : 0 ≤ n) : V (octs n) = n := by
  have h := V_octs (n := n) (i := 0) octs_len_pos
  rw [List.drop_zero] at h
  rw [h, Nat.sub_zero, octs_len_eq, Nat.mod_eq_of_lt]
  · omega
  · rw [Nat.pow_succ]
    have := hi_lt (n.toNat / 64)
    generalize 64 ^ (hi (n.toNat / 64)).length = q at *
    omega

end PartM4
section PartW1
def Stop (P : Prop) : Prop := P
theorem Stop.mk {P : Prop} (h : P) : Stop P := h
theorem Stop.out {P : Prop} (h : Stop P) : P := h
theorem cut1 {M : Model} {A : Around} {env : Env} {Q : Flow → Shared → Prop} {E : Value → Shared → Prop} {s : Shared} {a : Stmt} {rest : List Stmt} (h : ∀ r, r = rest → wpAny M A (execs (a :: r) env) Q E s) : wpAny M A (execs (a :: rest) env) Q E s := h _ rfl
theorem cut2 {M : Model} {A : Around} {env : Env} {Q : Flow → Shared → Prop} {E : Value → Shared → Prop} {s : Shared} {a b : Stmt} {rest : List Stmt} (h : ∀ r, r = rest → wpAny M A (execs (a :: b :: r) env) Q E s) : wpAny M A (execs (a :: b :: rest) env) Q E s := h _ rfl
section
variable {w : World} {dp un : Nat} {gd : Option (List Code)} {env : Env} {outer : List Env} {A₀ : Around} {base h₀ : Heap} {L : Addr} {m : Str → Option Value} {news : List (Addr × Obj)} {s : Shared} {mean : ExcName → Option Value} {mg mb : Str → Option Value} {Q E : Value → Shared → Prop}

structure OctS where
  r : Int
  t : Tok
  l : Addr
  us : List Value
  c : Nat
  ds : List Int

theorem octets_call {n : Int} {t : Tok}
    (B : Below A₀ base outer h₀) (F : Fr h₀ L s.heap m) (X : (hd.heap_39 w.params).In h₀) (N : News h₀ L s.heap news) (T : Top hd.view_39 (looseW hd.view_39 [Str.ofString "bisect_right"]) mean mg mb h₀) (hf : env.frame = some L) (hk : env.scope.kind = .function)
    (hdp : dp < 900) (h0 : 0 ≤ n) (h1 : n < 16777216)
    (k : ∀ h' tk l us c, Fr h₀ L h' m → News h₀ L h' ((l, listOf us.toArray c) :: news) → IntsAre us (octs n) → (∀ p ∈ news, p.1 < l) → Q (.ref l) { s with heap := h', toks := tk }) :
    wpAny (model PySem.Challenge.rw_nb0033_01.row.prog w) { handled := none, depth := dp, frames := some (env :: outer), guards := gd, units := un } (call (.ref 37) [.int n t]) Q E s := by
  revert X
  k_fill
  intro X
  refine wpAny_call ?_
  k_dflt (refine' code_def (binds := [(Str.ofString "number", .int n t)]) ?k1 ?k2 ?k3 ?k4 ?k5 ?kA ?kF ?kK ?k6 ?k7 ?k8 ?k9 ?kB ?_ ?c2 ?c3 ?c4 ?c5; (case kA => exact rfl); (case kF => exact hf); (case kK => assumption); (case k1 => k_asm); (case k2 => k_asm); (case k3 => k_asm); (case k4 => k_asm); (case k5 => k_asm); (case k6 => k_is); (case k7 => k_is); (case k8 => ktr_room); (case k9 => exact BindsTo.of_eq rfl); (case c5 => decide); (case kB => exact locs rfl); (case c2 => exact rfl); (case c3 => exact rfl); (case c4 => exact rfl); k_whole; intro g' L' h' FG' F' N' B' X' T'; (try dsimp only))
  refine wpAny_mono (Q := fun fl s' => Stop (∃ h'' tk m' l us c, fl = .ret (.ref l) ∧ s' = { s with heap := h'', toks := tk } ∧ Fr g' L' h'' m' ∧ News g' L' h'' ((l, listOf us.toArray c) :: news) ∧ IntsAre us (octs n) ∧ (∀ p ∈ news, p.1 < l))) (E := fun _ _ => False) ?_ ?_ (fun _ _ h => h.elim)
  · refine cut2 ?_
    intro r hr
    k_steps
    subst hr
    dsimp only
    rename Fr _ _ _ _ => F1
    rename News _ _ _ _ => N1
    refine wpAny_execs_cons ?_
    with_unfolding_all refine' ksw_while (fun c : OctS => (c.l, listOf c.us.toArray c.c) :: news) (fun c => [(Str.ofString "rest", .int c.r c.t), (Str.ofString "octets", .ref c.l)]) (fun c => IntsAre c.us c.ds ∧ (∀ p ∈ news, p.1 < c.l)) [] (fun c => 0 ≤ c.r ∧ c.r < 16777216 ∧ c.ds.length ≤ 1000 ∧ hi c.r.toNat ++ c.ds = octs n) (fun c => c.r.toNat) ⟨Int.fdiv n 64, _, _, [_], 0, [Int.fmod n 64]⟩ F1 N1 ?kf ?kk ?kp ?turn ?hE
    case kf => exact ⟨.cons _ _ .nil, by assumption⟩
    case kk => intro p hp; simp only [List.mem_cons, List.not_mem_nil, or_false] at hp; rcases hp with rfl | rfl <;> rfl
    case kp => dsimp only; exact ⟨octs_nn h0, by rw [fdiv64 h0]; omega, by simp, octs_start h0⟩
    case hE => passes_own
    case turn =>
      clear F1 N1
      rintro ⟨r, t, l, us, c, ds⟩ u h2 tk2 ⟨hi, hlt⟩ ⟨hr0, hr1, hlen, heq⟩ F2 N2
      dsimp only at hi hlt hr0 hr1 hlen heq F2 N2 ⊢
      k_steps
      · rename Fr _ _ _ _ => F1
        rename News _ _ _ _ => N1
        rename IntsAre _ _ => hI1
        rename _ ∧ _ ∧ AllLt _ _ => hL1
        refine' ksw_end (OctS.mk (Int.fdiv r 64) _ _ _ 0 _) F1 N1 ?hn ⟨hI1, ktn_ltOf hL1.2.2⟩ ?hk ?hr ?hp ?hm
        case hk => kst_all
        case hn => kst_in
        case hr => intro z h2 _; simp only [List.forall_mem_cons, List.not_mem_nil, false_implies, implies_true, and_true, ne_eq] at h2; simp [kstB, h2]
        case hm => exact octs_less hr0 (by assumption)
        case hp => exact ⟨octs_nn hr0, by show Int.fdiv r 64 < _; rw [fdiv64 hr0]; omega, octs_fits h1 (octs_step hr0 (by assumption) heq), octs_step hr0 (by assumption) heq⟩
      · rename Fr _ _ _ _ => F1
        rename News _ _ _ _ => N1
        have e0 : r = 0 := by omega
        subst e0
        rw [Int.toNat_zero, hi_zero, List.nil_append] at heq
        exact Stop.mk ⟨_, _, _, _, _, _, rfl, rfl, F1, N1, heq ▸ hi, hlt⟩
  · rintro _ _ ⟨h'', tk, m', l, us, c, rfl, rfl, F'', N'', hi, hlt⟩
    exact leaveK_ F'' N'' fun FF NN => k _ _ _ _ _ FF NN hi hlt
end

end PartW1
section PartW2
/-- a list's iterator, at place i -/
abbrev iterOf (l : Addr) (i : Nat) : Obj := { cls := .type "list_iterator", data := .fields #[.ref l, .int (i : Int) 0] }
section
variable {prog : Program} {w : World} {A : Around} {E : Value → Shared → Prop} {s : Shared} {h₀ : Heap} {L l it : Addr} {m : Str → Option Value} {news : List (Addr × Obj)} {vs : List Value} {ds : List Int} {c i : Nat} {Q : Value → Shared → Prop}

theorem iter_new (F : Fr h₀ L s.heap m) (N : News h₀ L s.heap news) (hl : (l, listOf vs.toArray c) ∈ news)
    (h : ∀ h' I, Fr h₀ L h' m → News h₀ L h' ((I, iterOf l 0) :: news) → (∀ p ∈ news, p.1 < I) → Q (.ref I) { s with heap := h' }) :
    wpAny (model prog w) A (call (.builtin "iter") [.ref l]) Q E s := by
  have hL : s.heap.IsList l vs.toArray := ⟨_, (N _ hl).1, rfl, c, rfl⟩
  refine call_function_entry (by decide +kernel) (by decide +kernel) kdk_entry_iter (kdk_args_iter _) ?_
  unfold Builtin.«iter»
  refine wpAny_bind (m := someArgs "iter" 1 2 _) (wpAny_of_eq (a := [Value.ref l]) (by first | rfl | kernel_rfl!) ?_)
  show wpAny _ _ (pyIter (.ref l) >>= _) _ _ _
  refine wpAny_bind (wpAny_pyIter_list hL ?_)
  exact wpAny_pure ⟨_, rfl, h _ _ (F.push _) (News.push F N _ rfl) (fun q hq => Heap.lt_size (N q hq).1)⟩

theorem special_item {x : Value} {Q : Option Value → Shared → Prop} (hit : s.heap.IsListIter it l i) (hl : s.heap.IsList l vs.toArray) (hx : vs[i]? = some x)
    (hQ : Q (some x) { s with heap := s.heap.update it (Obj.mapFields (·.setIfInBounds 1 (rawInt ((i : Int) + 1)))) }) :
    wpAny (model prog w) A (callSpecial? (.ref it) (Str.ofString "__next__")) Q E s := by
  obtain ⟨o, ho, hc, hd⟩ := id hit
  obtain ⟨ol, hol, _, nl, hdl⟩ := hl
  refine wpAny_callSpecial?_slot (name := Str.ofString "__next__") hit.typeIs slot_listiter_next (wpAny_call_entry slot_listiter_next hit.typeIs entry_listiter_next ?_ (args_listiter_next _))
  show wpAny _ _ (field (.ref it) 0 >>= _) _ _ s
  refine wpAny_bind (wpAny_field ho hd (x := .ref l) rfl ?_)
  show wpAny _ _ (if (Value.ref l == Value.none) = true then _ else _) _ _ s
  rw [if_neg (show ¬ ((Value.ref l == Value.none) = true) from Bool.false_ne_true)]
  show wpAny _ _ (field (.ref it) 1 >>= _) _ _ s
  refine wpAny_bind (wpAny_field ho hd (x := .int i 0) rfl ?_)
  show wpAny _ _ (seqItems? (.ref l) >>= _) _ _ s
  refine wpAny_bind (wpAny_seqItems hol hdl ?_)
  have hx' : vs.toArray[i]? = some x := by simpa using hx
  simp only [Int.toNat_natCast, hx']
  exact wpAny_bind (wpAny_setField ho hd (by simp) (wpAny_pure ⟨x, rfl, hQ⟩))

theorem next_item {x : Int} (F : Fr h₀ L s.heap m) (N : News h₀ L s.heap ((it, iterOf l i) :: news)) (hne : ∀ p ∈ news, p.1 ≠ it) (hl : (l, listOf vs.toArray c) ∈ news) (hi : IntsAre vs ds) (hx : ds[i]? = some x)
    (h : ∀ h' t, Fr h₀ L h' m → News h₀ L h' ((it, iterOf l (i + 1)) :: news) → Q (.int x t) { s with heap := h' }) :
    wpAny (model prog w) A (call (.builtin "next") [.ref it]) Q E s := by
  have hm := N (it, iterOf l i) (.head _)
  have hit : s.heap.IsListIter it l i := ⟨_, hm.1, rfl, rfl⟩
  have hL : s.heap.IsList l vs.toArray := ⟨_, (N _ (.tail _ hl)).1, rfl, c, rfl⟩
  obtain ⟨t, hv⟩ := hi.get i x hx
  refine call_function_entry (by decide +kernel) (by decide +kernel) kdk_entry_next (kdk_args_next _) ?_
  unfold Builtin.«next»
  refine wpAny_bind (m := someArgs "next" 1 2 _) (wpAny_of_eq (a := [Value.ref it]) (by first | rfl | kernel_rfl!) ?_)
  dsimp only
  refine wpAny_bind (wpAny_specialOf (name := Str.ofString "__next__") hit.typeIs slot_listiter_next.lookup ?_)
  refine wpAny_ite_split (fun hab => absurd hab (by decide)) (fun _ => ?_)
  refine wpAny_bind (special_item hit hL hv ?_)
  have U := news_upd (pre := []) (post := news) (d := it) (o := iterOf l i) (o' := iterOf l (i + 1)) (f := Obj.mapFields (·.setIfInBounds 1 (rawInt ((i : Int) + 1)))) F N (fun _ h => nomatch h) hne (by simp [Obj.mapFields, rawInt]) rfl
  exact wpAny_pure ⟨_, rfl, h _ t U.1 U.2⟩

theorem next_end (hh : A.handled = none) (F : Fr h₀ L s.heap m) (N : News h₀ L s.heap ((it, iterOf l i) :: news)) (hne : ∀ p ∈ news, p.1 ≠ it) (hl : (l, listOf vs.toArray c) ∈ news) (hx : vs.length ≤ i)
    (h : ∀ h₁ h₂ e, Fr h₀ L h₁ m → News h₀ L h₁ news → Heap.NewExc h₁ h₂ e "StopIteration" → E (.ref e) { s with heap := h₂ }) :
    wpAny (model prog w) A (call (.builtin "next") [.ref it]) Q E s := by
  have hm := N (it, iterOf l i) (.head _)
  have hit : s.heap.IsListIter it l i := ⟨_, hm.1, rfl, rfl⟩
  have hL : s.heap.IsList l vs.toArray := ⟨_, (N _ (.tail _ hl)).1, rfl, c, rfl⟩
  refine call_function_entry (by decide +kernel) (by decide +kernel) kdk_entry_next (kdk_args_next _) ?_
  unfold Builtin.«next»
  refine wpAny_bind (m := someArgs "next" 1 2 _) (wpAny_of_eq (a := [Value.ref it]) (by first | rfl | kernel_rfl!) ?_)
  dsimp only
  refine wpAny_bind (wpAny_specialOf (name := Str.ofString "__next__") hit.typeIs slot_listiter_next.lookup ?_)
  refine wpAny_ite_split (fun hab => absurd hab (by decide)) (fun _ => ?_)
  obtain ⟨o, ho, hc, hd⟩ := id hit
  obtain ⟨ol, hol, _, nl, hdl⟩ := hL
  refine wpAny_bind (wpAny_callSpecial?_slot (name := Str.ofString "__next__") hit.typeIs slot_listiter_next (wpAny_call_entry slot_listiter_next hit.typeIs entry_listiter_next ?_ (args_listiter_next _)))
  show wpAny _ _ (field (.ref it) 0 >>= _) _ _ s
  refine wpAny_bind (wpAny_field ho hd (x := .ref l) rfl ?_)
  show wpAny _ _ (if (Value.ref l == Value.none) = true then _ else _) _ _ s
  rw [if_neg (show ¬ ((Value.ref l == Value.none) = true) from Bool.false_ne_true)]
  show wpAny _ _ (field (.ref it) 1 >>= _) _ _ s
  refine wpAny_bind (wpAny_field ho hd (x := .int i 0) rfl ?_)
  show wpAny _ _ (seqItems? (.ref l) >>= _) _ _ s
  refine wpAny_bind (wpAny_seqItems hol hdl ?_)
  have hx' : vs.toArray[i]? = none := by simp [hx]
  simp only [Int.toNat_natCast, hx']
  refine wpAny_bind (wpAny_rule (wpAny_bind (wpAny_setField ho hd (by simp) ?_)))
  show wpAny _ _ (newExc (.type "StopIteration") [] >>= _) _ _ _
  refine wpAny_bind ?_
  simp only [newExc, newTuple]
  refine wpAny_bind (wpAny_newObj_type ?_ (by size_fits))
  refine wpAny_bind (m := firstArgMember _ _) (wpAny_of_eq (a := Value.none) (by first | rfl | (simp only [firstArgMember]; rfl)) ?_)
  refine wpAny_newObj_type ?_ (by size_fits)
  simp only [raiseNew]
  refine wpAny_bind (wpAny_handled ?_)
  rw [show A.in1.in1.handled = none from hh]
  refine wpAny_bind (wpAny_pure (wpAny_throw ?_))
  have U := news_upd (pre := []) (post := news) (d := it) (o := iterOf l i) (o' := _) (f := Obj.mapFields (·.setIfInBounds 0 Value.none)) F N (fun _ h => nomatch h) hne rfl rfl
  refine h _ _ _ U.1 (fun p hp => U.2 p (.tail _ hp)) ⟨fun b o e => Heap.get?_push_of_some _ (Heap.get?_push_of_some _ e), ?_, ⟨_, _, Heap.get?_push_size _ rfl, rfl, rfl⟩⟩
  exact Heap.get?_none_of_le (by rw [Heap.size_push]; omega)
end

end PartW2
section PartW3
section
variable {w : World} {dp un : Nat} {gd : Option (List Code)} {env : Env} {outer : List Env} {A₀ : Around} {base h₀ : Heap} {L : Addr} {m : Str → Option Value} {news : List (Addr × Obj)} {s : Shared} {mean : ExcName → Option Value} {mg mb : Str → Option Value} {Q E : Value → Shared → Prop}

structure ParS where
  j : Nat
  b : Int
  tb : Tok
  v : Int
  tv : Tok

theorem parse_ok {it l : Addr} {i c : Nat} {vs : List Value} {ds : List Int} {os : List Int} 
    (B : Below A₀ base outer h₀) (F : Fr h₀ L s.heap m) (X : (hd.heap_39 w.params).In h₀) (N : News h₀ L s.heap ((it, iterOf l i) :: news)) (T : Top hd.view_39 (looseW hd.view_39 [Str.ofString "bisect_right"]) mean mg mb h₀) (hf : env.frame = some L) (hk : env.scope.kind = .function)
    (hdp : dp < 900) (hne : ∀ p ∈ news, p.1 ≠ it) (hl : (l, listOf vs.toArray c) ∈ news) (hi : IntsAre vs ds)
    (S : Seg os) (hos : ∀ j o, os[j]? = some o → ds[i + j]? = some o)
    (k : ∀ h' tk t, Fr h₀ L h' m → News h₀ L h' ((it, iterOf l (i + os.length)) :: news) → Q (.int (V os) t) { s with heap := h', toks := tk }) :
    wpAny (model PySem.Challenge.rw_nb0033_01.row.prog w) { handled := none, depth := dp, frames := some (env :: outer), guards := gd, units := un } (call (.ref 21) [.ref it]) Q E s := by
  revert X
  k_fill
  intro X
  refine wpAny_call ?_
  k_dflt (refine' code_def (binds := [(Str.ofString "iterator", .ref it)]) ?k1 ?k2 ?k3 ?k4 ?k5 ?kA ?kF ?kK ?k6 ?k7 ?k8 ?k9 ?kB ?_ ?c2 ?c3 ?c4 ?c5; (case kA => exact rfl); (case kF => exact hf); (case kK => assumption); (case k1 => k_asm); (case k2 => k_asm); (case k3 => k_asm); (case k4 => k_asm); (case k5 => k_asm); (case k6 => k_is); (case k7 => k_is); (case k8 => ktr_room); (case k9 => exact BindsTo.of_eq rfl); (case c5 => decide); (case kB => exact locs rfl); (case c2 => exact rfl); (case c3 => exact rfl); (case c4 => exact rfl); k_whole; intro g' L' h' FG' F' N' B' X' T'; (try dsimp only))
  refine wpAny_mono (Q := fun fl s' => Stop (∃ h'' tk m' t, fl = .ret (.int (V os) t) ∧ s' = { s with heap := h'', toks := tk } ∧ Fr g' L' h'' m' ∧ News g' L' h'' ((it, iterOf l (i + os.length)) :: news))) (E := fun _ _ => False) ?_ ?_ (fun _ _ h => h.elim)
  · have hpos := S.pos
    have hlen := S.len
    refine cut2 ?_
    intro r hr
    k_steps
    have hfst : os[0]? = some (os.getD 0 0) := by rw [List.getD_eq_getElem?_getD, List.getElem?_eq_getElem hpos]; rfl
    refine next_item (by k_asm) (by k_asm) hne hl hi (hos 0 (os.getD 0 0) hfst) ?_
    intro h1 t1 F1 N1
    dsimp only
    k_steps
    subst hr
    dsimp only
    rename Fr _ _ _ _ => F1
    rename News _ _ _ _ => N1
    refine wpAny_execs_cons ?_
    with_unfolding_all refine' ksw_while (fun c : ParS => (it, iterOf l (i + c.j + 1)) :: news) (fun c => [(Str.ofString "b", .int c.b c.tb), (Str.ofString "val", .int c.v c.tv)]) (fun c => 0 ≤ c.v ∧ c.v < 16777216) [] (fun c => c.j < os.length ∧ os[c.j]? = some c.b ∧ c.v = V (os.take (c.j + 1))) (fun c => os.length - c.j) ⟨0, os.getD 0 0, _, Builtin.bitAnd (os.getD 0 0) 63, _⟩ F1 N1 ?kf ?kk ?kp ?turn ?hE
    case kf => dsimp only; rw [V_first hpos]; exact V_small (by rw [List.length_take]; omega)
    case kk => intro p hp; simp only [List.mem_cons, List.not_mem_nil, or_false] at hp; rcases hp with rfl | rfl <;> rfl
    case kp => exact ⟨hpos, hfst, V_first hpos⟩
    case hE => passes_own
    case turn =>
      clear F1 N1
      rintro ⟨j, b, tb, v, tv⟩ u h2 tk2 ⟨hv0, hv1⟩ ⟨hj, hb, hv⟩ F2 N2
      dsimp only at hv0 hv1 hj hb hv F2 N2 ⊢
      k_steps
      · have hj2 := S.more hb (by assumption)
        have hb2 : os[j + 1]? = some os[j + 1] := List.getElem?_eq_getElem hj2
        refine next_item (by k_asm) (by k_asm) hne hl hi (hos (j + 1) _ hb2) ?_
        intro h1 t1 F1 N1
        dsimp only
        k_steps
        rename Fr _ _ _ _ => F1
        rename News _ _ _ _ => N1
        have hv2 := V_turn hb2 hv0 hv
        have hvs := V_small (os := os.take (j + 1 + 1)) (by rw [List.length_take]; omega)
        refine' ksw_end (ParS.mk (j + 1) os[j + 1] _ _ _) F1 N1 ?hn ?hf ?hk ?hr ⟨hj2, hb2, ?hp⟩ ?hm
        case hk => kst_all
        case hn => intro p hp; exact hp
        case hr => intro z h2 _; simp only [List.forall_mem_cons, List.not_mem_nil, false_implies, implies_true, and_true, ne_eq] at h2; simp [kstB, h2]
        case hm => show os.length - (j + 1) < os.length - j; omega
        case hp => exact hv2
        case hf => dsimp only; rw [hv2]; exact hvs
      · rename Fr _ _ _ _ => F1
        rename News _ _ _ _ => N1
        have hj2 := S.last hb (by assumption)
        dsimp only
        refine Stop.mk ⟨_, _, _, tv, ?_, rfl, F1, ?_⟩
        · rw [hv, hj2, List.take_length]
        · rw [← hj2]; exact N1
  · rintro _ _ ⟨h'', tk, m', t, rfl, rfl, F'', N''⟩
    exact leaveK_ F'' N'' fun FF NN => k _ _ _ FF NN

theorem parse_end {it l : Addr} {i c : Nat} {vs : List Value}
    (B : Below A₀ base outer h₀) (F : Fr h₀ L s.heap m) (X : (hd.heap_39 w.params).In h₀) (N : News h₀ L s.heap ((it, iterOf l i) :: news)) (T : Top hd.view_39 (looseW hd.view_39 [Str.ofString "bisect_right"]) mean mg mb h₀) (hf : env.frame = some L) (hk : env.scope.kind = .function)
    (hdp : dp < 900) (hne : ∀ p ∈ news, p.1 ≠ it) (hl : (l, listOf vs.toArray c) ∈ news) (hx : vs.length ≤ i)
    (k : ∀ h' tk e G, Fr h₀ L G m → RaisedSN base G (env :: outer) e (.type "StopIteration") news h' → G.UpToSlots h' → E (.ref e) { s with heap := h', toks := tk }) :
    wpAny (model PySem.Challenge.rw_nb0033_01.row.prog w) { handled := none, depth := dp, frames := some (env :: outer), guards := gd, units := un } (call (.ref 21) [.ref it]) Q E s := by
  revert X
  k_fill
  intro X
  refine wpAny_call ?_
  k_dflt (refine' code_def (binds := [(Str.ofString "iterator", .ref it)]) ?k1 ?k2 ?k3 ?k4 ?k5 ?kA ?kF ?kK ?k6 ?k7 ?k8 ?k9 ?kB ?_ ?c2 ?c3 ?c4 ?c5; (case kA => exact rfl); (case kF => exact hf); (case kK => assumption); (case k1 => k_asm); (case k2 => k_asm); (case k3 => k_asm); (case k4 => k_asm); (case k5 => k_asm); (case k6 => k_is); (case k7 => k_is); (case k8 => ktr_room); (case k9 => exact BindsTo.of_eq rfl); (case c5 => decide); (case kB => exact locs rfl); (case c2 => exact rfl); (case c3 => exact rfl); (case c4 => exact rfl); k_whole; intro g' L' h' FG' F' N' B' X' T'; (try dsimp only))
  refine wpAny_mono (Q := fun _ _ => False) (E := fun x s' => Stop (∃ h₁ h₂ tk m' e, x = .ref e ∧ s' = { s with heap := h₂, toks := tk } ∧ Fr g' L' h₁ m' ∧ News g' L' h₁ news ∧ Heap.NewExc h₁ h₂ e "StopIteration")) ?_ (fun _ _ h => h.elim) ?_
  · refine cut1 ?_
    intro r hr
    k_steps
    refine next_end rfl (by k_asm) (by k_asm) hne hl hx ?_
    intro h1 h2 e F1 N1 hx1
    exact Stop.mk ⟨_, _, _, _, _, rfl, rfl, F1, N1, hx1⟩
  · rintro _ _ ⟨h₁, h₂, tk, m', e, rfl, rfl, F1, N1, hx1⟩
    refine leave_newS B' hx1 F1 N1 ?_
    intro h3 R1 _ hs1
    exact k _ _ _ _ FG' R1 hs1
end

end PartW3
section PartW4
/-- r is the number of items that are not above x -/
structure Bis (ns : List Int) (x : Int) (r : Int) : Prop where
  nn : 0 ≤ r
  le : r ≤ ns.length
  lo : ∀ (j : Nat) v, (j : Int) < r → ns[j]? = some v → v ≤ x
  hi : ∀ (j : Nat) v, r ≤ (j : Int) → ns[j]? = some v → x < v
def Rising (ns : List Int) : Prop := ∀ (i j : Nat) u v, i ≤ j → ns[i]? = some u → ns[j]? = some v → u ≤ v
structure BisS where
  lo : Int
  tl : Tok
  hi : Int
  th : Tok
structure BisP (ns : List Int) (x lo hi : Int) : Prop where
  nn : 0 ≤ lo
  ord : lo ≤ hi
  le : hi ≤ ns.length
  low : ∀ (j : Nat) v, (j : Int) < lo → ns[j]? = some v → v ≤ x
  high : ∀ (j : Nat) v, hi ≤ (j : Int) → ns[j]? = some v → x < v
theorem mid_eq {lo hi : Int} (h : 0 ≤ lo) (h2 : lo < hi) : lo ≤ (lo + hi).fdiv 2 ∧ (lo + hi).fdiv 2 < hi := by
  rw [Int.fdiv_eq_ediv_of_nonneg _ (by omega)]; omega
theorem BisP.start {ns : List Int} {x : Int} : BisP ns x 0 (ns.length : Int) :=
  ⟨Int.le_refl _, by omega, Int.le_refl _, fun j v h => absurd h (by omega), fun j v h e => by rw [List.getElem?_eq_none (by omega)] at e; cases e⟩
theorem BisP.down {ns : List Int} {x lo hi : Int} (P : BisP ns x lo hi) (hs : Rising ns) (h : lo < hi) (hx : x < ns.getD ((lo + hi).fdiv 2).toNat 0) : BisP ns x lo ((lo + hi).fdiv 2) := by
  obtain ⟨a, b, c, d, e⟩ := P
  have hm := mid_eq a h
  generalize (lo + hi).fdiv 2 = mid at *
  have hlt : mid.toNat < ns.length := by omega
  rw [List.getD_eq_getElem?_getD, List.getElem?_eq_getElem hlt] at hx
  refine ⟨a, by omega, by omega, d, fun j v hj hv => ?_⟩
  have := hs mid.toNat j _ v (by omega) (List.getElem?_eq_getElem hlt) hv
  simp only [Option.getD_some] at hx
  omega
theorem BisP.up {ns : List Int} {x lo hi : Int} (P : BisP ns x lo hi) (hs : Rising ns) (h : lo < hi) (hx : ¬ x < ns.getD ((lo + hi).fdiv 2).toNat 0) : BisP ns x ((lo + hi).fdiv 2 + 1) hi := by
  obtain ⟨a, b, c, d, e⟩ := P
  have hm := mid_eq a h
  generalize (lo + hi).fdiv 2 = mid at *
  have hlt : mid.toNat < ns.length := by omega
  rw [List.getD_eq_getElem?_getD, List.getElem?_eq_getElem hlt] at hx
  refine ⟨by omega, by omega, c, fun j v hj hv => ?_, e⟩
  have := hs j mid.toNat v _ (by omega) hv (List.getElem?_eq_getElem hlt)
  simp only [Option.getD_some] at hx
  omega
theorem BisP.done {ns : List Int} {x lo hi : Int} (P : BisP ns x lo hi) (h : ¬ lo < hi) : Bis ns x lo := by
  obtain ⟨a, b, c, d, e⟩ := P
  have : hi = lo := by omega
  subst this
  exact ⟨a, c, d, e⟩
local macro_rules | `(tactic| walk_at "exec While Compare cons nil") => `(tactic| (refine Stop.out ?_))
section
variable {w : World} {dp un : Nat} {gd : Option (List Code)} {env : Env} {outer : List Env} {A₀ : Around} {base h₀ : Heap} {L : Addr} {m : Str → Option Value} {news : List (Addr × Obj)} {s : Shared} {mean : ExcName → Option Value} {mg mb : Str → Option Value} {Q E : Value → Shared → Prop}

theorem bisect_call {a : Addr} {c : Nat} {vs : List Value} {ns : List Int} {x : Int} {t : Tok}
    (B : Below A₀ base outer h₀) (F : Fr h₀ L s.heap m) (X : (hd.heap_39 w.params).In h₀) (N : News h₀ L s.heap news) (T : Top hd.view_39 (looseW hd.view_39 [Str.ofString "bisect_right"]) mean mg mb h₀) (hf : env.frame = some L) (hk : env.scope.kind = .function)
    (hdp : dp < 900) (hl : (a, listOf vs.toArray c) ∈ news) (hi : IntsAre vs ns) (hlen : ns.length ≤ 1000) (hsort : Rising ns)
    (k : ∀ h' tk t r, Fr h₀ L h' m → News h₀ L h' news → Bis ns x r → Q (.int r t) { s with heap := h', toks := tk }) :
    wpAny (model PySem.Challenge.rw_nb0033_01.row.prog w) { handled := none, depth := dp, frames := some (env :: outer), guards := gd, units := un } (call (.ref 30) [.ref a, .int x t]) Q E s := by
  revert X
  k_fill
  intro X
  refine wpAny_call ?_
  k_dflt (refine' code_def (binds := [(Str.ofString "a", .ref a), (Str.ofString "x", .int x t), (Str.ofString "lo", .int 0 200), (Str.ofString "hi", .none), (Str.ofString "key", .none)]) ?k1 ?k2 ?k3 ?k4 ?k5 ?kA ?kF ?kK ?k6 ?k7 ?k8 ?k9 ?kB ?_ ?c2 ?c3 ?c4 ?c5; (case kA => exact rfl); (case kF => exact hf); (case kK => assumption); (case k1 => k_asm); (case k2 => k_asm); (case k3 => k_asm); (case k4 => k_asm); (case k5 => k_asm); (case k6 => k_is); (case k7 => k_is); (case k8 => ktr_room); (case k9 => (refine' kp_binds ?kx ?ke; (case kx => k_in); (case ke => exact fun _ => rfl))); (case c5 => decide); (case kB => exact locs rfl); (case c2 => exact rfl); (case c3 => exact rfl); (case c4 => exact rfl); k_whole; intro g' L' h' FG' F' N' B' X' T'; (try dsimp only))
  refine wpAny_mono (Q := fun fl s' => Stop (∃ h'' tk m' t r, fl = .ret (.int r t) ∧ s' = { s with heap := h'', toks := tk } ∧ Fr g' L' h'' m' ∧ News g' L' h'' news ∧ Bis ns x r)) (E := fun _ _ => False) ?_ ?_ (fun _ _ h => h.elim)
  · refine cut2 ?_
    intro r hr
    k_steps
    refine kst_len (by k_asm) hl hi.length (by omega) ?_
    k_steps
    subst hr
    dsimp only
    k_steps
    refine Stop.mk ?_
    rename Fr _ _ _ _ => F1
    rename News _ _ _ _ => N1
    with_unfolding_all refine' ksw_while (fun _ : BisS => news) (fun c => [(Str.ofString "lo", .int c.lo c.tl), (Str.ofString "hi", .int c.hi c.th)]) (fun _ => True) [Str.ofString "mid"] (fun c => BisP ns x c.lo c.hi) (fun c => (c.hi - c.lo).toNat) ⟨0, _, (ns.length : Int), _⟩ F1 N1 trivial ?kk ?kp ?turn ?hE
    case kk => intro p hp; simp only [List.mem_cons, List.not_mem_nil, or_false] at hp; rcases hp with rfl | rfl <;> rfl
    case kp => exact BisP.start
    case hE => passes_own
    case turn =>
      clear F1 N1
      rintro ⟨lo, tl, hi, th⟩ u h2 tk2 _ hP F2 N2
      dsimp only at hP F2 N2 ⊢
      have p1 := hP.nn
      have p2 := hP.ord
      have p3 := hP.le
      k_steps
      · rename Fr _ _ _ _ => F1
        rename News _ _ _ _ => N1
        have hm := mid_eq p1 (by assumption)
        refine' ksw_end (BisS.mk _ _ _ _) F1 N1 ?hn trivial ?hk ?hr ?hp ?hm
        case hk => kst_all
        case hn => intro p hp; exact hp
        case hr => intro z h2 h3; simp only [List.forall_mem_cons, List.not_mem_nil, false_implies, implies_true, and_true, ne_eq] at h2; simp only [List.contains_cons, List.contains_nil, Bool.or_false, beq_eq_false_iff_ne, ne_eq] at h3; simp [kstB, h2, h3]
        case hm => dsimp only; omega
        case hp => exact hP.down hsort (by assumption) (by assumption)
      · rename Fr _ _ _ _ => F1
        rename News _ _ _ _ => N1
        have hm := mid_eq p1 (by assumption)
        refine' ksw_end (BisS.mk _ _ _ _) F1 N1 ?hn trivial ?hk ?hr ?hp ?hm
        case hk => kst_all
        case hn => intro p hp; exact hp
        case hr => intro z h2 h3; simp only [List.forall_mem_cons, List.not_mem_nil, false_implies, implies_true, and_true, ne_eq] at h2; simp only [List.contains_cons, List.contains_nil, Bool.or_false, beq_eq_false_iff_ne, ne_eq] at h3; simp [kstB, h2, h3]
        case hm => dsimp only; omega
        case hp => exact hP.up hsort (by assumption) (by assumption)
      · rename Fr _ _ _ _ => F1
        rename News _ _ _ _ => N1
        exact Stop.mk ⟨_, _, _, _, _, rfl, rfl, F1, N1, hP.done (by assumption)⟩
  · rintro _ _ ⟨h'', tk, m', t, r, rfl, rfl, F'', N'', hb⟩
    exact leaveK_ F'' N'' fun FF NN => k _ _ _ _ FF NN hb
end

end PartW4
section PartW5
section
variable {w : World} {dp un : Nat} {gd : Option (List Code)} {env : Env} {outer : List Env} {A₀ : Around} {base h₀ : Heap} {L : Addr} {m : Str → Option Value} {news : List (Addr × Obj)} {s : Shared} {mean : ExcName → Option Value} {mg mb : Str → Option Value} {Q E : Value → Shared → Prop}

noncomputable def tot (ns : List Int) : Int := ((ns.map fun n => ((octs n).length : Int)).sum)
noncomputable def begs (ns : List Int) : List Int := (List.range (ns.length + 1)).map fun i => tot (ns.take i)
theorem begs_snoc (pre : List Int) (n : Int) : begs (pre ++ [n]) = begs pre ++ [tot (pre ++ [n])] := by
  unfold begs
  rw [List.length_append, List.length_singleton, List.range_succ, List.map_append, List.map_singleton]
  congr 1
  · refine List.map_congr_left fun i hi => ?_
    rw [List.take_append_of_le_length (by rw [List.mem_range] at hi; omega)]
  · rw [List.take_of_length_le (by simp)]
theorem begs_last (pre : List Int) : (begs pre).getLast? = some (tot pre) := by
  unfold begs
  rw [List.range_succ, List.map_append, List.map_singleton, List.getLast?_append]
  simp
theorem item_last {prog : Program} {A : Around} {value slice : Expr} {l : Addr} {us : List Value} {bs : List Int} {c : Nat} {u : Tok} {x : Int} (N : News h₀ L s.heap news) (hm : (l, listOf us.toArray c) ∈ news) (hi : IntsAre us bs) (hx : bs.getLast? = some x)
    (h : ∀ t, Q (.int x t) s) (hs : subscripted slice false (.ref l) (.int (-1) u) = operate [.ref l, .int (-1) u] (getItem (.ref l) (.int (-1) u)) := by with_unfolding_all rfl) :
    wpAny (model prog w) A (subscriptTail value slice (.ref l) (.int (-1) u)) Q E s := by
  have hl : s.heap.IsList l us.toArray := ⟨_, (N _ hm).1, rfl, c, rfl⟩
  have hpos : 0 < bs.length := by
    cases bs with
    | nil => cases hx
    | cons _ _ => simp
  have hlen := hi.length
  have hx' : bs[bs.length - 1]? = some x := by rw [← List.getLast?_eq_getElem?]; exact hx
  obtain ⟨t, ht⟩ := hi.get _ _ hx'
  refine tail_any hl.typeIs slot_list_getitem.lookup (wpAny_getItem_list_neg hl (by omega) (by rw [List.size_toArray]; omega) (by omega) ?_ (h t)) hs
  rw [List.size_toArray, hlen, show ((-1 : Int) + (bs.length : Int)).toNat = bs.length - 1 by omega]
  simpa using ht
theorem tot_snoc (pre : List Int) (n : Int) : tot (pre ++ [n]) = tot pre + ((octs n).length : Int) := by simp [tot]
theorem bis_len {n r : Int} (h0 : 0 ≤ n) (h1 : n < 16777216) (h : Bis [64, 4096, 262144] n r) : ((octs n).length : Int) = r + 1 := by
  obtain ⟨a, b, c, d⟩ := h
  have b' : r ≤ 3 := b
  by_cases h2 : n < 64
  · rw [octs_len1 h2]
    have : r = 0 := by
      rcases (show 0 < r ∨ r ≤ 0 by omega) with h | h
      · have := c 0 64 h rfl; omega
      · omega
    omega
  by_cases h3 : n < 4096
  · rw [octs_len2 (by omega) h3]
    have e1 : 0 < r := by
      rcases (show 0 < r ∨ r ≤ 0 by omega) with h | h
      · exact h
      · have := d 0 64 h rfl; omega
    have e2 : r < 2 := by
      rcases (show 1 < r ∨ r ≤ 1 by omega) with h | h
      · have := c 1 4096 h rfl; omega
      · omega
    omega
  by_cases h4 : n < 262144
  · rw [octs_len3 (by omega) h4]
    have e1 : 1 < r := by
      rcases (show 1 < r ∨ r ≤ 1 by omega) with h | h
      · exact h
      · have := d 1 4096 h rfl; omega
    have e2 : r < 3 := by
      rcases (show 2 < r ∨ r ≤ 2 by omega) with h | h
      · have := c 2 262144 h rfl; omega
      · omega
    omega
  · rw [octs_len4 (by omega) h1]
    have e1 : 2 < r := by
      rcases (show 2 < r ∨ r ≤ 2 by omega) with h | h
      · exact h
      · have := d 2 262144 h rfl; omega
    omega
theorem rising3 : Rising [64, 4096, 262144] := by
  intro i j u v hij hu hv
  rcases i with _ | _ | _ | i <;> rcases j with _ | _ | _ | j <;> simp_all <;> omega
local macro_rules | `(tactic| walk_at "call ref") => `(tactic| ((with_reducible show wpAny _ _ (call (Value.ref 30) _) _ _ _); refine Stop.out ?_))
structure BegS where
  us : List Value
  c : Nat
  ns : List Int
theorem begins_call {l : Addr} {c : Nat} {vs : List Value} {ns : List Int}
    (B : Below A₀ base outer h₀) (F : Fr h₀ L s.heap m) (X : (hd.heap_39 w.params).In h₀) (N : News h₀ L s.heap news) (T : Top hd.view_39 (looseW hd.view_39 [Str.ofString "bisect_right"]) mean mg mb h₀) (hf : env.frame = some L) (hk : env.scope.kind = .function)
    (hdp : dp < 890) (hl : (l, listOf vs.toArray c) ∈ news) (hi : IntsAre vs ns) (hlen : ns.length ≤ 100) (hns : ∀ n ∈ ns, 0 ≤ n ∧ n < 16777216)
    (k : ∀ h' tk l' us c', Fr h₀ L h' m → News h₀ L h' ((l', listOf us.toArray c') :: news) → IntsAre us (begs ns) → (∀ p ∈ news, p.1 < l') → Q (.ref l') { s with heap := h', toks := tk }) :
    wpAny (model PySem.Challenge.rw_nb0033_01.row.prog w) { handled := none, depth := dp, frames := some (env :: outer), guards := gd, units := un } (call (.ref 44) [.ref l]) Q E s := by
  revert X
  k_fill
  intro X
  refine wpAny_call ?_
  k_dflt (refine' code_def (binds := [(Str.ofString "numbers", .ref l)]) ?k1 ?k2 ?k3 ?k4 ?k5 ?kA ?kF ?kK ?k6 ?k7 ?k8 ?k9 ?kB ?_ ?c2 ?c3 ?c4 ?c5; (case kA => exact rfl); (case kF => exact hf); (case kK => assumption); (case k1 => k_asm); (case k2 => k_asm); (case k3 => k_asm); (case k4 => k_asm); (case k5 => k_asm); (case k6 => k_is); (case k7 => k_is); (case k8 => ktr_room); (case k9 => exact BindsTo.of_eq rfl); (case c5 => decide); (case kB => exact locs rfl); (case c2 => exact rfl); (case c3 => exact rfl); (case c4 => exact rfl); k_whole; intro g' L' h' FG' F' N' B' X' T'; (try dsimp only))
  refine wpAny_mono (Q := fun fl s' => Stop (∃ h'' tk m' l' us c', fl = .ret (.ref l') ∧ s' = { s with heap := h'', toks := tk } ∧ Fr g' L' h'' m' ∧ News g' L' h'' ((l', listOf us.toArray c') :: news) ∧ IntsAre us (begs ns) ∧ (∀ p ∈ news, p.1 < l'))) (E := fun _ _ => False) ?_ ?_ (fun _ _ h => h.elim)
  · refine cut1 ?_
    intro r hr
    k_steps
    subst hr
    dsimp only
    rename Fr _ _ _ _ => F1
    rename News _ _ _ _ => N1
    refine wpAny_execs_cons ?_
    with_unfolding_all refine' For_invVF F1 ?k1 ?k2 ?_
    case k1 => rfl
    case k2 => rfl
    k_steps
    rename ∀ p ∈ news, p.1 < _ => hlt
    have hMk := kstMark
    with_unfolding_all refine' kst_listL (fun c : BegS => (_, listOf c.us.toArray c.c) :: news) (fun _ => []) (fun c => IntsAre c.us c.ns) [] (fun pre c => c.ns = begs pre) ⟨[_], 0, [0]⟩ rfl (fun c => List.Mem.tail _ hl) hi F1 N1 ?kf ?kk ?kp ?turn ?done
    case kf => exact .cons _ _ .nil
    case kk => intro p hp; cases hp
    case kp => rfl
    case done =>
      rintro ⟨us, c2, bs⟩ u h2 tk2 hf2 hP F2 N2
      dsimp only at hf2 hP ⊢
      replace F2 : Fr g' L' h2 _ := F2
      replace N2 : News g' L' h2 _ := N2
      dsimp only at F2 N2
      subst hP
      k_steps
      rename Fr _ _ _ _ => F4
      rename News _ _ _ _ => N4
      exact Stop.mk ⟨_, _, _, _, _, _, rfl, rfl, F4, N4, hf2, hlt⟩
    case turn =>
      clear F1 N1
      rintro ⟨us, c2, bs⟩ pre post n t u h2 tk2 own hsp hmem hoff hf2 hP F2 N2
      dsimp only at hf2 hP hoff ⊢
      replace F2 : Fr g' L' h2 _ := F2
      replace N2 : News g' L' h2 _ := N2
      dsimp only at F2 N2
      have hn := hns n hmem
      k_steps
      have hlast : bs.getLast? = some (tot pre) := by rw [hP]; exact begs_last pre
      refine item_last (by k_asm) (List.Mem.head _) hf2 hlast ?_
      intro t3
      k_steps
      refine Stop.mk ?_
      k_dflt (refine' bisect_call (ns := [64, 4096, 262144]) ?k1 ?k2 ?k3 ?k4 ?k5 ?kf ?kk ?kd ?kl ?ki ?kn ?ks ?_; (case k1 => k_asm); (case k2 => k_asm); (case k3 => k_asm); (case k4 => k_asm); (case k5 => k_asm); (case kf => rfl); (case kk => rfl); (case kd => (show dp + 1 < 900; omega)); (case kl => exact List.Mem.head _); (case ki => exact .cons _ _ (.cons _ _ (.cons _ _ .nil))); (case kn => decide); (case ks => exact rising3))
      intro h3 tk3 t4 r F3 N3 hb
      dsimp only
      k_steps
      rename News _ _ _ _ => N4
      rename Fr _ _ _ _ => F4
      have hsum := bis_len hn.1 hn.2 hb
      have hbl : bs.length = pre.length + 1 := by rw [hP]; simp [begs]
      have hpl : pre.length ≤ 100 := by have := congrArg List.length hsp; simp at this; omega
      have hul := hf2.length
      have N5 : News g' L' _ ((_, listOf us.toArray c2) :: (news ++ own)) := fun p hp => N4 p (.tail _ hp)
      refine append_K F4 N5 (Upd.head ?_) ?_ (by rw [List.size_toArray, PySem.sizeLine_eq]; omega)
      · intro p hp
        rcases List.mem_append.mp hp with hp | hp
        · exact Nat.ne_of_lt (hlt p hp)
        · exact hoff p hp _ (List.Mem.head _)
      intro h6 F6 N6
      k_steps
      (try dsimp only [InvPostN])
      rw [List.push_toArray] at N6
      refine kst_end (BegS.mk (us ++ [.int (tot pre + r + 1) (tk3 + 1 + 1)]) (c2 + 1) (bs ++ [tot pre + r + 1])) F6 N6 ?hn ?ho ?ha ?hf ?hk ?hr ?hp
      case hn => intro p hp; rcases List.mem_cons.mp hp with rfl | hp; (exact .head _); exact .tail _ (List.mem_append_left _ hp)
      case ho => intro p hp; exact .tail _ (List.mem_append_right _ hp)
      case ha => rfl
      case hf => exact hf2.append (.cons _ _ .nil)
      case hk => intro p hp; cases hp
      case hr => intro z h1 _ _; simp [kstB, h1]
      case hp => show bs ++ [tot pre + r + 1] = begs (pre ++ [n]); rw [begs_snoc, hP, tot_snoc, hsum]; congr 2; omega
  · rintro _ _ ⟨h'', tk, m', l', us, c', rfl, rfl, F'', N'', hI, hlt⟩
    exact leaveK_ F'' N'' fun FF NN => k _ _ _ _ _ FF NN hI hlt
end

end PartW5
section PartM3
theorem tot_len (qs : List Int) : tot qs = ((qs.flatMap octs).length : Int) := by
  induction qs with
  | nil => rfl
  | cons q r ih =>
    rw [List.flatMap_cons, List.length_append]
    have : tot (q :: r) = ((octs q).length : Int) + tot r := by simp [tot]
    rw [this, ih]; omega
theorem flat_le {qs : List Int} (hq : ∀ q ∈ qs, 0 ≤ q ∧ q < 16777216) : (qs.flatMap octs).length ≤ 4 * qs.length := by
  induction qs with
  | nil => simp
  | cons q r ih =>
    rw [List.flatMap_cons, List.length_append, List.length_cons]
    have h1 := octs_len_le (hq q (.head _)).2
    have h2 := ih fun x hx => hq x (.tail _ hx)
    omega
theorem begs_len (qs : List Int) : (begs qs).length = qs.length + 1 := by simp [begs]
theorem begs_get {qs : List Int} {i : Nat} (h : i ≤ qs.length) : (begs qs)[i]? = some (tot (qs.take i)) := by
  unfold begs
  rw [List.getElem?_map, List.getElem?_range (by omega)]
  rfl
theorem tot_take_succ {qs : List Int} {i : Nat} (h : i < qs.length) : tot (qs.take (i + 1)) = tot (qs.take i) + ((octs qs[i]).length : Int) := by
  rw [List.take_add_one, List.getElem?_eq_getElem h]
  exact tot_snoc _ _
theorem tot_mono {qs : List Int} : ∀ {j i : Nat}, i ≤ j → j ≤ qs.length → tot (qs.take i) ≤ tot (qs.take j) := by
  intro j
  induction j with
  | zero => intro i h _; rw [Nat.le_zero.mp h]; exact Int.le_refl _
  | succ j ih =>
    intro i h hj
    rcases Nat.lt_or_ge i (j + 1) with h1 | h1
    · have h2 := ih (i := i) (by omega) (by omega)
      rw [tot_take_succ (by omega)]
      omega
    · rw [show i = j + 1 by omega]; exact Int.le_refl _
theorem begs_rising (qs : List Int) : Rising (begs qs) := by
  intro i j u v hij hu hv
  have hj : j ≤ qs.length := by
    rcases Nat.lt_or_ge j (begs qs).length with h | h
    · rw [begs_len] at h; omega
    · rw [List.getElem?_eq_none h] at hv; cases hv
  rw [begs_get (by omega)] at hu
  rw [begs_get hj] at hv
  cases hu; cases hv
  exact tot_mono hij hj
/-- where an octet lies -/
structure Spot (qs : List Int) (place : Int) (j : Nat) : Prop where
  lt : j < qs.length
  lo : tot (qs.take j) ≤ place
  hi : place < tot (qs.take (j + 1))
theorem spot_of {qs : List Int} {place r : Int} (h : Bis (begs qs) place r) (h0 : 0 ≤ place) (h1 : place < tot qs) : ∃ j : Nat, r = (j : Int) + 1 ∧ Spot qs place j := by
  obtain ⟨a, b, c, d⟩ := h
  rw [begs_len] at b
  have e0 : 0 < r := by
    rcases (show 0 < r ∨ r ≤ 0 by omega) with h | h
    · exact h
    · have := d 0 _ h (begs_get (Nat.zero_le _))
      simp [tot] at this; omega
  have e1 : r ≤ qs.length := by
    rcases (show r ≤ qs.length ∨ (qs.length : Int) < r by omega) with h | h
    · exact h
    · have := c qs.length _ h (begs_get (Nat.le_refl _))
      rw [List.take_length] at this; omega
  refine ⟨(r - 1).toNat, by omega, by omega, ?_, ?_⟩
  · exact c _ _ (by omega) (begs_get (by omega))
  · exact d _ _ (by omega) (begs_get (by omega))
theorem Spot.exp {qs : List Int} {place : Int} {j : Nat} (S : Spot qs place j) (hq : ∀ q ∈ qs, 0 ≤ q ∧ q < 16777216) : ∃ k : Nat, (begs qs).getD ((j : Int) + 1 - 1 + 1).toNat 0 - place = (k : Int) ∧ 0 < k ∧ k ≤ (octs qs[j]!).length ∧ tot (qs.take (j + 1)) = place + (k : Int) := by
  obtain ⟨a, b, c⟩ := S
  have e : ((j : Int) + 1 - 1 + 1).toNat = j + 1 := by omega
  rw [e, List.getD_eq_getElem?_getD, begs_get (by omega), Option.getD_some]
  have h1 := tot_take_succ a
  have e2 : qs[j]! = qs[j] := getElem!_pos qs j a
  rw [e2]
  refine ⟨(tot (qs.take (j + 1)) - place).toNat, by omega, by omega, by omega, by omega⟩
/-- the octets from a place on, one row for each number -/
noncomputable def segsAt (qs : List Int) (place : Int) (j : Nat) : List (List Int) := (octs qs[j]!).drop (place - tot (qs.take j)).toNat :: (qs.drop (j + 1)).map octs
theorem Spot.at {qs : List Int} {place : Int} {j : Nat} (S : Spot qs place j) : ∃ i : Nat, (place - tot (qs.take j)).toNat = i ∧ i < (octs qs[j]!).length ∧ place.toNat = ((qs.take j).flatMap octs).length + i ∧ qs[j]! = qs[j]'S.lt := by
  have h1 := tot_take_succ S.lt
  have h2 := tot_len (qs.take j)
  have e2 : qs[j]! = qs[j]'S.lt := getElem!_pos qs j S.lt
  have h3 := S.lo
  have h4 := S.hi
  refine ⟨_, rfl, by rw [e2]; omega, by omega, e2⟩
theorem segs_flat {qs : List Int} {place : Int} {j : Nat} (S : Spot qs place j) : (qs.flatMap octs).drop place.toNat = (segsAt qs place j).flatten := by
  obtain ⟨i, hi, hlt, hp, e2⟩ := S.at
  unfold segsAt
  rw [hi, List.flatten_cons, hp]
  have e : qs.flatMap octs = (qs.take j).flatMap octs ++ (octs qs[j]! ++ ((qs.drop (j + 1)).map octs).flatten) := by
    conv => lhs; rw [← List.take_append_drop j qs, List.flatMap_append]
    rw [List.drop_eq_getElem_cons S.lt, List.flatMap_cons, e2]
    rfl
  rw [e, List.drop_append, List.drop_of_length_le (by omega), show ((qs.take j).flatMap octs).length + i - ((qs.take j).flatMap octs).length = i by omega, List.drop_append_of_le_length (by omega)]
  rfl
theorem segs_good {qs : List Int} {place : Int} {j : Nat} (S : Spot qs place j) (hq : ∀ q ∈ qs, 0 ≤ q ∧ q < 16777216) : ∀ o ∈ segsAt qs place j, Seg o := by
  obtain ⟨i, hi, hlt, hp, e2⟩ := S.at
  intro o ho
  rcases List.mem_cons.mp ho with rfl | ho
  · rw [hi]
    exact (seg_octs (hq _ (by rw [e2]; exact List.getElem_mem S.lt)).2).drop hlt
  · obtain ⟨q, hm, rfl⟩ := List.mem_map.mp ho
    exact seg_octs (hq q (List.mem_of_mem_drop hm)).2
theorem vals_whole : ∀ {qs : List Int}, (∀ q ∈ qs, 0 ≤ q ∧ q < 16777216) → (qs.map octs).map V = qs
  | [], _ => rfl
  | q :: r, h => by rw [List.map_cons, List.map_cons, V_whole (h q (.head _)).1, vals_whole fun x hx => h x (.tail _ hx)]
theorem segs_vals {qs : List Int} {place : Int} {j : Nat} (_ : Spot qs place j) (hq : ∀ q ∈ qs, 0 ≤ q ∧ q < 16777216) : (segsAt qs place j).map V = [V ((octs qs[j]!).drop (place - tot (qs.take j)).toNat)] ++ qs.drop (j + 1) := by
  unfold segsAt
  rw [List.map_cons, vals_whole fun q hm => hq q (List.mem_of_mem_drop hm)]
  rfl
theorem rest_val {qs : List Int} {place : Int} {j k : Nat} (S : Spot qs place j) (hq : ∀ q ∈ qs, 0 ≤ q ∧ q < 16777216) (hk : tot (qs.take (j + 1)) = place + (k : Int)) :
    V ((octs qs[j]!).drop (place - tot (qs.take j)).toNat) = Int.fmod (qs.getD j 0) (64 ^ k) := by
  obtain ⟨i, hi, hlt, hp, e2⟩ := S.at
  have h1 := tot_take_succ S.lt
  have h3 := S.lo
  have e3 : qs.getD j 0 = qs[j]'S.lt := by rw [List.getD_eq_getElem?_getD, List.getElem?_eq_getElem S.lt]; rfl
  have h0 := (hq _ (List.getElem_mem S.lt)).1
  rw [e2] at hlt
  rw [e2, e3, hi, V_octs hlt, show (octs (qs[j]'S.lt)).length - i = k by omega]
  generalize qs[j]'S.lt = q at *
  rw [Int.fmod_eq_emod_of_nonneg _ (Int.le_of_lt (Int.pow_pos (by decide)))]
  rw [Int.natCast_emod, Int.toNat_of_nonneg h0]
  simp

end PartM3
section PartW6
local macro_rules | `(tactic| walk_at "call ref") => `(tactic| ((with_reducible show wpAny _ _ (call (Value.ref 21) _) _ _ _); refine Stop.out ?_))
local macro_rules | `(tactic| walk_at "pyIter ref") => `(tactic| (refine Stop.out ?_))
def off (segs : List (List Int)) (j : Nat) : Nat := (segs.take j).flatten.length
theorem news_swap {h₀ h : Heap} {L : Addr} {p q : Addr × Obj} {r : List (Addr × Obj)} (N : News h₀ L h (p :: q :: r)) : News h₀ L h (q :: p :: r) := fun x hx => N x (by
  rcases List.mem_cons.mp hx with rfl | hx
  · exact .tail _ (.head _)
  · rcases List.mem_cons.mp hx with rfl | hx
    · exact .head _
    · exact .tail _ (.tail _ hx))
theorem name_it {I x : Addr} {news : List (Addr × Obj)} (_ : I < x ∧ AllLt x news) : ∃ y, y = x := ⟨x, rfl⟩
theorem segs_le : ∀ {segs : List (List Int)}, (∀ o ∈ segs, Seg o) → segs.length ≤ segs.flatten.length
  | [], _ => Nat.le_refl _
  | o :: r, h => by
    have h1 := (h o (.head _)).pos
    have h2 := segs_le fun x hx => h x (.tail _ hx)
    rw [List.flatten_cons, List.length_append, List.length_cons]
    omega
theorem off_all (segs : List (List Int)) : off segs segs.length = segs.flatten.length := by rw [off, List.take_length]
theorem off_succ {segs : List (List Int)} {j : Nat} (h : j < segs.length) : off segs (j + 1) = off segs j + segs[j].length := by
  unfold off
  rw [List.take_add_one, List.getElem?_eq_getElem h, Option.toList_some, List.flatten_append, List.length_append, List.flatten_singleton]
theorem seg_at {segs : List (List Int)} {j : Nat} (h : j < segs.length) {i : Nat} {o : Int} (ho : segs[j][i]? = some o) : segs.flatten[off segs j + i]? = some o := by
  have e : segs.flatten = (segs.take j).flatten ++ (segs[j] ++ (segs.drop (j + 1)).flatten) := by
    conv => lhs; rw [← List.take_append_drop j segs, List.flatten_append]
    rw [List.drop_eq_getElem_cons h, List.flatten_cons]
  have hi : i < segs[j].length := by
    rcases Nat.lt_or_ge i segs[j].length with h | h
    · exact h
    · rw [List.getElem?_eq_none h] at ho; cases ho
  rw [e, off, List.getElem?_append_right (by omega), show (segs.take j).flatten.length + i - (segs.take j).flatten.length = i by omega, List.getElem?_append_left hi]
  exact ho
section
variable {w : World} {dp un : Nat} {gd : Option (List Code)} {A₀ : Around} {base h₀ : Heap} {L a : Addr} {m : Str → Option Value} {news : List (Addr × Obj)} {s : Shared} {mean : ExcName → Option Value} {mg mb : Str → Option Value} {Q E : Value → Shared → Prop} {cn : Str} {cs : Scope} {ccd : Value}

structure ReadS where
  us : List Value
  c : Nat
  j : Nat
theorem read_call {l : Addr} {c : Nat} {vs : List Value} {segs : List (List Int)}
    (B : Below A₀ base [] h₀) (F : Fr h₀ L s.heap m) (X : (hd.heap_39 w.params).In h₀) (N : News h₀ L s.heap news) (T : Top hd.view_39 (looseW hd.view_39 [Str.ofString "bisect_right"]) mean mg mb h₀) (hk : cs.kind = .function)
    (XB : (hd.heap_39 w.params).In base) (TB : Top hd.view_39 (looseW hd.view_39 [Str.ofString "bisect_right"]) mean mg mb base)
    (hdp : dp < 890) (hl : (l, listOf vs.toArray c) ∈ news) (hi : IntsAre vs segs.flatten) (hlen : segs.flatten.length ≤ 1000) (hS : ∀ o ∈ segs, Seg o)
    (k : ∀ h' tk l' us c', Fr h₀ L h' m → News h₀ L h' ((l', listOf us.toArray c') :: news) → IntsAre us (segs.map V) → (∀ p ∈ news, p.1 < l') → Q (.ref l') { s with heap := h', toks := tk }) :
    wpAny (model PySem.Challenge.rw_nb0033_01.row.prog w) { handled := none, depth := dp, frames := some [envOf cn cs L a ccd], guards := gd, units := un } (call (.ref 51) [.ref l]) Q E s := by
  revert X
  k_fill
  intro X
  refine wpAny_call ?_
  k_dflt (refine' code_defS0 (binds := [(Str.ofString "octets", .ref l)]) ?k1 ?k2 ?k3 ?k4 ?k5 ?kA ?k6 ?k7 ?k8 ?k9 ?kB ?_ ?kK ?c2 ?c3 ?c4 ?c5; (case kA => exact rfl); (case kK => assumption); (case k1 => k_asm); (case k2 => k_asm); (case k3 => exact X); (case k4 => k_asm); (case k5 => exact T); (case k6 => k_is); (case k7 => k_is); (case k8 => ktr_room); (case k9 => exact BindsTo.of_eq rfl); (case c5 => decide); (case kB => exact locs rfl); (case c2 => exact rfl); (case c3 => exact rfl); (case c4 => exact rfl); k_whole; intro g' L' h' FG' F' N' B' X' T' D'; (try dsimp only))
  refine wpAny_mono (Q := fun fl s' => Stop (∃ h'' tk m' l' us c' g'', fl = .ret (.ref l') ∧ s' = { s with heap := h'', toks := tk } ∧ KtsTurn ([envOf cn cs L a ccd].filterMap (·.frame)) g' g'' ∧ Fr g'' L' h'' m' ∧ News g'' L' h'' ((l', listOf us.toArray c') :: news) ∧ IntsAre us (segs.map V) ∧ (∀ p ∈ news, p.1 < l'))) (E := fun _ _ => False) ?_ ?_ (fun _ _ h => h.elim)
  · refine cut1 ?_
    intro r hr
    k_steps
    refine iter_new (by k_asm) (by k_asm) hl ?_
    intro h1 I F1 N1 hI1
    k_steps
    subst hr
    dsimp only
    refine cut1 ?_
    intro r hr
    k_steps
    subst hr
    dsimp only
    refine wpAny_execs_cons ?_
    rename Fr _ _ _ _ => F2
    with_unfolding_all refine' For_invVF F2 ?k1 ?k2 ?_
    case k1 => rfl
    case k2 => rfl
    k_steps
    refine kst_len (by k_asm) (List.Mem.tail _ (List.Mem.tail _ hl)) hi.length (by omega) ?_
    k_steps
    refine Stop.mk ?_
    rename IsRange _ _ _ _ _ _ _ _ => hR
    rename Fr _ _ _ _ => F3
    rename News _ _ _ _ => N3
    rename _ ∧ AllLt _ news => hL3
    obtain ⟨nl, hnl⟩ := name_it hL3
    subst hnl
    have hMk := kstMark
    with_unfolding_all refine' kst_range (fun c : ReadS => (_, listOf c.us.toArray c.c) :: (I, iterOf l (off segs c.j)) :: news) (fun _ => []) (fun c => IntsAre c.us ((segs.take c.j).map V)) [] (fun pre c => c.j = pre.length ∧ c.j ≤ segs.length) ⟨[], 0, 0⟩ rfl hR (small_one (by omega) (by omega) (by omega) (by omega)) (rangeSize_nat _ _) F3 N3 ?kf ?kk ?kp ?turn ?done
    case kf => exact .nil
    case kk => intro p hp; cases hp
    case kp => exact ⟨rfl, Nat.zero_le _⟩
    case done =>
      rintro ⟨us, c2, j⟩ u h2 tk2 hf2 ⟨hP1, hP2⟩ F2 N2
      dsimp only at hP1 hP2
      rw [rangeKs_length] at hP1
      have := segs_le hS
      omega
    case turn =>
      clear F3 N3
      rintro ⟨us, c2, j⟩ pre n t u h2 tk2 own hn hpre hoff hf2 ⟨hP1, hP2⟩ F2 N2
      dsimp only at hf2 hP1 hP2 hoff ⊢
      replace F2 : Fr g' L' h2 _ := F2
      replace N2 : News g' L' h2 _ := N2
      dsimp only at F2 N2
      rw [List.cons_append, List.cons_append] at N2
      k_steps
      refine Stop.mk ?_
      rename IntsAre vs _ => hi
      have N3 := news_swap N2
      have hneI : ∀ p ∈ (nl, listOf us.toArray c2) :: (news ++ own), p.1 ≠ I := by
        intro p hp
        rcases List.mem_cons.mp hp with rfl | hp
        · exact Nat.ne_of_gt hL3.1
        · rcases List.mem_append.mp hp with hp | hp
          · exact Nat.ne_of_lt (hI1 p hp)
          · exact hoff p hp _ (.tail _ (.head _))
      by_cases hj : j < segs.length
      · have hs1 : segs[j]? = some segs[j] := List.getElem?_eq_getElem hj
        have hS1 := hS _ (List.getElem_mem hj)
        k_dflt (refine' parse_ok (os := segs[j]) ?k1 ?k2 ?k3 N3 ?k5 ?kf ?kk ?kd hneI ?kl hi hS1 ?ko ?_; (case k1 => k_asm); (case k2 => k_asm); (case k3 => k_asm); (case k5 => k_asm); (case kf => rfl); (case kk => rfl); (case kd => (show dp + 1 < 900; omega)); (case kl => exact .tail _ (List.mem_append_left _ hl)); (case ko => exact fun i o h => seg_at hj h))
        intro h3 tk3 t3 F3 N3
        rw [← off_succ hj] at N3
        dsimp only
        k_steps
        rename Fr _ _ _ _ => F6
        rename News _ _ _ _ => N6
        rw [List.push_toArray] at N6
        refine kst_end (ReadS.mk (us ++ [.int (V segs[j]) t3]) (c2 + 1) (j + 1)) F6 N6 ?hn ?ho ?ha ?hf ?hk ?hr ?hp
        case hn =>
          intro p hp
          rcases List.mem_cons.mp hp with rfl | hp
          · exact .tail _ (.head _)
          · rcases List.mem_cons.mp hp with rfl | hp
            · exact .head _
            · exact .tail _ (.tail _ (List.mem_append_left _ hp))
        case ho => intro p hp; exact .tail _ (.tail _ (List.mem_append_right _ hp))
        case ha => rfl
        case hf =>
          show IntsAre (us ++ [.int (V segs[j]) t3]) ((segs.take (j + 1)).map V)
          rw [List.take_add_one, hs1, Option.toList_some, List.map_append]
          exact hf2.append (.cons _ _ .nil)
        case hk => intro p hp; cases hp
        case hr => intro z h1 _ _; simp [kstB, h1]
        case hp => exact ⟨by show j + 1 = (pre ++ [n]).length; rw [List.length_append, hP1]; rfl, hj⟩
      · have hje : j = segs.length := by omega
        k_dflt (refine' parse_end ?k1 ?k2 ?k3 N3 ?k5 ?kf ?kk ?kd hneI ?kl ?kx ?_; (case k1 => k_asm); (case k2 => k_asm); (case k3 => k_asm); (case k5 => k_asm); (case kf => rfl); (case kk => rfl); (case kd => (show dp + 1 < 900; omega)); (case kl => exact .tail _ (List.mem_append_left _ hl)); (case kx => rw [hi.length, hje]; exact Nat.le_of_eq (off_all _).symm))
        intro h3 tk3 e G F3 R3 hu3
        dsimp only
        k_dflt (refine' caught_SN0 (T' := "StopIteration") R3 F3 B' hu3 XB TB D' KtsTurn.refl ?ex ?hv ?hn ?h1 ?h2 ?h3 ?_; (case ex => k_is); (case hv => decide +kernel); (case hn => decide); (case h1 => exact isSubtype_of_subB (by decide +kernel)); (case h2 => exact isSubtype_of_subB (by decide +kernel)); (case h3 => exact isSubtype_of_subB (by decide +kernel)))
        intro h4 g4 T4 F4 N4 K4 X4 P4 D4
        dsimp only
        k_steps
        refine Stop.mk ⟨_, _, _, nl, us, c2, g4, rfl, rfl, T4, F4, fun p hp => N4 p ?_, ?_, ktn_ltOf hL3.2⟩
        · rcases List.mem_cons.mp hp with rfl | hp
          · exact .head _
          · exact .tail _ (List.mem_append_left _ hp)
        · rw [hje, List.take_length] at hf2
          exact hf2
  · rintro _ _ ⟨h'', tk, m', l', us, c', g'', rfl, rfl, TT, F'', N'', hI, hlt⟩
    exact leaveS0_ F'' N'' TT fun FF NN => k _ _ _ _ _ FF NN hI hlt
end

end PartW6
section PartW8
/-- within a comprehension: the frame L about it, its own names at C, the made objects -/
structure CS (h₀ : Heap) (L : Addr) (m : Str → Option Value) (news : List (Addr × Obj)) (C : Addr) (mC : Str → Option Value) (h : Heap) : Prop where
  fr : Fr h₀ L h m
  ns : h.Ns C mC
  cL : C ≠ L
  c0 : h₀.get? C = none
  nw : News h₀ L h news
  cn : ∀ p ∈ news, p.1 ≠ C
  nd : (news.map (·.1)).Nodup
section
variable {prog : Program} {w : World} {A : Around} {E : Value → Shared → Prop} {s : Shared} {h₀ : Heap} {L C l J D : Addr} {m mC : Str → Option Value} {news : List (Addr × Obj)} {vs : List Value} {c i : Nat}
theorem CS.tail {p : Addr × Obj} {h : Heap} (S : CS h₀ L m (p :: news) C mC h) : CS h₀ L m news C mC h :=
  ⟨S.fr, S.ns, S.cL, S.c0, fun q hq => S.nw q (.tail _ hq), fun q hq => S.cn q (.tail _ hq), (List.nodup_cons.mp S.nd).2⟩
theorem CS.swap {p q : Addr × Obj} {h : Heap} (S : CS h₀ L m (p :: q :: news) C mC h) : CS h₀ L m (q :: p :: news) C mC h := by
  have sub : ∀ x ∈ q :: p :: news, x ∈ p :: q :: news := fun x hx => by
    rcases List.mem_cons.mp hx with rfl | hx
    · exact .tail _ (.head _)
    · rcases List.mem_cons.mp hx with rfl | hx
      · exact .head _
      · exact .tail _ (.tail _ hx)
  exact ⟨S.fr, S.ns, S.cL, S.c0, fun x hx => S.nw x (sub x hx), fun x hx => S.cn x (sub x hx), by
    have h := S.nd
    simp only [List.map_cons, List.nodup_cons, List.mem_cons, not_or] at h ⊢
    exact ⟨⟨fun e => h.1.1 e.symm, h.2.1⟩, h.1.2, h.2.2⟩⟩
theorem CS.perm {news' : List (Addr × Obj)} {h : Heap} (S : CS h₀ L m news C mC h) (hp : news.Perm news') : CS h₀ L m news' C mC h :=
  ⟨S.fr, S.ns, S.cL, S.c0, fun x hx => S.nw x (hp.mem_iff.mpr hx), fun x hx => S.cn x (hp.mem_iff.mpr hx), (hp.map _).nodup_iff.mp S.nd⟩
theorem CS.headNe {p : Addr × Obj} {h : Heap} (S : CS h₀ L m (p :: news) C mC h) : ∀ q ∈ news, q.1 ≠ p.1 := fun q hq e =>
  (List.nodup_cons.mp S.nd).1 (List.mem_map.mpr ⟨q, hq, e⟩)
/-- a heap that only grew, but for an object that none of these is -/
theorem CS.extBut {h h' : Heap} {d : Addr} (S : CS h₀ L m news C mC h) (hs : Heap.ExtBut d h h') (dL : d ≠ L) (dC : d ≠ C) (d0 : h₀.get? d = none) (dn : ∀ p ∈ news, p.1 ≠ d) : CS h₀ L m news C mC h' := by
  obtain ⟨oL, a1, a2, hL, a3⟩ := S.fr.ns
  obtain ⟨oC, b1, b2, hC, b3⟩ := S.ns
  refine ⟨⟨⟨oL, a1, a2, hs L oL (Ne.symm dL) hL, a3⟩, fun b o e => hs b o (fun q => ?_) (S.fr.keep b o e), S.fr.above⟩, ⟨oC, b1, b2, hs C oC (Ne.symm dC) hC, b3⟩, S.cL, S.c0, fun p hp => ⟨hs _ _ (dn p hp) (S.nw p hp).1, (S.nw p hp).2⟩, S.cn, S.nd⟩
  rw [q, d0] at e; cases e
theorem CS.make {h h₁ : Heap} {ob : Obj} (F : Fr h₀ L h m) (N : News h₀ L h news) (nd : (news.map (·.1)).Nodup) (hns : h₁.Ns h.objs.size mC) (hsb : Heap.SameBut h.objs.size (h.push ob) h₁) : CS h₀ L m news h.objs.size mC h₁ := by
  have cL : h.objs.size ≠ L := Nat.ne_of_gt F.ns.lt
  have c0 : h₀.get? h.objs.size = none := next_is_new F
  have cn : ∀ p ∈ news, p.1 ≠ h.objs.size := fun p hp => Nat.ne_of_lt (Heap.lt_size (N p hp).1)
  exact ⟨(F.push ob).change hsb cL c0, hns, cL, c0, fun p hp => ⟨(hsb.2 p.1 (cn p hp)).trans (Heap.get?_push_of_some _ (N p hp).1), (N p hp).2⟩, cn, nd⟩
theorem nd_push {h : Heap} {ob : Obj} (N : News h₀ L h news) (nd : (news.map (·.1)).Nodup) : (((h.objs.size, ob) :: news).map (·.1)).Nodup := by
  rw [List.map_cons, List.nodup_cons]
  refine ⟨fun hm => ?_, nd⟩
  obtain ⟨p, hp, e⟩ := List.mem_map.mp hm
  exact absurd (Heap.lt_size (N p hp).1) (e ▸ Nat.lt_irrefl _)
theorem CS.store {scope : Scope} {env : Env} {x : Str} {px : Pos} {v : Value} {Q : Unit → Shared → Prop} (S : CS h₀ L m news C mC s.heap) (hk : scope.kind = .function) (hx : scope.names.lookup x = some .local)
    (h : ∀ h', CS h₀ L m news C (fun z => if z = x then some v else mC z) h' → Q () { s with heap := h', toks := s.toks + 1 }) :
    wpAny (model prog w) A (assign (.Name x px) (compEnv scope C env) v) Q E s := by
  refine wpAny_assign_Name (wpAny_storeName_local (env := compEnv scope C env) hx S.ns (fun h' hn hs => h h' ?_) (by show (scope.kind == .class || (scope.kind == .module && C != env.globals)) = false; rw [hk]; rfl))
  exact ⟨S.fr.change hs S.cL S.c0, hn, S.cL, S.c0, fun p hp => ⟨(hs.2 p.1 (S.cn p hp)).trans (S.nw p hp).1, (S.nw p hp).2⟩, S.cn, S.nd⟩
theorem CS.load {scope : Scope} {env : Env} {x : Str} {px : Pos} {v : Value} {Q : Value → Shared → Prop} (S : CS h₀ L m news C mC s.heap) (hk : scope.kind = .function) (hx : scope.names.lookup x = some .local) (hd : (x == ("__debug__" : Str)) = false) (hv : mC x = some v) (h : Q v s) :
    wpAny (model prog w) A (eval (.Name x px) (compEnv scope C env)) Q E s := wpAny_Name (wpAny_loadName_local (env := compEnv scope C env) hk hx S.ns hv h) hd
theorem CS.push {h : Heap} (S : CS h₀ L m news C mC h) (o : Obj) (ho : o.isFreed = false := by rfl) : CS h₀ L m ((h.objs.size, o) :: news) C mC (h.push o) := by
  obtain ⟨oC, b1, b2, hC, b3⟩ := S.ns
  refine ⟨S.fr.push o, ⟨oC, b1, b2, Heap.get?_push_of_some _ hC, b3⟩, S.cL, S.c0, News.push S.fr S.nw o ho, fun p hp => ?_, ?_⟩
  · rcases List.mem_cons.mp hp with rfl | hp
    · exact Nat.ne_of_gt (Heap.lt_size hC)
    · exact S.cn p hp
  · rw [List.map_cons, List.nodup_cons]
    refine ⟨fun hm => ?_, S.nd⟩
    obtain ⟨p, hp, e⟩ := List.mem_map.mp hm
    exact absurd (Heap.lt_size (S.nw p hp).1) (e ▸ Nat.lt_irrefl _)
theorem CS.iter {Q : Value → Shared → Prop} (S : CS h₀ L m news C mC s.heap) (hl : (l, listOf vs.toArray c) ∈ news)
    (h : ∀ h' I, CS h₀ L m ((I, iterOf l 0) :: news) C mC h' → Q (.ref I) { s with heap := h' }) : wpAny (model prog w) A (pyIter (.ref l)) Q E s :=
  wpAny_pyIter_list (items := vs.toArray) ⟨_, (S.nw _ hl).1, rfl, c, rfl⟩ (h _ _ (S.push _))
theorem CS.item {x : Value} {Q : Option Value → Shared → Prop} (S : CS h₀ L m ((J, iterOf l i) :: news) C mC s.heap) (hl : (l, listOf vs.toArray c) ∈ news) (hx : vs[i]? = some x)
    (h : ∀ h', CS h₀ L m ((J, iterOf l (i + 1)) :: news) C mC h' → Q (some x) { s with heap := h' }) : wpAny (model prog w) A (pyNext (.ref J)) Q E s := by
  have hm := S.nw (J, iterOf l i) (.head _)
  unfold pyNext
  refine wpAny_bind (wpAny_attempt (special_item (l := l) (i := i) ⟨_, hm.1, rfl, rfl⟩ ⟨_, (S.nw _ (.tail _ hl)).1, rfl, c, rfl⟩ hx ?_))
  have U := news_upd (pre := []) (post := news) (d := J) (o := iterOf l i) (o' := iterOf l (i + 1)) (f := Obj.mapFields (·.setIfInBounds 1 (rawInt ((i : Int) + 1)))) S.fr S.nw (fun _ h => nomatch h) S.headNe (by simp [Obj.mapFields, rawInt]) rfl
  obtain ⟨oC, b1, b2, hC, b3⟩ := S.ns
  refine wpAny_pure (h _ ⟨U.1, ⟨oC, b1, b2, (Heap.get?_update_ne _ _ _ _ (Ne.symm (S.cn (J, iterOf l i) (.head _)))).trans hC, b3⟩, S.cL, S.c0, U.2, ?_, S.nd⟩)
  intro p hp
  rcases List.mem_cons.mp hp with rfl | hp
  · exact S.cn (J, iterOf l i) (.head _)
  · exact S.cn p (.tail _ hp)
theorem CS.stop {Q : Option Value → Shared → Prop} (hh : A.handled = none) (S : CS h₀ L m ((J, iterOf l i) :: news) C mC s.heap) (hl : (l, listOf vs.toArray c) ∈ news) (hx : vs.length ≤ i)
    (h : ∀ h', CS h₀ L m news C mC h' → Q none { s with heap := h' }) : wpAny (model prog w) A (pyNext (.ref J)) Q E s := by
  have hm := S.nw (J, iterOf l i) (.head _)
  refine wpAny_pyNext_list_end (items := vs.toArray) hh ⟨_, hm.1, rfl, rfl⟩ ⟨_, (S.nw _ (.tail _ hl)).1, rfl, c, rfl⟩ (by simp [hx]) fun h' hs => h h' ?_
  exact S.tail.extBut hs hm.2.1 (S.cn (J, iterOf l i) (.head _)) hm.2.2 S.headNe
theorem CS.app {its : Array Value} {n : Nat} {x : Value} {Q : Value → Shared → Prop} (S : CS h₀ L m ((D, listOf its n) :: news) C mC s.heap) (hz : its.size ≤ sizeLine)
    (h : ∀ h', CS h₀ L m ((D, listOf (its.push x) (n + 1)) :: news) C mC h' → Q .none { s with heap := h' }) : wpAny (model prog w) A (call (.builtin "list.append") [.ref D, x]) Q E s := by
  have hm := S.nw (D, listOf its n) (.head _)
  refine append_at (hsz := hz) hm.1 fun h' hs ho => h h' ?_
  obtain ⟨oC, b1, b2, hC, b3⟩ := S.ns
  have hDC := S.cn (D, listOf its n) (.head _)
  refine ⟨S.fr.change hs hm.2.1 hm.2.2, ⟨oC, b1, b2, (hs.2 C (Ne.symm hDC)).trans hC, b3⟩, S.cL, S.c0, fun p hp => ?_, fun p hp => ?_, S.nd⟩
  · rcases List.mem_cons.mp hp with rfl | hp
    · exact ⟨ho, hm.2⟩
    · exact ⟨(hs.2 p.1 (S.headNe p hp)).trans (S.nw p (.tail _ hp)).1, (S.nw p (.tail _ hp)).2⟩
  · rcases List.mem_cons.mp hp with rfl | hp
    · exact hDC
    · exact S.cn p (.tail _ hp)

theorem compTurn_in (elt target iter : Expr) (g0 : Comprehension) (scope : Scope) (pos : Pos) (it acc : Value) (env : Env) :
    compTurn (.ListComp elt [g0, ⟨target, iter, [], 0⟩] scope pos) 1 it acc env = (standAt iter.pos >>= fun _ => pyNext it >>= fun r => match r with
      | none => pure (.done .next)
      | some v => letOwnedTupleGo target it v >>= fun _ => assign target env v >>= fun _ =>
        (eval elt env >>= fun x => call (.builtin "list.append") [acc, x] >>= fun _ => pure ()) >>= fun _ =>
          again (.compLoop (.ListComp elt [g0, ⟨target, iter, [], 0⟩] scope pos) 1 it acc env)) := by rfl
theorem compTurn_out (elt t1 i1 t2 i2 : Expr) (scope : Scope) (pos : Pos) (it acc : Value) (env : Env) :
    compTurn (.ListComp elt [⟨t1, i1, [], 0⟩, ⟨t2, i2, [], 0⟩] scope pos) 0 it acc env = (standAt i1.pos >>= fun _ => pyNext it >>= fun r => match r with
      | none => pure (.done .next)
      | some v => letOwnedTupleGo t1 it v >>= fun _ => assign t1 env v >>= fun _ =>
        eval i2 env >>= fun x => standAt i2.pos >>= fun _ => foldedSetIterable i2 env x >>= fun x => holding [x] (pyIter x) >>= fun it' => runOwn (.compStart (.ListComp elt [⟨t1, i1, [], 0⟩, ⟨t2, i2, [], 0⟩] scope pos) 1 it' acc env) env >>= fun _ =>
          again (.compLoop (.ListComp elt [⟨t1, i1, [], 0⟩, ⟨t2, i2, [], 0⟩] scope pos) 0 it acc env)) := by rfl

theorem comp_inner {R : Result → Shared → Prop} {g0 : Comprehension} {it2 : Expr} {scope : Scope} {pos po po' : Pos} {env : Env} {o : Str} {accs : List Value} {k : Nat} (hh : A.handled = none) (hk : scope.kind = .function) (ho : scope.names.lookup o = some .local) (hd : (o == ("__debug__" : Str)) = false)
    (S : CS h₀ L m ((D, listOf accs.toArray k) :: (J, iterOf l 0) :: news) C mC s.heap) (hl : (l, listOf vs.toArray c) ∈ news) (hz : accs.length + vs.length ≤ 1000)
    (done : ∀ h' tk mC' k', CS h₀ L m ((D, listOf (accs ++ vs).toArray k') :: news) C mC' h' → R (.ok .next) { s with heap := h', toks := tk }) :
    codeAny (model prog w) A (.compLoop (.ListComp (.Name o po) [g0, ⟨.Name o po', it2, [], 0⟩] scope pos) 1 (.ref J) (.ref D) (compEnv scope C env)) R s := by
  refine codeAny_loop rfl (fun n s' => ∃ h' tk mC' k' j, s' = { s with heap := h', toks := tk } ∧ CS h₀ L m ((D, listOf (accs ++ vs.take j).toArray k') :: (J, iterOf l j) :: news) C mC' h' ∧ j ≤ vs.length ∧ n = vs.length + 1 - j) ?_ (vs.length + 1)
    ⟨s.heap, s.toks, mC, k, 0, rfl, by simpa using S, Nat.zero_le _, rfl⟩
  rintro n _ ⟨h', tk, mC', k', j, rfl, S', hj, rfl⟩
  show wpAny _ A ((compTurn (.ListComp (.Name o po) [g0, ⟨.Name o po', it2, [], 0⟩] scope pos) 1 (.ref J) (.ref D) (compEnv scope C env)).onRaise (fun x => do noteFrame x (compEnv scope C env); theTreesLotGoes x)) _ _ _
  refine wpAny_noted ?_
  rw [compTurn_in]
  refine wpAny_bind (wpAny_standAt (wpAny_bind ?_))
  by_cases hlt : j < vs.length
  · refine CS.item (x := vs[j]) S'.swap (.tail _ hl) (List.getElem?_eq_getElem hlt) fun h2 S2 => ?_
    dsimp only
    refine wpAny_bind (wpAny_of_eq (a := ()) rfl (wpAny_bind (CS.store S2 hk ho fun h3 S3 => ?_)))
    refine wpAny_bind (wpAny_bind (CS.load S3 hk ho hd (if_pos rfl) (wpAny_bind (CS.app S3.swap (by rw [List.size_toArray, List.length_append, List.length_take, PySem.sizeLine_eq]; omega) fun h4 S4 => wpAny_pure (wpAny_pure ⟨rfl, ?_⟩)))))
    have e : accs ++ vs.take (j + 1) = (accs ++ vs.take j) ++ [vs[j]] := by rw [List.take_add_one, List.getElem?_eq_getElem hlt, List.append_assoc]; rfl
    rw [List.push_toArray, ← e] at S4
    exact ⟨vs.length + 1 - (j + 1), by omega, h4, _, _, _, j + 1, rfl, S4, hlt, rfl⟩
  · refine CS.stop hh S'.swap (.tail _ hl) (by omega) fun h2 S2 => ?_
    dsimp only
    refine wpAny_pure (done h2 _ mC' k' ?_)
    rw [List.take_of_length_le (by omega)] at S2
    exact S2

theorem comp_start1 {R : Result → Shared → Prop} {elt t1 i1 t2 i2 : Expr} {scope : Scope} {pos : Pos} {it acc : Value} {env : Env}
    (h0 : codeAny (model prog w) A (.compLoop (.ListComp elt [⟨t1, i1, [], 0⟩, ⟨t2, i2, [], 0⟩] scope pos) 1 it acc env) R s)
    (h : wpAny (model prog w) A (pyIter it) (fun it' s' => codeAny (model prog w) A (.compLoop (.ListComp elt [⟨t1, i1, [], 0⟩, ⟨t2, i2, [], 0⟩] scope pos) 1 it' acc env) R s') (notedBy (model prog w) A env fun x s' => R (.error x) s') s) :
    codeAny (model prog w) A (.compStart (.ListComp elt [⟨t1, i1, [], 0⟩, ⟨t2, i2, [], 0⟩] scope pos) 1 it acc env) R s := by
  refine codeAny_of_tree ?_
  show wpAny _ _ ((compStart (.ListComp elt [⟨t1, i1, [], 0⟩, ⟨t2, i2, [], 0⟩] scope pos) 1 it acc env).onRaise (fun x => do noteFrame x env; standAt theWindowsPlace)) _ _ s
  refine wpAny_notedAt ?_
  unfold compStart
  show wpAny _ _ (ask >>= _) _ _ s
  refine wpAny_bind (wpAny_askSetting (wpAny_ite ?_))
  split
  · first
      | exact wpAny_bind (wpAny_pure (wpAny_pure (And.intro rfl h0)))
      | exact wpAny_pure (And.intro rfl h0)
  · refine wpAny_bind (wpAny_rule ?_)
    show wpAny _ _ (standAt i2.pos >>= _) _ _ s
    exact wpAny_bind (wpAny_standAt (wpAny_bind (wpAny_mono h (fun it' s' h' => wpAny_pure (And.intro rfl h')) fun _ _ x => x)))

/-- what the second clause's source gives: a new list of ints -/
def Gives (prog : Program) (w : World) (A : Around) (h₀ : Heap) (L : Addr) (m : Str → Option Value) (C : Addr) (news : List (Addr × Obj)) (t : Sem Value) (ds : List Int) (E : Value → Shared → Prop) (mC : Str → Option Value) (s : Shared) : Prop :=
  wpAny (model prog w) A t (fun xv s' => ∃ l vs c h' tk, xv = .ref l ∧ s' = { s with heap := h', toks := tk } ∧ CS h₀ L m ((l, listOf vs.toArray c) :: news) C mC h' ∧ IntsAre vs ds) E s

theorem comp_outer {R : Result → Shared → Prop} {it1 it2 : Expr} {scope : Scope} {pos pn po po' : Pos} {env : Env} {n o : Str} {ns : List Int} {I : Addr} (f : Int → List Int) (hh : A.handled = none) (hk : scope.kind = .function) (hn : scope.names.lookup n = some .local) (ho : scope.names.lookup o = some .local) (hd : (o == ("__debug__" : Str)) = false)
    (S : CS h₀ L m ((D, listOf #[] 0) :: (I, iterOf l 0) :: news) C mC s.heap) (hl : (l, listOf vs.toArray c) ∈ news) (hi : IntsAre vs ns) (hz : (ns.flatMap f).length ≤ 1000)
    (hs : ∀ C x, foldedSetIterable it2 (compEnv scope C env) x = pure x)
    (hit : ∀ news' mC' s' x t E', x ∈ ns → CS h₀ L m news' C mC' s'.heap → mC' n = some (.int x t) → Gives prog w A h₀ L m C news' (eval it2 (compEnv scope C env)) (f x) E' mC' s')
    (done : ∀ h' tk mC' us k', CS h₀ L m ((D, listOf us.toArray k') :: news) C mC' h' → IntsAre us (ns.flatMap f) → R (.ok .next) { s with heap := h', toks := tk }) :
    codeAny (model prog w) A (.compLoop (.ListComp (.Name o po) [⟨.Name n pn, it1, [], 0⟩, ⟨.Name o po', it2, [], 0⟩] scope pos) 0 (.ref I) (.ref D) (compEnv scope C env)) R s := by
  have hlen := hi.length
  refine codeAny_loop rfl (fun q s' => ∃ h' tk mC' k' us i, s' = { s with heap := h', toks := tk } ∧ CS h₀ L m ((D, listOf us.toArray k') :: (I, iterOf l i) :: news) C mC' h' ∧ IntsAre us ((ns.take i).flatMap f) ∧ i ≤ ns.length ∧ q = ns.length + 1 - i) ?_ (ns.length + 1)
    ⟨s.heap, s.toks, mC, 0, [], 0, rfl, S, .nil, Nat.zero_le _, rfl⟩
  rintro q _ ⟨h', tk, mC', k', us, i, rfl, S', hu, hi', rfl⟩
  show wpAny _ A ((compTurn (.ListComp (.Name o po) [⟨.Name n pn, it1, [], 0⟩, ⟨.Name o po', it2, [], 0⟩] scope pos) 0 (.ref I) (.ref D) (compEnv scope C env)).onRaise (fun x => do noteFrame x (compEnv scope C env); theTreesLotGoes x)) _ _ _
  refine wpAny_noted ?_
  rw [compTurn_out]
  refine wpAny_bind (wpAny_standAt (wpAny_bind ?_))
  by_cases hlt : i < ns.length
  · have hx : ns[i]? = some ns[i] := List.getElem?_eq_getElem hlt
    obtain ⟨t, ht⟩ := hi.get i _ hx
    refine CS.item S'.swap (.tail _ hl) ht fun h2 S2 => ?_
    dsimp only
    refine wpAny_bind (wpAny_of_eq (a := ()) rfl (wpAny_bind (CS.store S2 hk hn fun h3 S3 => ?_)))
    refine wpAny_bind (wpAny_mono (hit _ _ _ ns[i] t _ (List.getElem_mem hlt) S3 (if_pos rfl)) ?_ fun _ _ e => e)
    rintro _ _ ⟨l2, vs2, c2, h4, tk4, rfl, rfl, S4, hi4⟩
    refine wpAny_bind (wpAny_standAt (wpAny_bind (wpAny_of_eq (hs _ _) (wpAny_bind (wpAny_holding (CS.iter S4 (.head _) fun h5 J S5 => wpAny_bind (wpAny_runOwn ?_)))))))
    have hful : ns.take (i + 1) = ns.take i ++ [ns[i]] := by rw [List.take_add_one, hx]; rfl
    have hsum : us.length + vs2.length ≤ 1000 := by
      rw [hu.length, hi4.length]
      have : (ns.take (i + 1)).flatMap f = (ns.take i).flatMap f ++ f ns[i] := by rw [hful, List.flatMap_append]; simp
      have h1 : ((ns.take (i + 1)).flatMap f).length ≤ (ns.flatMap f).length := by
        conv => rhs; rw [← List.take_append_drop (i + 1) ns, List.flatMap_append, List.length_append]
        omega
      rw [this, List.length_append] at h1
      omega
    have S6 := S5.perm (List.perm_middle (l₁ := [(J, iterOf l2 0), (l2, listOf vs2.toArray c2), (I, iterOf l (i + 1))]))
    refine comp_start1 ?_ (wpAny_pyIter_listiter (l := l2) (i := 0) ⟨_, (S5.nw _ (.head _)).1, rfl, rfl⟩ ?_)
    all_goals
      refine comp_inner hh hk ho hd S6 (.head _) hsum fun h7 tk7 mC7 k7 S7 => ?_
      refine wpAny_pure ⟨rfl, ns.length + 1 - (i + 1), by omega, h7, tk7, mC7, k7, us ++ vs2, i + 1, rfl, S7.swap.tail, ?_, hlt, rfl⟩
      rw [hful, List.flatMap_append]
      simpa using hu.append hi4
  · refine CS.stop hh S'.swap (.tail _ hl) (by omega) fun h2 S2 => ?_
    dsimp only
    rw [List.take_of_length_le (by omega)] at hu
    exact wpAny_pure (done h2 _ mC' us k' S2 hu)

theorem comp_nested {it1 it2 : Expr} {scope : Scope} {pos spos pn po po' py : Pos} {env : Env} {n o y : Str} {ns : List Int} {Q : Flow → Shared → Prop} (f : Int → List Int) (hh : A.handled = none)
    (hsw : swapsWith (.ListComp (.Name o po) [⟨.Name n pn, it1, [], 0⟩, ⟨.Name o po', it2, [], 0⟩] scope pos) (some (.Name y py)) spos.line env = pure true)
    (hfree : ∀ z ∈ scope.names, z.2 ≠ .free) (hcell : ∀ z ∈ scope.names, z.2 ≠ .cell) (hk : scope.kind = .function) (hnames : ∀ z ∈ scope.names, z.2 = .local → scope.names.lookup z.1 = some .local)
    (hn : scope.names.lookup n = some .local) (ho : scope.names.lookup o = some .local) (hd : (o == ("__debug__" : Str)) = false)
    (hy : env.kindOf y = some .local) (hp : (env.scope.kind == .class || (env.scope.kind == .module && env.locals != env.globals)) = false)
    (F : Fr h₀ env.locals s.heap m) (N : News h₀ env.locals s.heap news) (hnd : (news.map (·.1)).Nodup) (hl : (l, listOf vs.toArray c) ∈ news) (hi : IntsAre vs ns) (hz : (ns.flatMap f).length ≤ 1000)
    (h1 : wpAny (model prog w) A (eval it1 env) (fun xv s' => xv = .ref l ∧ s' = s) E s)
    (hs1 : ∀ x, foldedSetIterable it1 env x = pure x) (hs2 : ∀ C x, foldedSetIterable it2 (compEnv scope C env) x = pure x)
    (hit : ∀ C news' mC' s' x t E', x ∈ ns → CS h₀ env.locals m news' C mC' s'.heap → mC' n = some (.int x t) → Gives prog w A h₀ env.locals m C news' (eval it2 (compEnv scope C env)) (f x) E' mC' s')
    (done : ∀ h' tk D us k', Fr h₀ env.locals h' (fun z => if z = y then some (.ref D) else m z) → News h₀ env.locals h' ((D, listOf us.toArray k') :: news) → (((D, listOf us.toArray k') :: news).map (·.1)).Nodup → IntsAre us (ns.flatMap f) → Q .next { s with heap := h', toks := tk }) :
    wpAny (model prog w) A (exec (.Assign [.Name y py] (.ListComp (.Name o po) [⟨.Name n pn, it1, [], 0⟩, ⟨.Name o po', it2, [], 0⟩] scope pos) spos) env) Q E s := by
  rw [exec_Assign_Name_used _ _ _ _ hsw]
  refine wpAny_bind (wpAny_standAt (wpAny_bind ?_))
  show wpAny _ A (do let _ ← comprehension (.ListComp (.Name o po) [⟨.Name n pn, it1, [], 0⟩, ⟨.Name o po', it2, [], 0⟩] scope pos) scope env _ (newList []) false (eval it1 env) (some (assign (.Name y py) env))) _ _ s
  refine wpAny_bind (wpAny_mono (wpAny_comprehension_use (Q := fun _ s' => Q .next s') rfl hs1 hfree hk hnames (wpAny_mono h1 (fun xv s₁ hq => ?_) fun _ _ e => e))
    (fun _ s' hq => wpAny_pure (wpAny_pure hq)) fun _ _ e => e)
  obtain ⟨rfl, rfl⟩ := hq
  refine wpAny_pyIter_list (items := vs.toArray) ⟨_, (N _ hl).1, rfl, c, rfl⟩ (wpAny_newObj_type (hd := by size_fits) (wpAny_newFunctionEnv hcell (by intro z hz; simp at hz) (fun h₁ hns hsb => ?_) hk))
  dsimp only at hns hsb ⊢
  have N1 := News.push F N (iterOf l 0)
  have N2 := News.push (F.push (iterOf l 0)) N1 (listOf #[] 0)
  have S0 := CS.make ((F.push (iterOf l 0)).push (listOf #[] 0)) N2 (nd_push N1 (nd_push N hnd)) hns hsb
  refine codeAny_compStart_list ?_ (wpAny_pyIter_listiter (l := l) (i := 0) ⟨_, (S0.nw _ (.tail _ (.head _))).1, rfl, rfl⟩ ?_)
  all_goals
    refine comp_outer f hh hk hn ho hd S0 hl hi hz hs2 (hit _) fun h' tk mC' us k' S' hu => ?_
    dsimp only
    refine wpAny_assign_Name (wpAny_storeName_local hy S'.fr.ns (fun h₂ hn₂ hs₂ => ?_) hp)
    obtain ⟨oC, b1, b2, hC, b3⟩ := S'.ns
    refine ⟨mC', ⟨oC, b1, b2, (hs₂.2 _ S'.cL).trans hC, b3⟩, fun h₃ hs₃ => ?_⟩
    refine done h₃ _ _ us k' ((S'.fr.set hn₂ hs₂).change hs₃ S'.cL S'.c0) (fun p hp => ?_) S'.nd hu
    exact ⟨(hs₃.2 p.1 (S'.cn p hp)).trans (((S'.nw.set hs₂) p hp).1), (S'.nw p hp).2⟩
end

end PartW8
section PartW9
/-- the law's own statements and scope, as the row has them -/
def lawBody : List Stmt := match PySem.Challenge.pw_nb0033_01.main.body.getLast? with
  | some (.FunctionDef _ _ b _ _ _ _ _ _ _) => b
  | _ => []
def lawScope : Scope := match PySem.Challenge.pw_nb0033_01.main.body.getLast? with
  | some (.FunctionDef _ _ _ _ _ _ sc _ _ _) => sc
  | _ => default
local macro_rules | `(tactic| walk_at "call ref") => `(tactic| (refine Stop.out ?_))
local macro_rules | `(tactic| walk_at "pyIter ref") => `(tactic| (refine Stop.out ?_))
local macro_rules | `(tactic| walk_at "binaryOp Pow int int") => `(tactic| (refine Stop.out ?_))
local macro_rules | `(tactic| walk_at "subscriptTail Name Slice ref ref") => `(tactic| (refine Stop.out ?_))
section
variable {w : World} {h₀ : Heap} {L fa D nl : Addr} {ccd : Value} {s : Shared} {mean : ExcName → Option Value} {mg mb : Str → Option Value} {u : Str → Option Value}
theorem law3 {os us : List Value} {c1 c2 : Nat} {qs : List Int} (B : Below callerA h₀ [] h₀) (F : Fr h₀ L s.heap (fun y => if y = Str.ofString "octets" then some (.ref D) else if y = Str.ofString "numbers" then some (.ref nl) else u y)) (X : (hd.heap_39 w.params).In h₀) (N : News h₀ L s.heap [(D, listOf os.toArray c1), (nl, listOf us.toArray c2)]) (T : Top hd.view_39 (looseW hd.view_39 [Str.ofString "bisect_right"]) mean mg mb h₀)
    (hi : IntsAre us qs) (ho : IntsAre os (qs.flatMap octs)) (hqs : ∀ q ∈ qs, 0 ≤ q ∧ q < 16777216) (hlen : qs.length ≤ 7) :
    wpAny (model PySem.Challenge.rw_nb0033_01.row.prog w) (callerA.deeper (envOf (Str.ofString "law") lawScope L fa ccd)) (execs (lawBody.drop 2) (envOf (Str.ofString "law") lawScope L fa ccd))
      (fun fl s' => Stop (∃ h' tk m', fl = .ret (.bool true) ∧ s' = { s with heap := h', toks := tk } ∧ Fr h₀ L h' m')) (fun _ _ => False) s := by
  revert X
  k_fill
  intro X
  rw [show lawBody.drop 2 = [_, _, _, _] from rfl, show lawScope = ⟨_, _, _, _, _⟩ from rfl]
  refine cut1 ?_
  intro r hr
  k_steps
  refine Stop.mk ?_
  k_dflt (refine' begins_call ?k1 ?k2 ?k3 ?k4 ?k5 ?kf ?kk ?kd ?kl hi ?kn hqs ?_; (case k1 => k_asm); (case k2 => k_asm); (case k3 => k_asm); (case k4 => k_asm); (case k5 => k_asm); (case kf => rfl); (case kk => rfl); (case kd => decide); (case kl => exact .tail _ (.head _)); (case kn => omega))
  intro h1 tk1 bl bs cb F1 N1 hb hlt
  try dsimp only
  k_steps
  subst hr
  dsimp only
  refine cut1 ?_
  intro r hr
  k_steps
  refine item_last (by k_asm) (List.Mem.head _) hb (begs_last qs) ?_
  intro t2
  have hfl := flat_le hqs
  have htl := tot_len qs
  k_steps
  · exact absurd htl (by assumption)
  subst hr
  dsimp only
  refine wpAny_execs_cons ?_
  rename Fr _ _ _ _ => F2
  with_unfolding_all refine' For_invVF F2 ?k1 ?k2 ?_
  case k1 => rfl
  case k2 => rfl
  k_steps
  refine Stop.mk ?_
  rename IsRange _ _ _ _ _ _ _ _ => hR
  rename Fr _ _ _ _ => F3
  rename News _ _ _ _ => N3
  have hMk := kstMark
  with_unfolding_all refine' kst_range (fun _ : Unit => [(bl, listOf bs.toArray cb), (D, listOf os.toArray c1), (nl, listOf us.toArray c2)]) (fun _ => []) (fun _ => True) [Str.ofString "which", Str.ofString "rest"] (fun _ _ => True) () rfl hR (small_one (by omega) (by omega) (by omega) (by omega)) (rangeSize_nat _ _) F3 N3 trivial ?kk trivial ?turn ?done
  case kk => intro p hp; cases hp
  case done =>
    rintro _ v h2 tk2 _ _ F4 N4
    replace F4 : Fr h₀ L h2 _ := F4
    k_steps
    exact Stop.mk ⟨_, _, _, rfl, rfl, F4⟩
  case turn =>
    clear F3 N3
    rintro _ pre place t v h2 tk2 own hpl hpre hoff _ _ F4 N4
    replace F4 : Fr h₀ L h2 _ := F4
    replace N4 : News h₀ L h2 _ := N4
    try dsimp only at F4 N4 hoff
    k_steps
    refine Stop.mk ?_
    have hbl := begs_len qs
    k_dflt (refine' bisect_call ?k1 ?k2 ?k3 ?k4 ?k5 ?kf ?kk ?kd ?kl hb ?kn (begs_rising qs) ?_; (case k1 => k_asm); (case k2 => k_asm); (case k3 => k_asm); (case k4 => k_asm); (case k5 => k_asm); (case kf => rfl); (case kk => rfl); (case kd => decide); (case kl => exact .head _); (case kn => omega))
    intro h5 tk5 t5 r F5 N5 hbis
    obtain ⟨j, hrj, hsp⟩ := spot_of hbis (by omega) (by omega)
    subst hrj
    have hj1 := hsp.lt
    obtain ⟨k, hke, hk0, hk1, hkt⟩ := hsp.exp hqs
    have hk4 : k ≤ 4 := Nat.le_trans hk1 (octs_len_le (hqs _ (by rw [getElem!_pos qs j hj1]; exact List.getElem_mem hj1)).2)
    try dsimp only
    k_steps
    refine Stop.mk ?_
    rw [hke]
    refine pow_int_small (by omega) (by omega) (by decide) ?_
    rw [Int.toNat_natCast]
    refine mod_int' (Int.ne_of_gt (Int.pow_pos (by decide))) ?_
    generalize hrest : Int.fmod (qs.getD ((j : Int) + 1 - 1).toNat 0) (64 ^ k) = rest
    dsimp only
    k_steps
    refine Stop.mk ?_
    rename Fr _ _ _ _ => F6
    rename News _ _ _ _ => N6
    have hp0 : 0 ≤ place := by omega
    k_dflt (refine' kmk_slice_ints F6 N6 ⟨_, (N6 _ (.tail _ (.head _))).1, rfl, c1, rfl⟩ (.int _ _) .none ho (kmk_from ho hp0) rfl ?_ ?s ?t ?z; (case s => with_unfolding_all rfl); (case t => kmk_pure); (case z => rw [List.size_toArray, ho.length, PySem.sizeLine_eq]; omega))
    intro sl ws h7 F7 N7 hsl hws _ _
    dsimp only
    k_steps
    refine Stop.mk ?_
    rw [segs_flat hsp] at hws
    k_dflt (refine' read_call (segs := segsAt qs place j) ?k1 ?k2 ?k3 ?k4 ?k5 ?kk ?k6 ?k7 ?kd ?kl hws ?kn (segs_good hsp hqs) ?_; (case k1 => k_asm); (case k2 => k_asm); (case k3 => k_asm); (case k4 => k_asm); (case k5 => k_asm); (case kk => rfl); (case k6 => k_asm); (case k7 => k_asm); (case kd => decide); (case kl => exact .head _); (case kn => (rw [← segs_flat hsp, List.length_drop]; omega)))
    intro h8 tk8 rl rs cr F8 N8 hrs hrl
    try dsimp only
    rw [segs_vals hsp hqs] at hrs
    k_steps
    refine Stop.mk ?_
    rename Fr _ _ _ _ => F9
    rename News _ _ _ _ => N9
    have hq1 : 0 ≤ (j : Int) + 1 - 1 + 1 := by omega
    k_dflt (refine' kmk_slice_ints F9 N9 ⟨_, (N9 _ (.tail _ (.tail _ (.tail _ (.tail _ (.tail _ (.head _))))))).1, rfl, c2, rfl⟩ (.int _ _) .none hi (kmk_from hi hq1) rfl ?_ ?s ?t ?z; (case s => with_unfolding_all rfl); (case t => kmk_pure); (case z => rw [List.size_toArray, hi.length, PySem.sizeLine_eq]; omega))
    intro sn wn h10 F10 N10 hsn hwn _ _
    dsimp only
    rw [show ((j : Int) + 1 - 1 + 1).toNat = j + 1 by omega] at hwn
    have hval := rest_val hsp hqs hkt
    rw [show ((j : Int) + 1 - 1).toNat = j by omega] at hrest
    rw [hval, hrest] at hrs
    k_steps
    rename Fr _ _ _ _ => F11
    rename News _ _ _ _ => N11
    refine kst_end () F11 N11 ?hn ?ho rfl trivial ?hk ?hr trivial
    case hn => intro p hp; exact .tail _ (.tail _ (.tail _ (.tail _ (.tail _ (List.mem_append_left _ hp)))))
    case ho => intro p hp; exact .tail _ (.tail _ (.tail _ (.tail _ (.tail _ (List.mem_append_right _ hp)))))
    case hk => intro p hp; cases hp
    case hr => intro z h1 _ h3; simp only [List.contains_cons, List.contains_nil, Bool.or_false, Bool.or_eq_false_iff, beq_eq_false_iff_ne, ne_eq] at h3; simp [kstB, h1, h3]
end

end PartW9
section PartW10
theorem comp_global {M : Model} {A : Around} {E : Value → Shared → Prop} {s : Shared} {scope : Scope} {C : Addr} {env : Env} {x : Str} {pos : Pos} {v : Value} {Q : Value → Shared → Prop} {h₀ : Heap} {mg : Str → Option Value}
    (hg : h₀.Ns mainGlobals mg) (hv : mg x = some v) (keep : ∀ b o, h₀.get? b = some o → s.heap.get? b = some o) (h : Q v s)
    (hk : scope.kind = .function) (hx : (compEnv scope C env).kindOf x = some .globalImplicit) (eg : env.globals = mainGlobals) (hd : (x == ("__debug__" : Str)) = false := by decide) :
    wpAny M A (eval (.Name x pos) (compEnv scope C env)) Q E s :=
  Name_function_global (env := compEnv scope C env) hk hx (loadGlobal_global (env := compEnv scope C env) (show s.heap.Ns env.globals mg from eg ▸ hg.keeps keep) hv h) hd
local macro_rules | `(tactic| walk_at "call ref") => `(tactic| (refine Stop.out ?_))
section
variable {w : World} {h₀ : Heap} {L fa nl : Addr} {ccd : Value} {s : Shared} {mean : ExcName → Option Value} {mg mb : Str → Option Value} {u : Str → Option Value}
theorem law2 {us : List Value} {c2 : Nat} {qs : List Int} (B : Below callerA h₀ [] h₀) (F : Fr h₀ L s.heap (fun y => if y = Str.ofString "numbers" then some (.ref nl) else u y)) (X : (hd.heap_39 w.params).In h₀) (N : News h₀ L s.heap [(nl, listOf us.toArray c2)]) (T : Top hd.view_39 (looseW hd.view_39 [Str.ofString "bisect_right"]) mean mg mb h₀)
    (hi : IntsAre us qs) (hqs : ∀ q ∈ qs, 0 ≤ q ∧ q < 16777216) (hlen : qs.length ≤ 7) :
    wpAny (model PySem.Challenge.rw_nb0033_01.row.prog w) (callerA.deeper (envOf (Str.ofString "law") lawScope L fa ccd)) (execs (lawBody.drop 1) (envOf (Str.ofString "law") lawScope L fa ccd))
      (fun fl s' => Stop (∃ h' tk m', fl = .ret (.bool true) ∧ s' = { s with heap := h', toks := tk } ∧ Fr h₀ L h' m')) (fun _ _ => False) s := by
  revert X
  k_fill
  intro X
  rw [show lawBody.drop 1 = _ :: lawBody.drop 2 from rfl]
  refine wpAny_execs_cons ?_
  have hfl := flat_le hqs
  refine' comp_nested octs rfl ?sw ?fr ?ce rfl ?nm rfl rfl (by decide) rfl rfl F N ?nd (.head _) hi (by omega) ?h1 ?s1 ?s2 ?hit ?done
  case sw => with_unfolding_all rfl
  case fr => decide
  case ce => decide
  case nm => decide
  case nd => simp
  case s1 => intro _; rfl
  case s2 => intro _ _; rfl
  case h1 => exact ld F rfl ⟨rfl, rfl⟩
  case done =>
    intro h' tk D vs k' F' N' nd' hv
    exact law3 (s := { s with heap := h', toks := tk }) B F' X N' T hi hv hqs hlen
  case hit =>
    intro C news' mC' s' x t E' hx S hm
    unfold Gives
    replace S : CS h₀ L _ news' C mC' s'.heap := S
    have F1 := S.fr
    obtain ⟨oC, es, ep, hoC, hns⟩ := S.ns
    have N1 : News h₀ L s'.heap ((C, oC) :: news') := fun p hp => by
      rcases List.mem_cons.mp hp with rfl | hp
      · exact ⟨hoC, S.cL, S.c0⟩
      · exact S.nw p hp
    have hn1 : s'.heap.Ns C mC' := S.ns
    have hq := hqs x hx
    refine wpAny_mono (Q := fun xv s2 => Stop (∃ l vs c h' tk, xv = .ref l ∧ s2 = { s' with heap := h', toks := tk } ∧ Fr h₀ L h' (fun y => if y = Str.ofString "numbers" then some (.ref nl) else u y) ∧ News h₀ L h' ((l, listOf vs.toArray c) :: (C, oC) :: news') ∧ IntsAre vs (octs x) ∧ ∀ p ∈ (C, oC) :: news', p.1 < l)) (E := E') ?_ ?_ (fun _ _ e => e)
    · k_steps
      refine Stop.mk ?_
      k_dflt (refine' octets_call ?k1 ?k2 ?k3 ?k4 ?k5 ?kf ?kk ?kd hq.1 hq.2 ?_; (case k1 => k_asm); (case k2 => k_asm); (case k3 => k_asm); (case k4 => k_asm); (case k5 => k_asm); (case kf => rfl); (case kk => rfl); (case kd => decide))
      intro h' tk l vs c F2 N2 hv hlt
      exact Stop.mk ⟨l, vs, c, h', tk, rfl, rfl, F2, N2, hv, hlt⟩
    · rintro _ _ ⟨l, vs, c, h', tk, rfl, rfl, F2, N2, hv, hlt⟩
      refine ⟨l, vs, c, h', tk, rfl, rfl, ⟨F2, ⟨oC, es, ep, (N2 _ (.tail _ (.head _))).1, hns⟩, S.cL, S.c0, ?_, ?_, ?_⟩, hv⟩
      · intro p hp
        rcases List.mem_cons.mp hp with rfl | hp
        · exact N2 _ (.head _)
        · exact N2 _ (.tail _ (.tail _ hp))
      · intro p hp
        rcases List.mem_cons.mp hp with rfl | hp
        · exact Nat.ne_of_gt (hlt (C, oC) (.head _))
        · exact S.cn p hp
      · rw [List.map_cons, List.nodup_cons]
        refine ⟨fun hm => ?_, S.nd⟩
        obtain ⟨p, hp, e⟩ := List.mem_map.mp hm
        exact absurd (hlt p (.tail _ hp)) (e ▸ Nat.lt_irrefl _)
end

end PartW10
section PartW7
def absm (x : Int) : Int := Int.fmod (if -x > x then -x else x) 16777216
local macro_rules | `(tactic| walk_at "eval ListComp") => `(tactic| (refine Stop.out ?_))
theorem absm_good (x : Int) : 0 ≤ absm x ∧ absm x < 16777216 := by
  unfold absm
  rw [Int.fmod_eq_emod_of_nonneg _ (by decide)]
  omega
theorem nums_good (ns : List Int) : ∀ q ∈ [63, 4096] ++ (ns.take 5).map absm, 0 ≤ q ∧ q < 16777216 := by
  intro q hq
  rcases List.mem_append.mp hq with h | h
  · simp only [List.mem_cons, List.not_mem_nil, or_false] at h
    omega
  · obtain ⟨x, _, rfl⟩ := List.mem_map.mp h
    exact absm_good x
theorem nums_len (ns : List Int) : ([63, 4096] ++ (ns.take 5).map absm).length ≤ 7 := by
  rw [List.length_append, List.length_map, List.length_take]; simp; omega
theorem name_news {h₀ h : Heap} {L a : Addr} {o : Obj} {r : List (Addr × Obj)} (_ : News h₀ L h ((a, o) :: r)) : ∃ y, y = a := ⟨a, rfl⟩
theorem ints_mem : ∀ {vs : List Value} {ns : List Int}, IntsAre vs ns → ∀ {v}, v ∈ vs → ∃ a t, v = Value.int a t
  | _, _, .cons n t _, _, .head _ => ⟨n, t, rfl⟩
  | _, _, .cons _ _ h, _, .tail _ hm => ints_mem h hm
theorem comp_builtin {M : Model} {A : Around} {E : Value → Shared → Prop} {s : Shared} {scope : Scope} {C : Addr} {env : Env} {x : Str} {pos : Pos} {v : Value} {Q : Value → Shared → Prop} {h₀ : Heap} {mg mb : Str → Option Value}
    (hg : h₀.Ns mainGlobals mg) (hmiss : mg x = none) (hb : h₀.Ns builtinsNs mb) (hv : mb x = some v) (keep : ∀ b o, h₀.get? b = some o → s.heap.get? b = some o) (h : Q v s)
    (hk : scope.kind = .function) (hx : (compEnv scope C env).kindOf x = some .globalImplicit) (eg : env.globals = mainGlobals) (eb : env.builtins = builtinsNs) (hd : (x == ("__debug__" : Str)) = false := by decide) :
    wpAny M A (eval (.Name x pos) (compEnv scope C env)) Q E s :=
  Name_function_global (env := compEnv scope C env) hk hx (loadGlobal_builtin (env := compEnv scope C env) (show s.heap.Ns env.globals mg from eg ▸ hg.keeps keep) hmiss (show s.heap.Ns env.builtins mb from eb ▸ hb.keeps keep) hv h) hd
theorem max_keep {prog : Program} {w : World} {A : Around} {E : Value → Shared → Prop} {s : Shared} {a b : Int} {t u : Tok} {Q : Value → Shared → Prop} (hh : A.handled = none)
    (h : ∀ h' tk t', (∀ c o, s.heap.get? c = some o → h'.get? c = some o) → Q (.int (if b > a then b else a) t') { s with heap := h', toks := tk }) :
    wpAny (model prog w) A (call (.builtin "max") [.int a t, .int b u]) Q E s := by
  refine max_two_ints hh fun h' tk hk => ?_
  by_cases c : b > a
  · have := h h' tk u hk; rw [if_pos c] at this ⊢; exact this
  · have := h h' tk t hk; rw [if_neg c] at this ⊢; exact this
local macro_rules | `(tactic| walk_at "call builtin:max") => `(tactic| (refine Stop.out ?_))
theorem paired_absm : ∀ {us : List Value} {ns : List Int} {ys : List Value}, IntsAre us ns → Paired (fun v y => ∃ a t u, v = Value.int a t ∧ y = Value.int (absm a) u) (us.filter fun _ => true) ys → IntsAre ys (ns.map absm)
  | _, _, _, .nil, h => by cases h; exact .nil
  | _, _, _, .cons n t r, h => by
    rw [List.filter_cons_of_pos rfl] at h
    cases h with
    | cons hF ht =>
      obtain ⟨a', t', u, e, rfl⟩ := hF
      cases e
      exact .cons _ _ (paired_absm r ht)
section
variable {w : World} {h₀ : Heap} {L fa sc : Addr} {ccd : Value} {s : Shared} {mean : ExcName → Option Value} {mg mb : Str → Option Value}
theorem law_walk {vs : List Value} {ns : List Int} (B : Below callerA h₀ [] h₀) (F : Fr h₀ L s.heap (fun y => List.lookup y [(Str.ofString "script", .ref sc)])) (X : (hd.heap_39 w.params).In h₀) (N : News h₀ L s.heap []) (T : Top hd.view_39 (looseW hd.view_39 [Str.ofString "bisect_right"]) mean mg mb h₀)
    (hl : h₀.IsList sc vs.toArray) (hi : IntsAre vs ns) (hlen : ns.length ≤ 63) :
    wpAny (model PySem.Challenge.rw_nb0033_01.row.prog w) (callerA.deeper (envOf (Str.ofString "law") lawScope L fa ccd)) (execs lawBody (envOf (Str.ofString "law") lawScope L fa ccd))
      (fun fl s' => Stop (∃ h' tk m', fl = .ret (.bool true) ∧ s' = { s with heap := h', toks := tk } ∧ Fr h₀ L h' m')) (fun _ _ => False) s := by
  revert X
  k_fill
  intro X
  rw [show lawBody = [_, _, _, _, _, _] from rfl, show lawScope = ⟨_, _, _, _, _⟩ from rfl]
  refine cut1 ?_
  intro r hr
  k_steps
  refine Stop.mk ?_
  rename Fr _ _ _ _ => F1
  rename News _ _ _ _ => N1
  obtain ⟨nl, hnl⟩ := name_news N1
  subst hnl
  refine wpAny_ListComp_map (fun _ => true) (fun v y => ∃ a t u, v = .int a t ∧ y = .int (absm a) u) rfl (by decide) (by decide) rfl (by decide) rfl ?_
  refine wpAny_mono (Q := fun xv s₁ => Stop (∃ ax h' tk us c, xv = .ref ax ∧ s₁ = { s with heap := h', toks := tk } ∧ Fr h₀ L h' (fun y => List.lookup y [(Str.ofString "script", Value.ref sc)]) ∧ News h₀ L h' [(ax, listOf us.toArray c), (nl, listOf [Value.int 63 s.toks, Value.int 4096 (s.toks + 1)].toArray 0)] ∧ IntsAre us (ns.take 5))) ?_ ?_ (fun _ _ e => e)
  · k_steps
    rename Fr _ _ _ _ => F2
    rename News _ _ _ _ => N2
    rename IntsAre _ (List.take 5 ns) => hi2
    exact Stop.mk ⟨_, _, _, _, _, rfl, rfl, F2, N2, hi2⟩
  · rintro _ _ ⟨ax, h2, tk2, us, c, rfl, rfl, F2, N2, hi2⟩
    dsimp only
    have h5 : (ns.take 5).length ≤ 5 := by rw [List.length_take]; omega
    have hl2 := hi2.length
    refine ⟨ax, us.toArray, rfl, ⟨_, (N2 _ (.head _)).1, rfl, c, rfl⟩, by rw [List.size_toArray, PySem.sizeLine_eq]; omega, ?_, ?_, ?_⟩
    · intro C v s3 m3 E' _ _ _ _
      exact wpAny_tests_nil ⟨rfl, ⟨_, _, rfl, fun _ _ e => e⟩⟩
    · intro C v s3 m3 E' hv _ hn3 hm3 hk3
      obtain ⟨a, t, rfl⟩ : ∃ a t, v = Value.int a t := ints_mem hi2 (by simpa using hv)
      refine wpAny_mono (Q := fun y s4 => Stop ((∃ u, y = Value.int (absm a) u) ∧ Keeps s3 s4)) ?_ ?_ (fun _ _ e => e)
      · k_steps
        refine comp_builtin T.g (mg_none_of X T.g rfl) T.b ((T.builtins _ (by decide)).trans (show bootBuiltins _ = some (.builtin "max") by decide +kernel)) (fun b o e => hk3 b o (F2.keep b o e)) ?_ rfl rfl rfl rfl
        k_steps
        refine Stop.mk ?_
        refine max_keep rfl ?_
        intro h4 tk4 t4 hk4
        k_steps
        exact Stop.mk ⟨⟨_, rfl⟩, ⟨_, _, rfl, hk4⟩⟩
      · rintro y s4 ⟨⟨u, rfl⟩, hk⟩
        exact ⟨⟨a, t, u, rfl, rfl⟩, hk⟩
    · intro D h3 tk3 ys hD hys hP hk3
      have hi3 := paired_absm hi2 hP
      have N3 := N2.grown hk3
      refine add_arrays_ints (F2.grownK hk3) News.nil ⟨_, (N3 _ (.tail _ (.head _))).1, rfl, 0, rfl⟩ hys (ns := [63, 4096]) (.cons _ _ (.cons _ _ .nil)) hi3 ?_ (by rw [List.length_map, PySem.sizeLine_eq]; simp; omega)
      intro h4 F4 N4 hi4
      dsimp only
      k_steps
      subst hr
      dsimp only
      rename Fr _ _ _ _ => F5
      rename News _ _ _ _ => N5
      exact law2 B F5 X N5 T hi4 (nums_good ns) (nums_len ns)
end

end PartW7
end Mine
theorem PySem.Challenge.cw_nb0033_01_holds : PySem.Challenge.rw_nb0033_01.Holds := by
  refine Mine.hd ?_
  k_go0
  rename Fr _ _ _ _ => F0
  rename News _ _ _ _ => N0
  rename Top _ _ _ _ _ _ => T0
  rename Below _ _ _ _ => B0
  rename Frag.In _ _ => X0
  rename Heap.IsList _ _ _ => hl0
  rename IntsAre _ _ => hi0
  refine wpAny_mono (Mine.law_walk B0 F0 X0 N0 T0 hl0 hi0 (by omega)) ?_ (fun _ _ h => h.elim)
  rintro _ _ ⟨h', tk, m', rfl, rfl, F1⟩
  dsimp only
  k_steps
