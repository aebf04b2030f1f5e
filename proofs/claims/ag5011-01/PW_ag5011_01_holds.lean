import PyProof.Rows.All
import Wide.All
import OpenK.AllK
import Wide.FinOn
import PySem.Challenge.RW_ag5011_01
set_option Elab.async false
set_option maxRecDepth 100000
set_option maxHeartbeats 8000000

section
open PySem PySem.W PyProof.Rows
namespace Mine
open_top hd for PySem.Challenge.rw_ag5011_01
end Mine
end

section
open PySem PySem.W PyProof.Rows
namespace Mine

abbrev Mean := ExcName → Option Value
abbrev Nm := Str → Option Value
abbrev Led := List (Addr × Obj)

/-- a def's contract, said of the text's own written part -/
abbrev Claims (w : World) (mean : Mean) (mg mb : Nm) (f : Addr) (news : Led) (pre : Prop) (vs : List Value) (R : Tok → Value) : Prop :=
  CbClaim (OpenLaw.row PySem.Challenge.rw_ag5011_01).prog w (hd.heap_39 w.params) hd.view_39 (looseW hd.view_39 [Str.ofString "small_numeral", Str.ofString "numeral"]) mean mg mb f news [] pre vs R

def fac : Nat → Nat
  | 0 => 1
  | n + 1 => fac n * (n + 1)

theorem rangeInts_succ (a : Int) (n : Nat) : rangeInts a 1 (n + 1) = rangeInts a 1 n ++ [a + (n : Int)] := by
  simp [rangeInts, List.range_succ]

theorem fold_fac (n : Nat) : (List.foldl (fun (σ : Int × Unit) (k : Int) => (σ.fst * k, ())) (1, ()) (rangeInts 2 1 n)).fst = (fac (n + 1) : Int) := by
  induction n with
  | zero => rfl
  | succ n ih =>
    rw [rangeInts_succ, List.foldl_append]
    simp only [List.foldl_cons, List.foldl_nil]
    rw [ih]
    show _ = ((fac (n + 1) * (n + 1 + 1) : Nat) : Int)
    rw [Int.natCast_mul]; congr 1; omega
theorem end_ifac (n : Int) : (List.foldl (fun (σ : Int × Unit) (k : Int) => (σ.fst * k, ())) (1, ()) (rangeInts 2 1 (n + 1 - 2).toNat)).fst = (fac n.toNat : Int) := by
  rw [fold_fac]
  by_cases hn : 1 ≤ n
  · rw [show (n + 1 - 2).toNat + 1 = n.toNat by omega]
  · rw [show (n + 1 - 2).toNat + 1 = 0 + 1 by omega, show n.toNat = 0 by omega]; rfl

theorem ifac_c (w : World) (mean : Mean) (mg mb : Nm) (news : Led) (n : Int) (t : Tok) : Claims w mean mg mb 44 news (0 ≤ n ∧ n ≤ 160) [.int n t] (fun t => .int (fac n.toNat) t) := by
  dsimp only [Claims, CbClaim, CbLists, CbRet]
  k_fill
  intros; rename_i hret
  w_on
  k_with_none
  refine wpAny_call ?_
  k_dflt cell_enter
  k_steps
  exact cb_retI hret (end_ifac _) (by k_asm) (by k_asm)
end Mine
end

section
open PySem PySem.W PyProof.Rows
namespace Mine

theorem rangeKs_len (a : Int) (n : Nat) : (rangeKs a n).length = n := by simp [rangeKs]
theorem fmod_pow {p c x : Int} {j : Nat} (hp : 2 ≤ p) (h4 : x = p ^ (j + 1) * c) : x.fmod p = 0 ∧ x.fdiv p = p ^ j * c := by
  have e : x = p * (p ^ j * c) := by rw [h4, Int.pow_succ, Int.mul_comm (p ^ j) p, Int.mul_assoc]
  rw [e, Int.fmod_eq_emod_of_nonneg _ (by omega), Int.fdiv_eq_ediv_of_nonneg _ (by omega)]
  exact ⟨Int.mul_emod_right _ _, Int.mul_ediv_cancel_left _ (by omega)⟩
theorem fmod_zero {p c x : Int} (hp : 2 ≤ p) (h4 : x = p ^ 0 * c) (hc : c % p ≠ 0) : x.fmod p ≠ 0 := by
  rw [h4, Int.fmod_eq_emod_of_nonneg _ (by omega)]; simpa using hc
theorem st_often {p c x many : Int} {v : Nat} {pre : List Int} {k : Int} (h1 : many = (pre.length : Int)) (h2 : pre.length ≤ v) (h3 : 0 ≤ x) (h4 : x = p ^ (v - pre.length) * c) (hp : 2 ≤ p) (hc : c % p ≠ 0) (hm : x.fmod p = 0) :
    many + 1 = ((pre ++ [k]).length : Int) ∧ (pre ++ [k]).length ≤ v ∧ 0 ≤ x.fdiv p ∧ x.fdiv p = p ^ (v - (pre ++ [k]).length) * c := by
  have hl : (pre ++ [k]).length = pre.length + 1 := by simp
  rw [hl]
  rcases Nat.lt_or_ge pre.length v with h | h
  · have hv : v - pre.length = (v - (pre.length + 1)) + 1 := by omega
    rw [hv] at h4
    refine ⟨by omega, by omega, ?_, (fmod_pow hp h4).2⟩
    rw [Int.fdiv_eq_ediv_of_nonneg _ (by omega)]
    exact Int.ediv_nonneg h3 (by omega)
  · rw [show v - pre.length = 0 by omega] at h4
    exact absurd hm (fmod_zero hp h4 hc)
theorem brk_often {p c x many : Int} {v : Nat} {pre : List Int} (h1 : many = (pre.length : Int)) (h2 : pre.length ≤ v) (h4 : x = p ^ (v - pre.length) * c) (hp : 2 ≤ p) (hm : x.fmod p ≠ 0) : many = (v : Int) := by
  rcases Nat.lt_or_ge pre.length v with h | h
  · rw [show v - pre.length = (v - (pre.length + 1)) + 1 by omega] at h4
    exact absurd (fmod_pow hp h4).1 hm
  · omega
theorem end_often {P : Prop} {v : Nat} (h2 : (rangeKs 0 ((400 : Int) - 0).toNat).length ≤ v) (hv : v < 400) : P := by
  rw [rangeKs_len] at h2
  exact absurd h2 (by omega)

theorem often_c (w : World) (mean : Mean) (mg mb : Nm) (news : Led) (n p : Int) (t t' : Tok) (v : Nat) (c : Int) : Claims w mean mg mb 56 news (2 ≤ p ∧ p ≤ 31 ∧ 0 ≤ n ∧ n = p ^ v * c ∧ c % p ≠ 0 ∧ v < 400) [.int n t, .int p t'] (fun t => .int v t) := by
  dsimp only [Claims, CbClaim, CbLists, CbRet]
  k_fill
  intros; rename_i hpre _ _ hret
  obtain ⟨hp2, hp31, hn0, hn, hc, hv⟩ := hpre
  w_on
  k_with_none
  refine wpAny_call ?_
  k_dflt cell_enter
  (k_with "pyIter ref" => k_state (fun pre x many => many = (pre.length : Int) ∧ pre.length ≤ v ∧ 0 ≤ x ∧ x = p ^ (v - pre.length) * c) "n" "many")
  (k_with "state" => first | exact st_often (by assumption) (by assumption) (by assumption) (by assumption) (by assumption) (by assumption) (by assumption) | exact ⟨rfl, Nat.zero_le _, by assumption, by simpa using (by assumption)⟩)
  k_steps
  all_goals first
    | exact cb_retI hret (brk_often (by assumption) (by assumption) (by assumption) (by assumption) (by assumption)) (by k_asm) (cb_drop (by k_asm) fun _ h => List.mem_append_left _ h)
    | exact end_often (by assumption) (by assumption)
end Mine
end

section
open PySem
namespace Mine
theorem odd_and (c : Nat) : (2 * c + 1) &&& (2 * c) = 2 * c := by
  apply Nat.eq_of_testBit_eq
  intro k
  rw [Nat.testBit_and]
  cases k with
  | zero => simp
  | succ k => rw [Nat.testBit_succ, Nat.testBit_succ, show (2 * c + 1) / 2 = c by omega, show 2 * c / 2 = c by omega, Bool.and_self]
theorem low_and (v c : Nat) : (2 ^ v * (2 * c + 1)) &&& (2 ^ v * (2 * c + 1) - 1) = 2 ^ v * (2 * c) := by
  have hp : 0 < 2 ^ v := Nat.two_pow_pos v
  have e1 : 2 ^ v * (2 * c + 1) - 1 = 2 ^ v * (2 * c) + (2 ^ v - 1) := by rw [Nat.mul_succ]; omega
  have e0 : 2 ^ v * (2 * c + 1) = 2 ^ v * (2 * c + 1) + 0 := rfl
  have e2 : 2 ^ v * (2 * c) = 2 ^ v * (2 * c) + 0 := rfl
  apply Nat.eq_of_testBit_eq
  intro j
  rw [Nat.testBit_and, e1, e0, Nat.testBit_two_pow_mul_add _ hp, Nat.testBit_two_pow_mul_add _ (by omega : 2 ^ v - 1 < 2 ^ v)]
  conv => rhs; rw [e2, Nat.testBit_two_pow_mul_add _ hp]
  by_cases h : j < v
  · simp [h]
  · simp only [h, if_false]
    rw [← Nat.testBit_and, odd_and]
/-- n and its negative: the lowest bit -/
theorem lowbit (v c : Nat) : Builtin.bitAnd (((2 ^ v * (2 * c + 1) : Nat)) : Int) (-((2 ^ v * (2 * c + 1) : Nat) : Int)) = ((2 ^ v : Nat) : Int) := by
  have hN : 0 < 2 ^ v * (2 * c + 1) := Nat.mul_pos (Nat.two_pow_pos v) (by omega)
  have hl := low_and v c
  have hm : 2 ^ v * (2 * c + 1) = 2 ^ v * (2 * c) + 2 ^ v := Nat.mul_succ _ _
  generalize 2 ^ v * (2 * c + 1) = N at *
  unfold Builtin.bitAnd Builtin.bitNot
  have h1 : decide (0 ≤ (N : Int)) = true := by simp
  have h2 : decide (0 ≤ (-(N : Int))) = false := by simp; omega
  rw [h1, h2]
  show (N : Int) - (((N : Int).toNat &&& (- -(N : Int) - 1).toNat : Nat) : Int) = _
  rw [show ((N : Int).toNat) = N by omega, show (- -(N : Int) - 1).toNat = N - 1 by omega, hl]
  omega
theorem bits_low (v : Nat) : ((Builtin.Int.intBits ((2 ^ v : Nat) : Int) : Nat) : Int) - 1 = v := by
  unfold Builtin.Int.intBits
  have hp : 0 < 2 ^ v := Nat.two_pow_pos v
  have hb : (((2 ^ v : Nat) : Int) == 0) = false := by rw [beq_eq_false_iff_ne]; omega
  rw [if_neg (by rw [hb]; exact Bool.false_ne_true)]
  rw [show (((2 ^ v : Nat) : Int)).natAbs = 2 ^ v from Int.natAbs_natCast _, Nat.log2_two_pow]
  omega
theorem trail {n : Int} {v c : Nat} (h : n = ((2 ^ v * (2 * c + 1) : Nat) : Int)) : ((Builtin.Int.intBits (Builtin.bitAnd n (-n)) : Nat) : Int) - 1 = v := by
  rw [h, lowbit, bits_low]
end Mine
end

section
open PySem PySem.W PyProof.Rows
namespace Mine

theorem trailing_c (w : World) (mean : Mean) (mg mb : Nm) (news : Led) (n : Int) (t : Tok) (v c : Nat) : Claims w mean mg mb 21 news (n = ((2 ^ v * (2 * c + 1) : Nat) : Int)) [.int n t] (fun t => .int v t) := by
  dsimp only [Claims, CbClaim, CbLists, CbRet]
  k_fill
  intros; rename_i hn _ _ hret
  have hn0 : n ≠ 0 := by
    have hN : 0 < 2 ^ v * (2 * c + 1) := Nat.mul_pos (Nat.two_pow_pos v) (by omega)
    omega
  w_on
  k_with_none
  refine wpAny_call ?_
  k_dflt cell_enter
  k_steps
  all_goals first
    | exact absurd (by assumption) hn0
    | exact cb_retI hret (trail hn) (by k_asm) (by k_asm)
end Mine
end

section
open PySem PySem.W PyProof.Rows
namespace Mine
abbrev DIG : Str := Str.ofString "0123456789abcdefghijklmnopqrstuvwxyz"
/-- the figures of n to the base p, the lowest first; f bounds their number -/
def dg : Nat → Nat → Nat → List Nat
  | 0, _, _ => []
  | f + 1, p, n => if n = 0 then [] else (n % p) :: dg f p (n / p)
def sg (d : Nat) : Str := Txt.item DIG (d : Int)
theorem dg_zero (f p : Nat) : dg f p 0 = [] := by cases f <;> rfl
theorem dg_succ {f p n : Nat} (h : n ≠ 0) : dg (f + 1) p n = (n % p) :: dg f p (n / p) := by simp [dg, h]
theorem fmod_nat (X P : Nat) : (X : Int).fmod (P : Int) = ((X % P : Nat) : Int) := by
  rw [Int.fmod_eq_emod_of_nonneg _ (by omega)]; rfl
theorem fdiv_nat (X P : Nat) : (X : Int).fdiv (P : Int) = ((X / P : Nat) : Int) := by
  rw [Int.fdiv_eq_ediv_of_nonneg _ (by omega)]; rfl
theorem div_lt_pow {X P k : Nat} (hP : 2 ≤ P) (h : X < 2 ^ (k + 1)) : X / P < 2 ^ k := by
  have h1 : X / P ≤ X / 2 := Nat.div_le_div_left hP (by omega)
  have h2 : 2 ^ (k + 1) = 2 ^ k * 2 := Nat.pow_succ ..
  omega
/-- a turn of small_numeral's loop -/
theorem st_dg {X P : Nat} {ds R : List Str} (hP : 2 ≤ P) (hX : X ≠ 0) (h1 : ds.length ≤ 8) (h2 : X < 2 ^ (8 - ds.length)) (h3 : ds ++ (dg (8 - ds.length) P X).map sg = R) :
    (ds ++ [sg (X % P)]).length ≤ 8 ∧ X / P < 2 ^ (8 - (ds ++ [sg (X % P)]).length) ∧ (ds ++ [sg (X % P)]) ++ (dg (8 - (ds ++ [sg (X % P)]).length) P (X / P)).map sg = R := by
  have hl : (ds ++ [sg (X % P)]).length = ds.length + 1 := by simp
  rw [hl]
  rcases Nat.lt_or_ge ds.length 8 with h | h
  · have e : 8 - ds.length = (8 - (ds.length + 1)) + 1 := by omega
    rw [e] at h2 h3
    refine ⟨by omega, div_lt_pow hP h2, ?_⟩
    rw [dg_succ hX] at h3
    rw [← h3]; simp
  · rw [show 8 - ds.length = 0 by omega] at h2
    omega
theorem sg_len (d : Nat) : (sg d).length = 1 := len_item _ _
theorem sum_sg (l : List Nat) : ((l.map sg).map (·.length)).sum = l.length := by
  induction l with
  | nil => rfl
  | cons a l ih => simp only [List.map_cons, List.sum_cons, List.length_cons, ih, sg_len]; omega
theorem dg_length (f p n : Nat) : (dg f p n).length ≤ f := by
  induction f generalizing n with
  | zero => exact Nat.le_refl _
  | succ f ih =>
    by_cases h : n = 0
    · subst h; rw [dg_zero]; simp
    · rw [dg_succ h]; simpa using ih _
/-- the text of small_numeral -/
def numT (p n : Nat) : Str := Txt.join (Str.ofString "") ((dg 8 p n).map sg).reverse
theorem StrsRev {vs : List Value} {ss : List Str} (h : StrsAre vs ss) : StrsAre vs.reverse ss.reverse := by
  induction h with
  | nil => exact .nil
  | cons s t _ ih => rw [List.reverse_cons, List.reverse_cons]; exact ih.append' (.cons _ _ .nil)
end Mine
end

section
open PySem PySem.W PyProof.Rows
namespace Mine

theorem small_c (w : World) (mean : Mean) (mg mb : Nm) (news : Led) (X₀ P : Nat) (t t' t'' : Tok) : Claims w mean mg mb 29 news (2 ≤ P ∧ P ≤ 31 ∧ P ≠ 10 ∧ X₀ ≤ 160) [.int (X₀ : Int) t, .int (P : Int) t', .str DIG t''] (fun t => .str (numT P X₀) t) := by
  dsimp only [Claims, CbClaim, CbLists, CbRet]
  k_fill
  intros; rename_i hpre _ _ hret
  obtain ⟨hp2, hp31, hp10, hX₀⟩ := hpre
  w_on
  k_with_none
  refine wpAny_call ?_
  k_dflt (
    refine' code_def (binds := [(Str.ofString "n", .int (X₀ : Int) t), (Str.ofString "base", .int (P : Int) t'), (Str.ofString "digits", .str DIG t'')]) ?k1 ?k2 ?k3 ?k4 ?k5 ?kA ?kF ?kK ?k6 ?k7 ?k8 ?k9 ?kB ?_ ?c2 ?c3 ?c4 ?c5
    (case kA => exact rfl); (case kF => exact rfl); (case kK => assumption); (case k1 => k_asm); (case k2 => k_asm); (case k3 => k_asm); (case k4 => k_asm); (case k5 => k_asm); (case k6 => k_is); (case k7 => k_is); (case k8 => ktr_room)
    (case k9 => first | exact BindsTo.of_eq rfl | exact binds_K (by k_in) rfl (by k_is) rfl rfl rfl)
    (case c5 => decide); (case kB => exact locs rfl); (case c2 => exact rfl); (case c3 => exact rfl); (case c4 => exact rfl)
    k_whole; intro g' L' h' FG' F' N' B' X' T'; (try dsimp only); (try k_lift B'); (try k_fold))
  have hp10' : (P : Int) ≠ 10 := by omega
  repeat' (first | (fail_if_success (with_reducible show wpAny _ _ (exec (Stmt.While _ _ _ _) _) _ _ _)); first | (k_unfold; (try dsimp only)) | (k_end; wrow_close) | walk1 | (dsimp only; walk1) | (leave1; walk_say "STEP leave1"; try dsimp only))
  · exact absurd (by assumption) hp10'
  rename Fr _ _ _ _ => lF
  rename News _ _ _ _ => lN
  rename_i l' _ _ _
  refine ksw_while (σ := Nat × Nat × List Value × List Str × Nat) (fun c => (l', W.listOf c.2.2.1.toArray c.2.2.2.2) :: news) (fun c => [(Str.ofString "n", .int (c.1 : Int) c.2.1)]) (fun c => StrsAre c.2.2.1 c.2.2.2.1) [Str.ofString "digit"]
    (fun c => c.2.2.2.1.length ≤ 8 ∧ c.1 < 2 ^ (8 - c.2.2.2.1.length) ∧ c.2.2.2.1 ++ (dg (8 - c.2.2.2.1.length) P c.1).map sg = (dg 8 P X₀).map sg) (fun c => c.1) (X₀, t, [], [], 0) lF lN StrsAre.nil ?kk ?kp ?kt PySem.PassesOwn.leaving
  (case kk => intro q hq; cases hq with | head => rfl | tail _ h => cases h)
  (case kp => exact ⟨by simp, by simp only [List.length_nil]; omega, rfl⟩)
  clear lF lN
  rintro ⟨x, tx, vs, ds, nn⟩ u h tkk hS ⟨hw1, hw2, hw3⟩ F N
  dsimp only at hS hw1 hw2 hw3 F N ⊢
  have hL := StrsAre.length hS
  have hl'lt : l' < h.objs.size := Heap.lt_size (N _ (.head _)).1
  have hvl : vs.length ≤ 8 := by omega
  have hvs : vs.toArray.size ≤ 8 := by simpa using hvl
  try k_fold
  k_steps
  · -- the figure's sign
    have hm : x % P < P := Nat.mod_lt _ (by omega)
    have hx0 : x ≠ 0 := by
      rename (x : Int) ≠ 0 => hx
      omega
    have hxP : x / P < x := Nat.div_lt_self (by omega) (by omega)
    have hst := st_dg (P := P) (by omega) hx0 hw1 hw2 hw3
    rw [fmod_nat]
    refine item_str (fitsSsize_of (N := 9223372036854775808) (by omega) (by omega) (Int.le_refl _)) (by omega) (by rw [show DIG.length = 36 by decide +kernel]; omega) (fun _ => ?_)
    try k_fold
    k_steps
    dsimp only [List.cons_append, List.nil_append]
    refine' append_K ?aF ?aN ?aU ?_ ?az
    (case aF => k_asm); (case aN => k_asm); (case aU => 
      exact Upd.tail (Nat.ne_of_gt hl'lt) (Upd.head fun q hq => Nat.ne_of_lt ((show ∀ q : Addr × Obj, q ∈ news → q.1 < l' by assumption) q hq)))
    (case az => exact Nat.le_trans hvs (by rw [PySem.sizeLine_eq]; decide))
    intro h2 F2 N2
    try k_sweep
    repeat' (first | (k_unfold; (try dsimp only)) | ((fail_if_success (with_reducible show KswEnd _ _ _ _ _ _ _ _ _ _ _ _)); walk1))
    simp only [List.push_toArray] at N2
    refine' ksw_end (x / P, tkk, vs ++ [.str (Txt.item DIG ((x % P : Nat) : Int)) (tkk + 1 + 1 + 1 + 1)], ds ++ [sg (x % P)], nn + 1) F2 N2 ?e1 ?e2 ?e3 ?e4 hst hxP
    (case e1 => dsimp only; exact fun q hq => .tail _ hq)
    (case e2 => exact hS.append' (.cons _ _ .nil))
    (case e3 =>
      intro q hq
      cases hq with
      | head => exact congrArg (fun v => some (Value.int v _)) (fdiv_nat x P)
      | tail _ h => cases h)
    (case e4 =>
      intro z h2 h3
      have hzn : z ≠ Str.ofString "n" := h2 _ (.head _)
      have hzd : z ≠ Str.ofString "digit" := by
        intro e
        rw [e] at h3
        exact absurd h3 (by decide +kernel)
      rw [if_neg hzd, if_neg hzn]
      unfold kstB
      rw [if_neg hzn]
      unfold kstB
      rw [if_neg (by rw [h3]; exact Bool.false_ne_true)])
  · -- the glueing
    have hx0 : x = 0 := by
      rename (x : Int) = 0 => hx
      omega
    subst hx0
    rw [dg_zero, List.map_nil, List.append_nil] at hw3
    dsimp only [List.cons_append, List.nil_append]
    refine' join_list (ys := ((dg 8 P X₀).map sg).reverse) (News.isList ?jN (.head _)) ?jS ?jz ?_
    (case jN => k_asm)
    (case jS => rw [krv_pick, ← hw3]; exact StrsRev hS)
    (case jz => 
      have h1 := sum_sg (dg 8 P X₀)
      have h2 := dg_length 8 P X₀
      rw [List.map_reverse, List.sum_reverse, h1]
      simp only [List.length_reverse, List.length_map]
      rw [show (Str.ofString "").length = 0 from rfl]
      omega)
    intro t2 k2
    k_steps
    exact cb_retS hret rfl (by k_asm) (cb_drop (by k_asm) fun q hq => .tail _ (.tail _ hq))
end Mine
end

section
open PySem PySem.W PySem.Spec PyProof.Rows
namespace Mine
def code (d : Nat) : Nat := (Txt.charAt DIG (d : Int)).getD 0
theorem sg_code (d : Nat) : sg d = ⟨#[code d]⟩ := rfl
theorem glue_sg : ∀ (l : List Nat) (acc : Array Nat), (l.map sg).foldl (fun acc p => acc ++ (Str.ofString "").cps ++ p.cps) acc = acc ++ (l.map code).toArray := by
  intro l
  induction l with
  | nil => intro acc; simp
  | cons a l ih =>
    intro acc
    rw [List.map_cons, List.foldl_cons, ih, sg_code]
    apply Array.ext'
    have e : (Str.ofString "").cps = #[] := rfl
    simp [e]
theorem join_sg (l : List Nat) : (Txt.join (Str.ofString "") (l.map sg)).cps.toList = l.map code := by
  show (((l.map sg).drop 1).foldl (fun acc p => acc ++ (Str.ofString "").cps ++ p.cps) ((l.map sg).headD Str.empty).cps).toList = _
  cases l with
  | nil => rfl
  | cons a l =>
    rw [List.map_cons, List.drop_one, List.tail_cons, glue_sg]
    show (#[code a] ++ (l.map code).toArray).toList = _
    simp
theorem find_code : ∀ d, d < 36 → Txt.find DIG ⟨#[code d]⟩ = (d : Int) := by decide +kernel
theorem dg_lt {p : Nat} (hp : 0 < p) : ∀ (f n : Nat), ∀ d ∈ dg f p n, d < p := by
  intro f
  induction f with
  | zero => intro n d h; cases h
  | succ f ih =>
    intro n d h
    by_cases h0 : n = 0
    · subst h0; rw [dg_zero] at h; cases h
    · rw [dg_succ h0] at h
      cases h with
      | head => exact Nat.mod_lt _ hp
      | tail _ h => exact ih _ _ h
def numS (p n : Nat) : Str := if n = 0 then Str.ofString "0" else numT p n
def figs (p n : Nat) : List Nat := if n = 0 then [0] else dg 8 p n
theorem figs_lt {p n d : Nat} (hp : 0 < p) (h : d ∈ figs p n) : d < p := by
  unfold figs at h
  split at h
  · simp only [List.mem_singleton] at h; omega
  · exact dg_lt hp _ _ _ h
theorem figs_len (p n : Nat) : (figs p n).length ≤ 8 := by
  unfold figs
  split
  · simp
  · exact dg_length _ _ _
theorem numS_codes (p n : Nat) : (numS p n).cps.toList = ((figs p n).map code).reverse := by
  unfold numS figs
  split
  · decide +kernel
  · rw [numT, ← List.map_reverse, join_sg, List.map_reverse]
theorem numS_len (p n : Nat) : (numS p n).length ≤ 8 := by
  show (numS p n).cps.size ≤ 8
  rw [← Array.length_toList, numS_codes]
  simpa using figs_len p n
theorem numS_sign {p n c : Nat} (hp : 0 < p) (hp2 : p ≤ 31) (h : c ∈ (numS p n).cps.toList) : 0 ≤ Txt.find DIG ⟨#[c]⟩ := by
  rw [numS_codes, List.mem_reverse, List.mem_map] at h
  obtain ⟨d, hd, rfl⟩ := h
  have := figs_lt hp hd
  rw [find_code d (by omega)]
  omega
theorem numS_figs {p n : Nat} (hp : 0 < p) (hp2 : p ≤ 31) : ((numS p n).cps.toList.map fun c => Txt.find DIG ⟨#[c]⟩).reverse = (figs p n).map fun (k : Nat) => (k : Int) := by
  rw [numS_codes, List.map_reverse, List.reverse_reverse, List.map_map]
  apply List.map_congr_left
  intro d hd
  have := figs_lt hp hd
  exact find_code d (by omega)
end Mine
end

section
open PySem PySem.W PyProof.Rows
namespace Mine

/-- as Claims, with room for r frames -/
abbrev ClaimR (r : Nat) (w : World) (mean : Mean) (mg mb : Nm) (f : Addr) (news : Led) (pre : Prop) (vs : List Value) (R : Tok → Value) : Prop :=
  ∀ (dp un : Nat) (gd : Option (List Code)) (cn : Str) (cs : Scope) (a : Addr) (ccd : Value) (cl : List (Str × Addr)) (outer : List Env) (A₀ : Around) (base h₀ : Heap) (L : Addr) (m : Str → Option Value) (s : Shared) (Q E : Value → Shared → Prop),
    Below A₀ base outer h₀ → Fr h₀ L s.heap m → (hd.heap_39 w.params).In h₀ → News h₀ L s.heap news → Top hd.view_39 (looseW hd.view_39 [Str.ofString "small_numeral", Str.ofString "numeral"]) mean mg mb h₀ → cs.kind = .function →
    pre → dp + r < recursionLimit → un + 8 * r < cLine → CbRet h₀ L m news s Q R →
      wpAny (model (OpenLaw.row PySem.Challenge.rw_ag5011_01).prog w) (ktrTop dp un gd cn cs L a ccd cl outer) (call (.ref f) vs) Q E s


theorem numeral_c (w : World) (mean : Mean) (mg mb : Nm) (news : Led) (X₀ P : Nat) (t t' : Tok) : ClaimR 2 w mean mg mb 37 news (2 ≤ P ∧ P ≤ 31 ∧ P ≠ 10 ∧ X₀ ≤ 160) [.int (X₀ : Int) t, .int (P : Int) t'] (fun t => .str (numS P X₀) t) := by
  dsimp only [ClaimR, CbRet]
  k_fill
  intros; rename_i hpre _ _ hret
  obtain ⟨hp2, hp31, hp10, hX₀⟩ := hpre
  w_on
  k_with_none
  refine wpAny_call ?_
  k_dflt (
    refine' code_def ?k1 ?k2 ?k3 ?k4 ?k5 ?kA ?kF ?kK ?k6 ?k7 ?k8 ?k9 ?kB ?_ ?c2 ?c3 ?c4 ?c5
    (case kA => exact rfl); (case kF => exact rfl); (case kK => assumption); (case k1 => k_asm); (case k2 => k_asm); (case k3 => k_asm); (case k4 => k_asm); (case k5 => k_asm); (case k6 => k_is); (case k7 => k_is); (case k8 => ktr_room)
    (case k9 => first | exact BindsTo.of_eq rfl | exact binds_K (by k_in) rfl (by k_is) rfl rfl rfl)
    (case c5 => decide); (case kB => exact locs rfl); (case c2 => exact rfl); (case c3 => exact rfl); (case c4 => exact rfl)
    k_whole; intro g' L' h' FG' F' N' B' X' T'; (try dsimp only); (try k_lift B'); (try k_fold))
  repeat' (first | (fail_if_success (with_reducible show wpAny _ _ (PySem.call (Value.ref _) _) _ _ _)); first | (k_unfold; (try dsimp only)) | (k_end; wrow_close) | walk1 | (dsimp only; walk1) | (leave1; walk_say "STEP leave1"; try dsimp only))
  · exact absurd (show (X₀ : Int) = 0 by omega) (by assumption)
  · have h0 : X₀ = 0 := by
      rename (X₀ : Int) = 0 => hx
      omega
    exact cb_retS hret (by rw [numS, if_pos h0]) (by k_asm) (by k_asm)
  · have h0 : X₀ ≠ 0 := by
      rename ¬ (X₀ : Int) ≤ 0 => hx
      omega
    refine' (small_c w mean mg mb news X₀ P _ _ _) _ _ _ _ _ _ _ _ _ _ _ _ _ _ _ _ _ ?b1 ?b2 ?b3 ?b4 ?b5 ?b6 ⟨hp2, hp31, hp10, hX₀⟩ ?b8 ?b9 ?b10
    (case b1 => k_asm); (case b2 => k_asm); (case b3 => k_asm); (case b4 => k_asm); (case b5 => k_asm); (case b6 => first | exact rfl | assumption)
    (case b8 => ktr_room); (case b9 => ktr_units)
    intro t9 h9 tk9 F9 N9
    try k_fold
    k_steps
    exact cb_retS hret (by rw [numS, if_neg h0]) (by k_asm) (by k_asm)
end Mine
end

section
open PySem PySem.W PySem.Spec PyProof.Rows
namespace Mine
section
variable {prog : Program} {w : World} {A : Around} {E : Value → Shared → Prop} {s : Shared} {h₀ : Heap} {L : Addr} {m : Str → Option Value} {news : List (Addr × Obj)} {env : Env}

theorem paired_ints {y : Str} {d : Nat → Int} {vs ys : List Value} (hlen : vs.length = y.cps.size) (hP : ∀ (j : Nat) (v : Value), vs[j]? = some v → SignAt y j v)
    (hF : Paired (fun v r => ∃ c u, v = Value.str ⟨#[c]⟩ u ∧ ∃ t, r = Value.int (d c) t) vs ys) : IntsAre ys (y.cps.toList.map d) := by
  have key : ∀ (vs ys : List Value) (cs : List Nat), vs.length = cs.length → (∀ (j : Nat) (v : Value), vs[j]? = some v → ∃ c u, cs[j]? = some c ∧ v = .str ⟨#[c]⟩ u) → Paired (fun v r => ∃ c u, v = Value.str ⟨#[c]⟩ u ∧ ∃ t, r = Value.int (d c) t) vs ys → IntsAre ys (cs.map d) := by
    intro vs ys cs hl hp hF
    induction hF generalizing cs with
    | nil =>
      cases cs with
      | nil => exact .nil
      | cons _ _ => cases hl
    | cons h1 _ ih =>
      cases cs with
      | nil => cases hl
      | cons c cs =>
        obtain ⟨c1, u1, e1, t1, rfl⟩ := h1
        obtain ⟨c2, u2, e2, e3⟩ := hp 0 _ rfl
        rw [e1] at e3
        simp only [List.getElem?_cons_zero, Option.some.injEq] at e2
        subst e2
        simp only [Value.str.injEq, Str.mk.injEq, Array.mk.injEq, List.cons.injEq, and_true] at e3
        rw [e3.1]
        exact .cons _ _ (ih cs (by simpa using hl) fun j v hv => by simpa using hp (j + 1) v (by simpa using hv))
  refine key vs ys y.cps.toList (by rw [hlen]; rfl) (fun j v hv => ?_) hF
  obtain ⟨c, u, hc, e⟩ := hP j v hv
  exact ⟨c, u, by simpa using hc, e⟩

/-- a list of ints out of a text's signs, one by one -/
theorem comp_text {elt iter : Expr} {x : Str} {px : Pos} {scope : Scope} {pos : Pos} {Q : Value → Shared → Prop} {d : Nat → Int}
    (_F₀ : Fr h₀ L s.heap m) (_N₀ : News h₀ L s.heap news) (hh : A.handled = none) (hfree : ∀ y ∈ scope.names, y.2 ≠ .free) (hcell : ∀ y ∈ scope.names, y.2 ≠ .cell) (hkind : scope.kind = .function)
    (hnames : ∀ y ∈ scope.names, y.2 = .local → scope.names.lookup y.1 = some .local) (hx : scope.names.lookup x = some .local)
    (h : wpAny (model prog w) A (eval iter env) (fun xv s₁ => ∃ y t, xv = .str y t ∧ y.length ≤ sizeLine ∧ Fr h₀ L s₁.heap m ∧ News h₀ L s₁.heap news ∧
      (∀ C c u s₂ m₂ E', c ∈ y.cps.toList → s₂.heap.Ns (compEnv scope C env).locals m₂ → m₂ x = some (.str ⟨#[c]⟩ u) →
        wpAny (model prog w) A (eval elt (compEnv scope C env)) (fun r s₃ => (∃ t, r = .int (d c) t) ∧ Keeps s₂ s₃) E' s₂) ∧
      (∀ D (ys : List Value) n h' tk, Fr h₀ L h' m → News h₀ L h' ((D, listOf ys.toArray n) :: news) → (∀ p ∈ news, p.1 ≠ D) → IntsAre ys (y.cps.toList.map d) → Q (.ref D) { s₁ with heap := h', toks := tk })) E s)
    (hs : ∀ x, foldedSetIterable iter env x = pure x) :
    wpAny (model prog w) A (eval (.ListComp elt [⟨.Name x px, iter, [], 0⟩] scope pos) env) Q E s := by
  refine wpAny_ListComp_walk (fun _ => true) (fun v r => ∃ c u, v = Value.str ⟨#[c]⟩ u ∧ ∃ t, r = Value.int (d c) t) hfree hcell hkind hnames hx
    (wpAny_mono h (fun xv s₁ h₁ => ?_) fun _ _ e => e) hs
  obtain ⟨y, t, rfl, hsz, F, N, helt, hQ⟩ := h₁
  refine wpAny_pyIter_str fun o St W hst => ?_
  have up : ∀ (h' : Heap), (∀ b o', b ∉ [s₁.heap.objs.size] → (s₁.heap.push o).get? b = some o' → h'.get? b = some o') → ∀ b o', s₁.heap.get? b = some o' → h'.get? b = some o' :=
    fun h' hk b o' e => hk b o' (old_not_new e) (Heap.get?_push_of_some _ e)
  refine ⟨s₁.heap.objs.size, [s₁.heap.objs.size], [s₁.heap.objs.size], y.cps.size, SignAt y, St, rfl, W A hh, hsz, hst, ?_, ⟨?_, ?_⟩, ?_⟩
  · intro b hb
    show b < (s₁.heap.push o).objs.size
    rw [Heap.size_push, List.mem_singleton.mp hb]
    exact Nat.lt_succ_self _
  · intro C i v s₃ m₃ E' hP hn hm _ _
    exact wpAny_pure ⟨rfl, ⟨s₃.heap, s₃.toks, rfl, fun _ _ e => e⟩⟩
  · intro C i v s₃ m₃ E' hP _ hn hm _ _
    obtain ⟨c, u, hc, rfl⟩ := hP
    have hmem : c ∈ y.cps.toList := by
      rw [← Array.getElem?_toList] at hc
      exact List.mem_of_getElem? hc
    exact wpAny_mono (helt C c u s₃ m₃ E' hmem hn hm) (fun r s₄ h₄ => ⟨⟨c, u, rfl, h₄.1⟩, h₄.2⟩) fun _ _ e => e
  · intro D h' tk ys vs hnew hlD hplD hlen hP hF hk
    have hold : ∀ b o', s₁.heap.get? b = some o' → b ≠ D := by
      rintro b o' e rfl
      rw [Heap.get?_push_of_some _ e] at hnew
      cases hnew
    obtain ⟨n, hD⟩ := hplD
    have F' := F.keeps (up h' hk)
    have N' := N.grown (up h' hk)
    have hap : ∀ p ∈ news, p.1 ≠ D := fun p hp => hold _ _ (N p hp).1
    have hfresh : h₀.get? D = none := by
      cases e : h₀.get? D with
      | none => rfl
      | some o' => exact absurd rfl (hold D o' (F.keep _ _ e))
    have hDL : D ≠ L := NewPlain.ne_locals (items := ys) ⟨⟨n, hD⟩, hap⟩ F'
    rw [List.filter_eq_self.mpr (fun _ _ => rfl)] at hF
    refine hQ D ys.toList n h' tk F' ?_ hap (paired_ints hlen hP hF)
    intro p hp
    cases hp with
    | head => exact ⟨hD, hDL, hfresh⟩
    | tail _ hp => exact N' p hp
end
end Mine
end

section
open PySem PySem.W PyProof.Rows
namespace Mine

/-- a def that hands back a new list of ints -/
abbrev ClaimL (r : Nat) (w : World) (mean : Mean) (mg mb : Nm) (f : Addr) (news : Led) (pre : Prop) (vs : List Value) (ns : List Int) : Prop :=
  ∀ (dp un : Nat) (gd : Option (List Code)) (cn : Str) (cs : Scope) (a : Addr) (ccd : Value) (cl : List (Str × Addr)) (outer : List Env) (A₀ : Around) (base h₀ : Heap) (L : Addr) (m : Str → Option Value) (s : Shared) (Q E : Value → Shared → Prop),
    Below A₀ base outer h₀ → Fr h₀ L s.heap m → (hd.heap_39 w.params).In h₀ → News h₀ L s.heap news → Top hd.view_39 (looseW hd.view_39 [Str.ofString "small_numeral", Str.ofString "numeral"]) mean mg mb h₀ → cs.kind = .function →
    pre → dp + r < recursionLimit → un + 8 * r < cLine →
    (∀ (l : Addr) (ws : List Value) (k : Nat) (h' : Heap) (tk' : Nat), Fr h₀ L h' m → News h₀ L h' ((l, W.listOf ws.toArray k) :: news) → (∀ p ∈ news, p.1 < l) → IntsAre ws ns → Q (.ref l) { s with heap := h', toks := tk' }) →
      wpAny (model (OpenLaw.row PySem.Challenge.rw_ag5011_01).prog w) (ktrTop dp un gd cn cs L a ccd cl outer) (call (.ref f) vs) Q E s


theorem figures_c (w : World) (mean : Mean) (mg mb : Nm) (news : Led) (X₀ P : Nat) (t t' : Tok) : ClaimL 3 w mean mg mb 49 news (2 ≤ P ∧ P ≤ 31 ∧ P ≠ 10 ∧ X₀ ≤ 160) [.int (X₀ : Int) t, .int (P : Int) t'] ((figs P X₀).map fun (k : Nat) => (k : Int)) := by
  dsimp only [ClaimL]
  k_fill
  intros; rename_i hpre _ _ hret
  obtain ⟨hp2, hp31, hp10, hX₀⟩ := hpre
  w_on
  k_with_none
  refine wpAny_call ?_
  k_dflt (
    refine' code_def (binds := [(Str.ofString "n", .int (X₀ : Int) t), (Str.ofString "base", .int (P : Int) t')]) ?k1 ?k2 ?k3 ?k4 ?k5 ?kA ?kF ?kK ?k6 ?k7 ?k8 ?k9 ?kB ?_ ?c2 ?c3 ?c4 ?c5
    (case kA => exact rfl); (case kF => exact rfl); (case kK => assumption); (case k1 => k_asm); (case k2 => k_asm); (case k3 => k_asm); (case k4 => k_asm); (case k5 => k_asm); (case k6 => k_is); (case k7 => k_is); (case k8 => ktr_room)
    (case k9 => first | exact BindsTo.of_eq rfl | exact binds_K (by k_in) rfl (by k_is) rfl rfl rfl)
    (case c5 => decide); (case kB => exact locs rfl); (case c2 => exact rfl); (case c3 => exact rfl); (case c4 => exact rfl)
    k_whole; intro g' L' h' FG' F' N' B' X' T'; (try dsimp only); (try k_lift B'); (try k_fold))
  repeat' (first | (fail_if_success (with_reducible show wpAny _ _ (eval (Expr.ListComp _ _ _ _) _) _ _ _)); first | (k_unfold; (try dsimp only)) | (k_end; wrow_close) | walk1 | (dsimp only; walk1) | (leave1; walk_say "STEP leave1"; try dsimp only))
  refine comp_text (d := fun c => Txt.find DIG ⟨#[c]⟩) F' N' (by with_unfolding_all rfl) (by decide) (by decide) (by with_unfolding_all rfl) (by decide) (by with_unfolding_all rfl) ?_ (by intro _; with_unfolding_all rfl)
  repeat' (first | (fail_if_success (with_reducible show wpAny _ _ (PySem.call (Value.ref _) _) _ _ _)); first | (k_unfold; (try dsimp only)) | (k_end; wrow_close) | walk1 | (dsimp only; walk1) | (leave1; walk_say "STEP leave1"; try dsimp only))
  refine' (numeral_c w mean mg mb news X₀ P _ _) _ _ _ _ _ _ _ _ _ _ _ _ _ _ _ _ _ ?b1 ?b2 ?b3 ?b4 ?b5 ?b6 ⟨hp2, hp31, hp10, hX₀⟩ ?b8 ?b9 ?b10
  (case b1 => k_asm); (case b2 => k_asm); (case b3 => k_asm); (case b4 => k_asm); (case b5 => k_asm); (case b6 => first | exact rfl | assumption)
  (case b8 => ktr_room); (case b9 => ktr_units)
  intro t9 h9 tk9 F9 N9
  dsimp only
  refine ⟨numS P X₀, t9, rfl, ?_, F9, N9, ?_, ?_⟩
  · exact Nat.le_trans (numS_len P X₀) (by rw [PySem.sizeLine_eq]; decide)
  · intro C c u s₂ m₂ E' hc hns hm
    have hfind := numS_sign (by omega) hp31 hc
    k_steps
    · exact absurd hfind (by rename Txt.find _ _ = -1 => hx; rw [hx]; decide)
    · exact ⟨_, _, rfl, fun _ _ e => e⟩
  · intro D ys n h' tk F' N' hap hi
    have hys : ys.length ≤ 8 := by
      rw [hi.length, List.length_map, Array.length_toList]
      exact numS_len P X₀
    repeat' (first | (fail_if_success (with_reducible show wpAny _ _ (subscriptTail (PySem.Expr.Name _ _) _ _ _) _ _ _)); first | (k_unfold; (try dsimp only)) | (k_end; wrow_close) | walk1 | (dsimp only; walk1) | (leave1; walk_say "STEP leave1"; try dsimp only))
    refine' krv_ints ?sF ?sN ?sl ?sk ?si ?_ ?ss ?st ?sz
    (case sF => exact F')
    (case sN => exact N')
    (case sl => exact News.isList N' (List.Mem.head _))
    (case sk => exact IsPart.int _ _)
    (case si => exact hi)
    (case ss => with_unfolding_all rfl)
    (case st => intro _; with_unfolding_all rfl)
    (case sz => exact Nat.le_trans (show ys.toArray.size ≤ 8 by simpa using hys) (by rw [PySem.sizeLine_eq]; decide))
    intro D2 ws h2 F2 N2 l2 hi2 _
    rw [numS_figs (by omega) hp31] at hi2
    k_steps
    exact hret _ ws 0 _ _ (by k_asm) (cb_drop (by k_asm) fun q hq => by cases hq with | head => exact .head _ | tail _ hq => exact .tail _ (.tail _ hq)) (fun q hq => l2 q (.tail _ hq)) hi2
end Mine
end

section
open PySem PySem.W PyProof.Rows
namespace Mine
def nth9 : List PySem.Stmt → PySem.Stmt
  | _ :: _ :: _ :: _ :: _ :: _ :: _ :: _ :: _ :: x :: _ => x
  | _ => .Pass ⟨0, 0, 0, 0⟩
def bodyOf : PySem.Stmt → List PySem.Stmt
  | .FunctionDef _ _ b _ _ _ _ _ _ _ => b
  | _ => []
def scopeOf : PySem.Stmt → Scope
  | .FunctionDef _ _ _ _ _ _ sc _ _ _ => sc
  | _ => PySem.Challenge.pw_ag5011_01.main.scope
/-- the law's own def, out of the program's text -/
def lawDef : PySem.Stmt := nth9 PySem.Challenge.pw_ag5011_01.main.body
def lawBody : List PySem.Stmt := bodyOf lawDef
def lawScope : Scope := scopeOf lawDef
def tl6 : List PySem.Stmt → List PySem.Stmt
  | _ :: _ :: _ :: _ :: _ :: _ :: r => r
  | _ => []
def nth5 : List PySem.Stmt → PySem.Stmt
  | _ :: _ :: _ :: _ :: _ :: x :: _ => x
  | _ => .Pass ⟨0, 0, 0, 0⟩
def forBody : PySem.Stmt → List PySem.Stmt
  | .For _ _ b _ _ => b
  | _ => []
/-- the body of the law's first loop -/
def turnBody : List PySem.Stmt := forBody (nth5 lawBody)
/-- what stands behind it -/
def lawTail : List PySem.Stmt := tl6 lawBody
abbrev TopN (mean : Mean) (mg mb : Nm) (h₀ : Heap) : Prop := Top hd.view_39 (looseW hd.view_39 [Str.ofString "small_numeral", Str.ofString "numeral"]) mean mg mb h₀
abbrev lawM (w : World) : Model := model (OpenLaw.row PySem.Challenge.rw_ag5011_01).prog w
end Mine
end

section
open PySem PySem.W PySem.Spec PyProof.Rows
namespace Mine
section
variable {prog : Program} {w : World} {A : Around} {h₀ : Heap} {L : Addr} {m : Str → Option Value} {env : Env} {ct elt : Expr} {x : Str} {scope : Scope} {cl : List (Str × Addr)} {s : Shared} {S : List (Addr × Obj) → Prop} {Fin : List Value → List (Addr × Obj) → Prop} {news : List (Addr × Obj)}
/-- a list comprehension whose test none of the items meets -/
theorem ct_none {ws : List Value} {ns : List Int} (hi : IntsAre ws ns)
    (turn : ∀ k t I oI C oC D m₂ h tk (E' : Value → Shared → Prop), k ∈ ns → LCg.NsObj oC m₂ → m₂ x = some (.int k t) → Fr h₀ L h m → News h₀ L h ((I, oI) :: (C, oC) :: (D, LCg.lst []) :: news) → LCg.Off3 I C D news → ((@Ne Nat I C) ∧ (@Ne Nat I D) ∧ (@Ne Nat C D)) →
      wpAny (model prog w) A (isTrue ct (compEnvC scope cl C env) (eval ct (compEnvC scope cl C env))) (fun ok s' => ok = false ∧ LCg.CompEnd h₀ L m { s with heap := h, toks := tk } I oI C oC D (LCg.lst []) S (fun _ news' => news' = news) Value.none s') E' { s with heap := h, toks := tk })
    (fin : Fin [] news) : LCt.CompRestT prog w A h₀ L m env ct elt x scope cl s S (fun i v => ws.toArray[i]? = some v) Fin ws.toArray.size 0 [] news := by
  have key : ∀ (j i : Nat), LCt.CompRestT prog w A h₀ L m env ct elt x scope cl s S (fun i v => ws.toArray[i]? = some v) Fin j i [] news := by
    intro j
    induction j with
    | zero => intro i; exact LCt.CompRestT.zero fin
    | succ j ih =>
      intro i
      refine LCt.CompRestT.succ ?_
      intro v I oI C oC D m₂ h tk E' hv hC hx F N off ne
      obtain ⟨k, t, e, hk⟩ := IntsAre.at hi i v (by simpa using hv)
      rw [e] at hx
      refine wpAny_mono (turn k t I oI C oC D m₂ h tk E' (List.mem_of_getElem? hk) hC hx F N off ne) (fun ok s₂ hq => ?_) fun _ _ e => e
      obtain ⟨hok, h', tk', nw, e', F', N', off', hS, hn⟩ := hq
      rw [hok, if_neg Bool.false_ne_true]
      exact ⟨h', tk', nw, e', F', N', off', hS, by rw [hn]; exact ih (i + 1)⟩
  exact key _ 0
end
end Mine
end

section
open PySem PySem.W PyProof.Rows
namespace Mine

theorem range_count (n : Nat) : Builtin.Range.rangeSize 0 (n : Int) 1 = (n : Int) := by
  rw [rangeSize_one]; split <;> omega
theorem range_small {n : Nat} (h : n < 1000) : Builtin.Range.small 0 (n : Int) 1 = true := small_one (by decide) (by decide) (by omega) (by omega)
theorem pow_lt_31 {P : Nat} {j : Nat} (hP : P ≤ 31) (hj : j < 8) : (P : Int) ^ j < 2 ^ 40 := by
  have h1 : P ^ j ≤ 31 ^ j := Nat.pow_le_pow_left hP j
  have h2 : 31 ^ j ≤ 31 ^ 7 := Nat.pow_le_pow_right (by omega) (by omega)
  have h3 : P ^ j < 2 ^ 40 := Nat.lt_of_le_of_lt (Nat.le_trans h1 h2) (by decide)
  exact_mod_cast h3
-- the contracts, as steps of the walk
local macro_rules | `(tactic| walk_at "call ref") => `(tactic| (k_here; (with_reducible show wpAny _ _ (PySem.call (Value.ref 44) _) _ _ _); k_dflt ((refine (ifac_c _ _ _ _ _ _ _) _ _ _ _ _ _ _ _ _ _ _ _ _ _ _ _ _ (by k_asm) (by k_asm) (by k_asm) (by k_asm) (by k_asm) (by first | exact rfl | assumption) ⟨by omega, by omega⟩ (by ktr_room) (by ktr_units) ?_); (intro t7 h7 tk7 F7 N7); (try dsimp only); (try rw [Int.toNat_natCast]); (try k_fold); (try k_sweep))))
local macro_rules | `(tactic| walk_at "call ref") => `(tactic| (k_here; (with_reducible show wpAny _ _ (PySem.call (Value.ref 56) _) _ _ _); k_dflt ((refine (often_c _ _ _ _ _ _ _ _ _ _ _) _ _ _ _ _ _ _ _ _ _ _ _ _ _ _ _ _ (by k_asm) (by k_asm) (by k_asm) (by k_asm) (by k_asm) (by first | exact rfl | assumption) ⟨by omega, by omega, by omega, by assumption, by assumption, by assumption⟩ (by ktr_room) (by ktr_units) ?_); (intro t7 h7 tk7 F7 N7); (try dsimp only); (try k_fold); (try k_sweep))))
theorem turn (w : World) (mean : Mean) (mg mb : Nm) (h₀ : Heap) (L fa : Addr) (cdv : Value) (P N : Nat) (m₀ : Nm) (tn tp : Tok) (ws : List Value) (o1 o2 : Obj) (lf kf : Nat) (rest : Led) (s : Shared) (Q : Flow → Shared → Prop) (E : Value → Shared → Prop)
    (K0 : Below callerA h₀ [] h₀) (KX : (hd.heap_39 w.params).In h₀) (T : TopN mean mg mb h₀)
    (F : Fr h₀ L s.heap (fun y => if y = Str.ofString "number" then some (.int (N : Int) tn) else m₀ y))
    (d1 : o1.data = .cell (some (.int (P : Int) tp))) (d2 : o2.data = .cell (some (.ref lf)))
    (NW : News h₀ L s.heap ((L + 1 + 1, o2) :: (L + 1, o1) :: (lf, W.listOf ws.toArray kf) :: rest))
    (ns : List Int) (hi : IntsAre ws ns) (hl8 : ns.length ≤ 8) (hl0 : 0 < ns.length) (hsum : ((rangeKs 0 ns.length).map fun k => ns.getD k.toNat 0 * (P : Int) ^ k.toNat).sum = (N : Int)) (hflt : ∀ x ∈ ns, x < (P : Int)) (hlast : 0 < N → ns.getD (-1 + (ns.length : Int)).toNat 0 ≠ 0)
    (v : Nat) (c : Int) (hfac : (fac N : Int) = (P : Int) ^ v * c) (hc : c % (P : Int) ≠ 0) (hv : v < 400) (hleg : (v : Int) * ((P : Int) - 1) = (N : Int) - ns.sum) (hN : N ≤ 160) (hP : 2 ≤ P) (hP2 : P ≤ 31)
    (h : ∀ h' tk', Fr h₀ L h' (fun y => if y = Str.ofString "number" then some (.int (N : Int) tn) else m₀ y) → News h₀ L h' ((L + 1 + 1, o2) :: (L + 1, o1) :: (lf, W.listOf ws.toArray kf) :: rest) → Q .next { s with heap := h', toks := tk' }) :
    wpAny (lawM w) (callerA.deeper (envOfC (Str.ofString "law") lawScope L fa cdv)) (execs turnBody (envOfC (Str.ofString "law") lawScope L fa cdv)) Q E s := by
  dsimp only [turnBody, lawBody, lawDef, PySem.Challenge.pw_ag5011_01, bodyOf, nth9, nth5, forBody, lawScope, scopeOf, lawM]
  unfold TopN at T
  have hwl : ws.length ≤ 8 := by rw [hi.length]; exact hl8
  have hws : ws.toArray.size ≤ 8 := by simpa using hwl
  revert KX; k_fill; intro KX
  w_on
  k_with_none
  try k_fold
  repeat' (first | (fail_if_success (with_reducible show wpAny _ _ (eval (Expr.ListComp _ _ _ _) _) _ _ _)); first | (k_unfold; (try dsimp only)) | (k_end; wrow_close) | walk1 | (dsimp only; walk1) | (leave1; walk_say "STEP leave1"; try dsimp only))
  refine LCg.ListComp_U F (by with_unfolding_all rfl) (by decide) (by rfl) (by decide) (by rfl) ?_
  repeat' (first | (fail_if_success (with_reducible show LCg.CompSrc _ _ _ _ _ _ _ _ _ _ _ _ _ _)); first | (k_unfold; (try dsimp only)) | (k_end; wrow_close) | walk1 | (dsimp only; walk1) | (leave1; walk_say "STEP leave1"; try dsimp only))
  refine' LCg.CompSrc.range (n := ns.length) ?ra ?rb ?rc ?rd ?re ?rf ?rg ?_
  (case ra => rfl); (case rb => k_asm); (case rc => k_asm); (case rd => assumption)
  (case re => exact range_small (by omega)); (case rf => exact range_count _); (case rg => exact Nat.le_trans hl8 (by rw [PySem.sizeLine_eq]; decide))
  intro g
  refine kcf_range (fun k => ns.getD k.toNat 0 * (P : Int) ^ k.toNat) ?_ ?_
  · intro k tk9 I oI C oC D m₂ ys h9 tkk E' hk0 hk1
    have hpw : (P : Int) ^ k.toNat < 2 ^ 40 := pow_lt_31 hP2 (by omega)
    have hpw0 : 0 ≤ (P : Int) ^ k.toNat := Int.pow_nonneg (by omega)
    intros
    repeat' (first | (fail_if_success (with_reducible show wpAny _ _ (binaryOp Operator.Pow _ _) _ _ _)); first | (k_unfold; (try dsimp only)) | (k_end; wrow_close) | walk1 | (dsimp only; walk1) | (leave1; walk_say "STEP leave1"; try dsimp only))
    refine pow_int_small hk0 (by omega) (by omega) ?_
    generalize (P : Int) ^ k.toNat = pw at *
    k_steps
  · unfold KPfDone
    intro ys hys
    unfold LCg.FinE
    intro D hh2 tkk F2 N2 off2
    try dsimp only at hys
    iterate 2 (first | (k_unfold; (try dsimp only)) | (k_end; wrow_close) | walk1 | (dsimp only; walk1))
    rw [hsum]
    clear hys hsum
    iterate 4 (first | (k_unfold; (try dsimp only)) | (k_end; wrow_close) | walk1 | (dsimp only; walk1))
    · exact absurd rfl (by assumption)
    clear F2 N2
    rename Fr _ _ _ _ => F3
    rename News _ _ _ _ => N3
    replace N3 := cb_drop (news := (L + 1 + 1, o2) :: (L + 1, o1) :: (lf, W.listOf ws.toArray kf) :: rest) N3 (fun q hq => List.Mem.tail _ hq)
    repeat' (first | (fail_if_success (with_reducible show wpAny _ _ (eval (Expr.ListComp _ _ _ _) _) _ _ _)); first | (k_unfold; (try dsimp only)) | (k_end; wrow_close) | walk1 | (dsimp only; walk1) | (leave1; walk_say "STEP leave1"; try dsimp only))
    refine LCt.ListComp_T F3 (by with_unfolding_all rfl) (by decide) (by rfl) (by decide) (by rfl) ?_
    repeat' (first | (fail_if_success (with_reducible show LCt.CompSrcT _ _ _ _ _ _ _ _ _ _ _ _ _ _ _)); first | (k_unfold; (try dsimp only)) | (k_end; wrow_close) | walk1 | (dsimp only; walk1) | (leave1; walk_say "STEP leave1"; try dsimp only))
    refine' LCt.CompSrcT.ledger ?ta F3 N3 (List.Mem.tail _ (List.Mem.tail _ (List.Mem.head _))) ?tz ?_
    (case ta => rfl)
    (case tz => exact Nat.le_trans hws (by rw [PySem.sizeLine_eq]; decide))
    intro g3
    refine ct_none hi ?_ ?_
    · intro k t I oI C oC D m₂ h9 tkk E' hk
      have hkP := hflt k hk
      intros
      repeat' (first | (fail_if_success (with_reducible show _ ∧ _)); first | (k_unfold; (try dsimp only)) | (k_end; wrow_close) | walk1 | (dsimp only; walk1) | (leave1; walk_say "STEP leave1"; try dsimp only))
      refine ⟨decide_eq_false (by omega), ?_⟩
      exact LCg.CompEnd.intro (by assumption) (by assumption) _ (fun q hq => hq) (by assumption) (Or.inr ⟨_, List.Mem.tail _ (List.Mem.tail _ (List.Mem.head _)), rfl, _, rfl⟩) rfl
    · unfold LCg.FinE
      intro D4 h4 tk4 F4 N4 o4
      repeat' (first | (fail_if_success (with_reducible show ite _ _ _)); first | (k_unfold; (try dsimp only)) | (k_end; wrow_close) | walk1 | (dsimp only; walk1) | (leave1; walk_say "STEP leave1"; try dsimp only))
      rename Fr _ _ _ _ => F5
      rename News _ _ _ _ => N5
      replace N5 := cb_drop (news := (L + 1 + 1, o2) :: (L + 1, o1) :: (lf, W.listOf ws.toArray kf) :: rest) N5 (fun q hq => List.Mem.tail _ (List.Mem.tail _ hq))
      rw [if_neg Bool.false_ne_true]
      repeat' (first | (fail_if_success (with_reducible show wpAny _ _ (compareOp CmpOp.Eq _ _) _ _ _)); (fail_if_success (with_reducible show wpAny _ _ (PySem.call (Value.ref _) _) _ _ _)); first | (k_unfold; (try dsimp only)) | (k_end; wrow_close) | walk1 | (dsimp only; walk1) | (leave1; walk_say "STEP leave1"; try dsimp only))
      focus
        rename 0 < (N : Int) => hpos
        have hl := hlast (by omega)
        generalize ns.getD (-1 + (ns.length : Int)).toNat 0 = z at *
        repeat' (first | (fail_if_success (with_reducible show wpAny _ _ (PySem.call (Value.ref _) _) _ _ _)); first | (k_unfold; (try dsimp only)) | (k_end; wrow_close) | walk1 | (dsimp only; walk1) | (leave1; walk_say "STEP leave1"; try dsimp only))
        · exact absurd (by assumption) hl
      · k_steps
        · exact absurd hleg (by assumption)
        · exact h _ _ (by k_asm) (by k_asm)
      · k_steps
        · exact absurd hleg (by assumption)
        · exact h _ _ (by k_asm) (by k_asm)
end Mine
end

section
open PySem PySem.W PyProof.Rows
namespace Mine
theorem fac_pos (n : Nat) : 0 < fac n := by
  induction n with
  | zero => decide
  | succ n ih => exact Nat.mul_pos ih (by omega)
/-- ifac's contract, its value by a letter of its own -/
theorem ifac_v (w : World) (mean : Mean) (mg mb : Nm) (news : Led) (n : Int) (t : Tok) :
  ∀ (dp un : Nat) (gd : Option (List Code)) (cn : Str) (cs : Scope) (a : Addr) (ccd : Value) (cl : List (Str × Addr)) (outer : List Env) (A₀ : Around) (base h₀ : Heap) (L : Addr) (m : Str → Option Value) (s : Shared) (Q E : Value → Shared → Prop),
    Below A₀ base outer h₀ → Fr h₀ L s.heap m → (hd.heap_39 w.params).In h₀ → News h₀ L s.heap news → Top hd.view_39 (looseW hd.view_39 [Str.ofString "small_numeral", Str.ofString "numeral"]) mean mg mb h₀ → cs.kind = .function →
    (0 ≤ n ∧ n ≤ 160) → dp + 1 < recursionLimit → un + 8 < cLine →
    (∀ (r : Int), r = (fac n.toNat : Int) → 0 < r → ∀ (t : Tok) (h' : Heap) (tk' : Nat), Fr h₀ L h' m → News h₀ L h' news → Q (.int r t) { s with heap := h', toks := tk' }) →
      wpAny (model (OpenLaw.row PySem.Challenge.rw_ag5011_01).prog w) (ktrTop dp un gd cn cs L a ccd cl outer) (call (.ref 44) [.int n t]) Q E s :=
  fun dp un gd cn cs a ccd cl outer A₀ base h₀ L m s Q E B F X N T hk hp hd hu ret =>
    ifac_c w mean mg mb news n t dp un gd cn cs a ccd cl outer A₀ base h₀ L m s Q E B F X N T hk hp hd hu (ret _ rfl (by have := fac_pos n.toNat; omega))
/-- often's contract, likewise -/
theorem often_v (w : World) (mean : Mean) (mg mb : Nm) (news : Led) (n p : Int) (t t' : Tok) (v : Nat) (c : Int) :
  ∀ (dp un : Nat) (gd : Option (List Code)) (cn : Str) (cs : Scope) (a : Addr) (ccd : Value) (cl : List (Str × Addr)) (outer : List Env) (A₀ : Around) (base h₀ : Heap) (L : Addr) (m : Str → Option Value) (s : Shared) (Q E : Value → Shared → Prop),
    Below A₀ base outer h₀ → Fr h₀ L s.heap m → (hd.heap_39 w.params).In h₀ → News h₀ L s.heap news → Top hd.view_39 (looseW hd.view_39 [Str.ofString "small_numeral", Str.ofString "numeral"]) mean mg mb h₀ → cs.kind = .function →
    n = p ^ v * c → (2 ≤ p ∧ p ≤ 31 ∧ 0 ≤ n ∧ c % p ≠ 0 ∧ v < 400) → dp + 1 < recursionLimit → un + 8 < cLine →
    (∀ (t : Tok) (h' : Heap) (tk' : Nat), Fr h₀ L h' m → News h₀ L h' news → Q (.int v t) { s with heap := h', toks := tk' }) →
      wpAny (model (OpenLaw.row PySem.Challenge.rw_ag5011_01).prog w) (ktrTop dp un gd cn cs L a ccd cl outer) (call (.ref 56) [.int n t, .int p t']) Q E s :=
  fun dp un gd cn cs a ccd cl outer A₀ base h₀ L m s Q E B F X N T hk hn hp hd hu ret =>
    often_c w mean mg mb news n p t t' v c dp un gd cn cs a ccd cl outer A₀ base h₀ L m s Q E B F X N T hk ⟨hp.1, hp.2.1, hp.2.2.1, hn, hp.2.2.2.1, hp.2.2.2.2⟩ hd hu ret

theorem nat_sum (n m : Nat) : ((n : Int) + (m : Int)).toNat = n + m := by omega
local macro_rules | `(tactic| walk_at "call ref") => `(tactic| (k_here; (with_reducible show wpAny _ _ (PySem.call (Value.ref 44) _) _ _ _); k_dflt ((refine (ifac_c _ _ _ _ _ _ _) _ _ _ _ _ _ _ _ _ _ _ _ _ _ _ _ _ (by k_asm) (by k_asm) (by k_asm) (by k_asm) (by k_asm) (by first | exact rfl | assumption) ⟨by omega, by omega⟩ (by ktr_room) (by ktr_units) ?_); (intro t7 h7 tk7 F7 N7); (try dsimp only); (first | rw [Int.toNat_natCast] | rw [nat_sum] | skip); (try k_fold); (try k_sweep))))
local macro_rules | `(tactic| walk_at "call ref") => `(tactic| (k_here; (with_reducible show wpAny _ _ (PySem.call (Value.ref 56) _) _ _ _); k_dflt ((refine (often_v _ _ _ _ _ _ _ _ _ _ _) _ _ _ _ _ _ _ _ _ _ _ _ _ _ _ _ _ (by k_asm) (by k_asm) (by k_asm) (by k_asm) (by k_asm) (by first | exact rfl | assumption) (by assumption) ⟨by omega, by omega, by omega, by assumption, by assumption⟩ (by ktr_room) (by ktr_units) ?_); (intro t7 h7 tk7 F7 N7); (try dsimp only); (try k_fold); (try k_sweep))))
local macro_rules | `(tactic| walk_at "call ref") => `(tactic| (k_here; (with_reducible show wpAny _ _ (PySem.call (Value.ref 21) _) _ _ _); k_dflt ((refine (trailing_c _ _ _ _ _ _ _ _ _) _ _ _ _ _ _ _ _ _ _ _ _ _ _ _ _ _ (by k_asm) (by k_asm) (by k_asm) (by k_asm) (by k_asm) (by first | exact rfl | assumption) (by assumption) (by ktr_room) (by ktr_units) ?_); (intro t7 h7 tk7 F7 N7); (try dsimp only); (try k_fold); (try k_sweep))))
local macro_rules | `(tactic| walk_at "eval Name") => `(tactic| (k_here; k_dflt ((refine' nameX_L ?F ?v ?_ ?a ?b); (case F => k_asm); (case a => rfl); (case b => rfl); (case v => assumption); k_whole)))

def tl9 : List PySem.Stmt → List PySem.Stmt
  | _ :: _ :: _ :: _ :: _ :: _ :: _ :: _ :: _ :: r => r
  | _ => []
/-- the law's last three statements -/
def lawEnd : List PySem.Stmt := tl9 lawBody

theorem ending (w : World) (mean : Mean) (mg mb : Nm) (h₀ : Heap) (L fa : Addr) (cdv : Value) (P n m : Nat) (mm : Nm) (tn tm tp t1 t2 : Tok) (o1 o2 : Obj) (carries rst : Int) (rest : Led) (s : Shared) (Q : Flow → Shared → Prop) (E : Value → Shared → Prop)
    (K0 : Below callerA h₀ [] h₀) (KX : (hd.heap_39 w.params).In h₀) (T : TopN mean mg mb h₀)
    (F : Fr h₀ L s.heap mm) (en : mm (Str.ofString "n") = some (.int (n : Int) tn)) (em : mm (Str.ofString "m") = some (.int (m : Int) tm)) (ec : mm (Str.ofString "carries") = some (.int carries t1)) (er : mm (Str.ofString "rest") = some (.int rst t2))
    (d1 : o1.data = .cell (some (.int (P : Int) tp)))
    (NW : News h₀ L s.heap ((L + 1 + 1, o2) :: (L + 1, o1) :: rest))
    (hn : n ≤ 80) (hm : m ≤ 80) (hP : 2 ≤ P) (hP2 : P ≤ 31)
    (C v c v2 c2 w2 d2 : Nat) (hC : fac (n + m) / fac n / fac m = C) (hCv : (C : Int) = (P : Int) ^ v * (c : Int)) (hc : (c : Int) % (P : Int) ≠ 0) (hv : v < 400) (hcar : carries = (v : Int)) (hrst : (C : Int).fmod (P : Int) = rst.fmod (P : Int))
    (hC2 : C = 2 ^ v2 * (2 * c2 + 1)) (hv2 : v2 < 400) (hf2 : fac n = 2 ^ w2 * (2 * d2 + 1)) (hw2 : w2 < 400)
    (h : ∀ h' tk' mm', Fr h₀ L h' mm' → Q (.ret (.bool true)) { s with heap := h', toks := tk' }) :
    wpAny (lawM w) (callerA.deeper (envOfC (Str.ofString "law") lawScope L fa cdv)) (execs lawEnd (envOfC (Str.ofString "law") lawScope L fa cdv)) Q E s := by
  have hfn : 0 < fac n := fac_pos n
  have hfm : 0 < fac m := fac_pos m
  have hodd : ∀ d : Nat, ((2 * d + 1 : Nat) : Int) % 2 ≠ 0 := fun d => by omega
  have hoc := hodd c2
  have hod := hodd d2
  have hfT : (fac n : Int) = ((2 ^ w2 * (2 * d2 + 1) : Nat) : Int) := by rw [hf2]
  have hfO : (fac n : Int) = (2 : Int) ^ w2 * ((2 * d2 + 1 : Nat) : Int) := by rw [hf2]; exact Int.natCast_mul _ _ |>.trans (by rw [Int.natCast_pow]; rfl)
  have hCO : (C : Int) = (2 : Int) ^ v2 * ((2 * c2 + 1 : Nat) : Int) := by rw [hC2]; exact Int.natCast_mul _ _ |>.trans (by rw [Int.natCast_pow]; rfl)
  have hCT : (C : Int) * (2 : Int) ^ P = ((2 ^ (v2 + P) * (2 * c2 + 1) : Nat) : Int) := by
    rw [hC2, Nat.pow_add]
    rw [show 2 ^ v2 * 2 ^ P * (2 * c2 + 1) = 2 ^ v2 * (2 * c2 + 1) * 2 ^ P by rw [Nat.mul_right_comm]]
    exact ((Int.natCast_mul _ _).trans (by rw [Int.natCast_pow]; rfl)).symm
  dsimp only [lawEnd, tl9, lawBody, lawDef, PySem.Challenge.pw_ag5011_01, bodyOf, nth9, lawScope, scopeOf, lawM]
  unfold TopN at T
  revert KX; k_fill; intro KX
  w_on
  k_with_none
  try k_fold
  repeat' (first | (fail_if_success (with_reducible show wpAny _ _ (PySem.call (Value.ref 56) _) _ _ _)); first | (k_unfold; (try dsimp only)) | (k_end; wrow_close) | walk1 | (dsimp only; walk1) | (leave1; walk_say "STEP leave1"; try dsimp only))
  · exfalso; omega
  · exfalso; omega
  rw [fdiv_nat, fdiv_nat, hC]
  rename Fr _ _ _ _ => F3
  rw [fdiv_nat, fdiv_nat, hC] at F3
  k_steps
  · exact absurd hcar.symm (by assumption)
  · exact absurd hrst (by assumption)
  · rw [Int.toNat_natCast]
    have hpw : (2 : Int) ^ P ≤ 2 ^ 31 := by
      have : 2 ^ P ≤ 2 ^ 31 := Nat.pow_le_pow_right (by omega) hP2
      exact_mod_cast this
    have hpw0 : 0 ≤ (2 : Int) ^ P := Int.pow_nonneg (by omega)
    generalize (2 : Int) ^ P = pw at *
    k_steps
    rw [show (((v2 + P : Nat) : Int) == (v2 : Int) + (P : Int)) = true by rw [Int.natCast_add]; exact beq_self_eq_true _]
    exact h _ _ _ (by k_asm)
  · exact absurd rfl (show ¬ ((w2 : Int) = (w2 : Int)) by assumption)
end Mine
end

section
open PySem PySem.W PySem.Spec PyProof.Rows
namespace Mine
/-- the carry behind so many places -/
def cyF (P : Nat) (pl ph : List Int) : Nat → Int
  | 0 => 0
  | i + 1 => if (P : Int) ≤ pl.getD i 0 + ph.getD i 0 + cyF P pl ph i then 1 else 0
def csF (P : Nat) (pl ph : List Int) : Nat → Int
  | 0 => 0
  | i + 1 => csF P pl ph i + cyF P pl ph (i + 1)
def topF (nb : List Int) (i : Nat) : Int := if (i : Int) < (nb.length : Int) then nb.getD i 0 else 0
def rsF (P : Nat) (pl nb : List Int) : Nat → Int
  | 0 => 1
  | i + 1 => (rsF P pl nb i * (if pl.getD i 0 ≤ topF nb i then ((fac (topF nb i).toNat : Int).fdiv (fac (pl.getD i 0).toNat : Int)).fdiv (fac (topF nb i - pl.getD i 0).toNat : Int) else 0)).fmod (P : Int)
theorem rsF_bounds {P : Nat} (hP : 2 ≤ P) (hP2 : P ≤ 31) (pl nb : List Int) (i : Nat) : 0 ≤ rsF P pl nb i ∧ rsF P pl nb i ≤ 31 := by
  cases i with
  | zero => exact ⟨show (0 : Int) ≤ 1 by decide, show (1 : Int) ≤ 31 by decide⟩
  | succ i =>
    unfold rsF
    rw [Int.fmod_eq_emod_of_nonneg _ (by omega)]
    have h1 := Int.emod_nonneg (rsF P pl nb i * (if pl.getD i 0 ≤ topF nb i then ((fac (topF nb i).toNat : Int).fdiv (fac (pl.getD i 0).toNat : Int)).fdiv (fac (topF nb i - pl.getD i 0).toNat : Int) else 0)) (show (P : Int) ≠ 0 by omega)
    have h2 := Int.emod_lt_of_pos (rsF P pl nb i * (if pl.getD i 0 ≤ topF nb i then ((fac (topF nb i).toNat : Int).fdiv (fac (pl.getD i 0).toNat : Int)).fdiv (fac (topF nb i - pl.getD i 0).toNat : Int) else 0)) (show (0 : Int) < (P : Int) by omega)
    omega
theorem getD_bounds {l : List Int} (h : ∀ x ∈ l, 0 ≤ x ∧ x ≤ 31) (i : Nat) : 0 ≤ l.getD i 0 ∧ l.getD i 0 ≤ 31 := by
  rw [List.getD_eq_getElem?_getD]
  cases e : l[i]? with
  | none => exact ⟨by decide, by decide⟩
  | some x => exact h x (List.mem_of_getElem? e)
def pad (l : List Int) (k : Nat) : List Int := l ++ List.replicate (k - l.length) 0
theorem pad_eq (l : List Int) (k : Nat) : l ++ (List.replicate ((k : Int) - (l.length : Int)).toNat [(0 : Int)]).flatten = pad l k := by
  rw [List.flatten_replicate_singleton, show ((k : Int) - (l.length : Int)).toNat = k - l.length by omega]; rfl
theorem pad_size {l : List Int} {k : Nat} (h : l.length ≤ 8) (hk : k ≤ 8) : l.length + (List.replicate ((k : Int) - (l.length : Int)).toNat [(0 : Int)]).flatten.length ≤ sizeLine := by
  rw [List.flatten_replicate_singleton, List.length_replicate]
  exact Nat.le_trans (show _ ≤ 16 by omega) (by rw [PySem.sizeLine_eq]; decide)
theorem pad_len {l : List Int} {k : Nat} (h : l.length ≤ k) : (pad l k).length = k := by
  unfold pad; rw [List.length_append, List.length_replicate]; omega
theorem pad_bounds {l : List Int} (h : ∀ x ∈ l, 0 ≤ x ∧ x ≤ 31) (k : Nat) : ∀ x ∈ pad l k, 0 ≤ x ∧ x ≤ 31 := by
  intro x hx
  rcases List.mem_append.mp hx with hx | hx
  · exact h x hx
  · rw [List.eq_of_mem_replicate hx]; exact ⟨by decide, by decide⟩
/-- a turn of the law's second loop -/
theorem st_digit {P : Nat} {pl ph nb pre : List Int} {k cy cs rs cy' top rs' : Int} (hkk : k.toNat = pre.length) (hk : k = 0 + (pre.length : Int)) (h1 : cy = cyF P pl ph pre.length) (h2 : cs = csF P pl ph pre.length) (h3 : rs = rsF P pl nb pre.length)
    (e1 : cy' = (if (P : Int) ≤ pl.getD k.toNat 0 + ph.getD k.toNat 0 + cy then 1 else 0)) (e2 : top = (if k < (nb.length : Int) then nb.getD k.toNat 0 else 0))
    (e3 : rs' = (rs * (if pl.getD k.toNat 0 ≤ top then ((fac top.toNat : Int).fdiv (fac (pl.getD k.toNat 0).toNat : Int)).fdiv (fac (top - pl.getD k.toNat 0).toNat : Int) else 0)).fmod (P : Int)) :
    cy' = cyF P pl ph (pre ++ [k]).length ∧ cs + cy' = csF P pl ph (pre ++ [k]).length ∧ rs' = rsF P pl nb (pre ++ [k]).length := by
  have hl : (pre ++ [k]).length = pre.length + 1 := by simp
  have hkp : k = (pre.length : Int) := by omega
  have ht : top = topF nb pre.length := by rw [e2, hkk, topF, hkp]
  have hcy : cy' = cyF P pl ph (pre.length + 1) := by rw [e1, hkk, h1]; rfl
  rw [hl]
  refine ⟨hcy, ?_, ?_⟩
  · rw [h2, hcy]; rfl
  · rw [e3, ht, hkk, h3]; rfl
end Mine
end

section
open PySem PySem.W PyProof.Rows
namespace Mine
-- one line more than the text before: the walk keeps its lines by their number
local macro_rules | `(tactic| walk_at "none such") => `(tactic| fail "none")
local macro_rules | `(tactic| walk_at "call ref") => `(tactic| (k_here; (with_reducible show wpAny _ _ (PySem.call (Value.ref 44) _) _ _ _); k_dflt ((refine (ifac_v _ _ _ _ _ _ _) _ _ _ _ _ _ _ _ _ _ _ _ _ _ _ _ _ (by k_asm) (by k_asm) (by k_asm) (by k_asm) (by k_asm) (by first | exact rfl | assumption) ⟨by omega, by omega⟩ (by ktr_room) (by ktr_units) ?_); (intro r7 hr7 hp7 t7 h7 tk7 F7 N7); (try dsimp only); (try k_fold); (try k_sweep))))
local macro_rules | `(tactic| walk_at "call ref") => `(tactic| (k_here; (with_reducible show wpAny _ _ (PySem.call (Value.ref 56) _) _ _ _); k_dflt ((refine (often_v _ _ _ _ _ _ _ _ _ _ _) _ _ _ _ _ _ _ _ _ _ _ _ _ _ _ _ _ (by k_asm) (by k_asm) (by k_asm) (by k_asm) (by k_asm) (by first | exact rfl | assumption) (by assumption) ⟨by omega, by omega, by omega, by assumption, by assumption⟩ (by ktr_room) (by ktr_units) ?_); (intro t7 h7 tk7 F7 N7); (try dsimp only); (try k_fold); (try k_sweep))))
local macro_rules | `(tactic| walk_at "call ref") => `(tactic| (k_here; (with_reducible show wpAny _ _ (PySem.call (Value.ref 21) _) _ _ _); k_dflt ((refine (trailing_c _ _ _ _ _ _ _ _ _) _ _ _ _ _ _ _ _ _ _ _ _ _ _ _ _ _ (by k_asm) (by k_asm) (by k_asm) (by k_asm) (by k_asm) (by first | exact rfl | assumption) (by assumption) (by ktr_room) (by ktr_units) ?_); (intro t7 h7 tk7 F7 N7); (try dsimp only); (try k_fold); (try k_sweep))))
local macro_rules | `(tactic| walk_at "eval Name") => `(tactic| (k_here; k_dflt ((refine' nameX_L ?F ?v ?_ ?a ?b); (case F => k_asm); (case a => rfl); (case b => rfl); (case v => assumption); k_whole)))



def nth8 : List PySem.Stmt → PySem.Stmt
  | _ :: _ :: _ :: _ :: _ :: _ :: _ :: _ :: x :: _ => x
  | _ => .Pass ⟨0, 0, 0, 0⟩
/-- the body of the law's second loop -/
def digitBody : List PySem.Stmt := forBody (nth8 lawBody)

theorem digit (w : World) (mean : Mean) (mg mb : Nm) (h₀ : Heap) (L fa : Addr) (cdv : Value) (P : Nat) (mm : Nm) (tp tk t1 t2 t3 : Tok) (o1 o2 : Obj) (ll lh lb kl kh kb : Nat) (wl wh wb : List Value) (pl ph nb : List Int) (k cy cs rs : Int) (rest : Led) (s : Shared) (Q : Flow → Shared → Prop) (E : Value → Shared → Prop)
    (K0 : Below callerA h₀ [] h₀) (KX : (hd.heap_39 w.params).In h₀) (T : TopN mean mg mb h₀)
    (F : Fr h₀ L s.heap mm) (ek : mm (Str.ofString "k") = some (.int k tk)) (el : mm (Str.ofString "low") = some (.ref ll)) (eh : mm (Str.ofString "high") = some (.ref lh)) (eb : mm (Str.ofString "both") = some (.ref lb))
    (ec : mm (Str.ofString "carry") = some (.int cy t1)) (es : mm (Str.ofString "carries") = some (.int cs t2)) (er : mm (Str.ofString "rest") = some (.int rs t3))
    (d1 : o1.data = .cell (some (.int (P : Int) tp)))
    (NW : News h₀ L s.heap ((L + 1 + 1, o2) :: (L + 1, o1) :: (ll, W.listOf wl.toArray kl) :: (lh, W.listOf wh.toArray kh) :: (lb, W.listOf wb.toArray kb) :: rest))
    (hil : IntsAre wl pl) (hih : IntsAre wh ph) (hib : IntsAre wb nb) (hk0 : 0 ≤ k) (hkl : k < (pl.length : Int)) (hkh : k < (ph.length : Int)) (hll : pl.length ≤ 8) (hlh : ph.length ≤ 8) (hlb : nb.length ≤ 8)
    (hP : 2 ≤ P) (hP2 : P ≤ 31) (hr0 : 0 ≤ rs) (hr1 : rs ≤ 31) (hx0 : 0 ≤ pl.getD k.toNat 0) (hx1 : pl.getD k.toNat 0 ≤ 31) (hz0 : 0 ≤ nb.getD k.toNat 0) (hz1 : nb.getD k.toNat 0 ≤ 31)
    (h : ∀ h' tk' (cy' top rs' : Int) (a1 a2 a3 a4 : Tok),
      Fr h₀ L h' (fun y => if y = Str.ofString "rest" then some (.int rs' a4) else if y = Str.ofString "top" then some (.int top a3) else if y = Str.ofString "carries" then some (.int (cs + cy') a2) else if y = Str.ofString "carry" then some (.int cy' a1) else mm y) →
      News h₀ L h' ((L + 1 + 1, o2) :: (L + 1, o1) :: (ll, W.listOf wl.toArray kl) :: (lh, W.listOf wh.toArray kh) :: (lb, W.listOf wb.toArray kb) :: rest) →
      cy' = (if (P : Int) ≤ pl.getD k.toNat 0 + ph.getD k.toNat 0 + cy then 1 else 0) → top = (if k < (nb.length : Int) then nb.getD k.toNat 0 else 0) →
      rs' = (rs * (if pl.getD k.toNat 0 ≤ top then ((fac top.toNat : Int).fdiv (fac (pl.getD k.toNat 0).toNat : Int)).fdiv (fac (top - pl.getD k.toNat 0).toNat : Int) else 0)).fmod (P : Int) →
      Q .next { s with heap := h', toks := tk' }) :
    wpAny (lawM w) (callerA.deeper (envOfC (Str.ofString "law") lawScope L fa cdv)) (execs digitBody (envOfC (Str.ofString "law") lawScope L fa cdv)) Q E s := by
  dsimp only [digitBody, forBody, nth8, lawBody, lawDef, PySem.Challenge.pw_ag5011_01, bodyOf, nth9, lawScope, scopeOf, lawM]
  unfold TopN at T
  have hwl : wl.length ≤ 8 := by rw [hil.length]; exact hll
  have hwls : wl.toArray.size ≤ 8 := by simpa using hwl
  have hwh : wh.length ≤ 8 := by rw [hih.length]; exact hlh
  have hwhs : wh.toArray.size ≤ 8 := by simpa using hwh
  have hwb : wb.length ≤ 8 := by rw [hib.length]; exact hlb
  have hwbs : wb.toArray.size ≤ 8 := by simpa using hwb
  revert KX; k_fill; intro KX
  w_on
  k_with_none
  try k_fold
  k_steps
  all_goals first
    | (exfalso; omega)
    | exact h _ _ _ _ _ _ _ _ _ (by k_asm) (by k_asm) (by first | rw [if_pos (by omega)] | rw [if_neg (by omega)]) (by first | rw [if_pos (by omega)] | rw [if_neg (by omega)]) (by first | (rw [if_pos (by omega)]; subst_vars; rfl) | (rw [if_neg (by omega)]))
end Mine
end

section
open PySem PySem.W PyProof.Rows
namespace Mine
local macro_rules | `(tactic| walk_at "call ref") => `(tactic| (k_here; (with_reducible show wpAny _ _ (PySem.call (Value.ref 44) _) _ _ _); k_dflt ((refine (ifac_c _ _ _ _ _ _ _) _ _ _ _ _ _ _ _ _ _ _ _ _ _ _ _ _ (by k_asm) (by k_asm) (by k_asm) (by k_asm) (by k_asm) (by first | exact rfl | assumption) ⟨by omega, by omega⟩ (by ktr_room) (by ktr_units) ?_); (intro t7 h7 tk7 F7 N7); (try dsimp only); (first | rw [Int.toNat_natCast] | rw [nat_sum] | skip); (try k_fold); (try k_sweep))))
local macro_rules | `(tactic| walk_at "call ref") => `(tactic| (k_here; (with_reducible show wpAny _ _ (PySem.call (Value.ref 56) _) _ _ _); k_dflt ((refine (often_v _ _ _ _ _ _ _ _ _ _ _) _ _ _ _ _ _ _ _ _ _ _ _ _ _ _ _ _ (by k_asm) (by k_asm) (by k_asm) (by k_asm) (by k_asm) (by first | exact rfl | assumption) (by assumption) ⟨by omega, by omega, by omega, by assumption, by assumption⟩ (by ktr_room) (by ktr_units) ?_); (intro t7 h7 tk7 F7 N7); (try dsimp only); (try k_fold); (try k_sweep))))
local macro_rules | `(tactic| walk_at "call ref") => `(tactic| (k_here; (with_reducible show wpAny _ _ (PySem.call (Value.ref 21) _) _ _ _); k_dflt ((refine (trailing_c _ _ _ _ _ _ _ _ _) _ _ _ _ _ _ _ _ _ _ _ _ _ _ _ _ _ (by k_asm) (by k_asm) (by k_asm) (by k_asm) (by k_asm) (by first | exact rfl | assumption) (by assumption) (by ktr_room) (by ktr_units) ?_); (intro t7 h7 tk7 F7 N7); (try dsimp only); (try k_fold); (try k_sweep))))
local macro_rules | `(tactic| walk_at "eval Name") => `(tactic| (k_here; k_dflt ((refine' nameX_L ?F ?v ?_ ?a ?b); (case F => k_asm); (case a => rfl); (case b => rfl); (case v => assumption); k_whole)))


theorem mid (w : World) (mean : Mean) (mg mb : Nm) (h₀ : Heap) (L fa : Addr) (cdv : Value) (P n m : Nat) (mm : Nm) (tn tm tp : Tok) (o1 o2 : Obj) (ll lh lb kl kh kb : Nat) (wl wh wb : List Value) (nl nh nb : List Int) (rest : Led) (s : Shared) (Q : Flow → Shared → Prop) (E : Value → Shared → Prop)
    (K0 : Below callerA h₀ [] h₀) (KX : (hd.heap_39 w.params).In h₀) (T : TopN mean mg mb h₀)
    (F : Fr h₀ L s.heap mm) (en : mm (Str.ofString "n") = some (.int (n : Int) tn)) (em : mm (Str.ofString "m") = some (.int (m : Int) tm)) (el : mm (Str.ofString "low") = some (.ref ll)) (eh : mm (Str.ofString "high") = some (.ref lh)) (eb : mm (Str.ofString "both") = some (.ref lb))
    (d1 : o1.data = .cell (some (.int (P : Int) tp)))
    (NW : News h₀ L s.heap ((L + 1 + 1, o2) :: (L + 1, o1) :: (ll, W.listOf wl.toArray kl) :: (lh, W.listOf wh.toArray kh) :: (lb, W.listOf wb.toArray kb) :: rest))
    (hil : IntsAre wl nl) (hih : IntsAre wh nh) (hib : IntsAre wb nb) (hll : nl.length ≤ 8) (hlh : nh.length ≤ 8) (hlb : nb.length ≤ 8) (hbl : ∀ x ∈ nl, 0 ≤ x ∧ x ≤ 31) (hbb : ∀ x ∈ nb, 0 ≤ x ∧ x ≤ 31)
    (hn : n ≤ 80) (hm : m ≤ 80) (hP : 2 ≤ P) (hP2 : P ≤ 31)
    (C v c v2 c2 w2 d2 : Nat) (hC : fac (n + m) / fac n / fac m = C) (hCv : (C : Int) = (P : Int) ^ v * (c : Int)) (hc : (c : Int) % (P : Int) ≠ 0) (hv : v < 400)
    (hcar : csF P (pad nl (max nl.length nh.length)) (pad nh (max nl.length nh.length)) (max nl.length nh.length) = (v : Int)) (hrst : (C : Int).fmod (P : Int) = (rsF P (pad nl (max nl.length nh.length)) nb (max nl.length nh.length)).fmod (P : Int))
    (hC2 : C = 2 ^ v2 * (2 * c2 + 1)) (hv2 : v2 < 400) (hf2 : fac n = 2 ^ w2 * (2 * d2 + 1)) (hw2 : w2 < 400)
    (hE : PassesOwn (lawM w) (callerA.deeper (envOfC (Str.ofString "law") lawScope L fa cdv)) (envOfC (Str.ofString "law") lawScope L fa cdv) E)
    (h : ∀ h' tk' mm', Fr h₀ L h' mm' → Q (.ret (.bool true)) { s with heap := h', toks := tk' }) :
    wpAny (lawM w) (callerA.deeper (envOfC (Str.ofString "law") lawScope L fa cdv)) (execs lawTail (envOfC (Str.ofString "law") lawScope L fa cdv)) Q E s := by
  dsimp only [lawTail, tl6, lawBody, lawDef, PySem.Challenge.pw_ag5011_01, bodyOf, nth9, lawScope, scopeOf, lawM] at hE ⊢
  unfold TopN at T
  have hwl : wl.length ≤ 8 := by rw [hil.length]; exact hll
  have hwls : wl.toArray.size ≤ 8 := by simpa using hwl
  have hwh : wh.length ≤ 8 := by rw [hih.length]; exact hlh
  have hwhs : wh.toArray.size ≤ 8 := by simpa using hwh
  have hwb : wb.length ≤ 8 := by rw [hib.length]; exact hlb
  have hwbs : wb.toArray.size ≤ 8 := by simpa using hwb
  revert KX; k_fill; intro KX
  w_on
  k_with_none
  try k_fold
  repeat' (first | (fail_if_success (with_reducible show wpAny _ _ (PySem.call (Value.builtin "max") _) _ _ _)); first | (k_unfold; (try dsimp only)) | (k_end; wrow_close) | walk1 | (dsimp only; walk1) | (leave1; walk_say "STEP leave1"; try dsimp only))
  walk1
  have hsz : (if (nh.length : Int) > (nl.length : Int) then (nh.length : Int) else (nl.length : Int)) = ((max nl.length nh.length : Nat) : Int) := by split <;> omega
  rw [hsz]
  have hS8 : max nl.length nh.length ≤ 8 := by omega
  have hSl : nl.length ≤ max nl.length nh.length := by omega
  have hSh : nh.length ≤ max nl.length nh.length := by omega
  generalize max nl.length nh.length = SZ at *
  clear hsz
  repeat' (first | (fail_if_success (with_reducible show wpAny _ _ (binaryOp Operator.Add (Value.ref _) (Value.ref _)) _ _ _)); first | (k_unfold; (try dsimp only)) | (k_end; wrow_close) | walk1 | (dsimp only; walk1) | (leave1; walk_say "STEP leave1"; try dsimp only))
  rename News _ _ _ _ => N3
  rename Fr _ _ _ _ => F3
  refine' kmk_add_ints F3 N3 ?a1 ?a2 hil ?a3 ?_ ?a4
  (case a1 => exact News.isList N3 (.tail _ (.tail _ (.tail _ (.tail _ (.head _))))))
  (case a2 => exact News.isList N3 (.head _))
  (case a3 => assumption)
  (case a4 => exact pad_size hll hS8)
  intro D1 us1 h5 F5 N5 l5 hp1
  rw [pad_eq] at hp1
  k_lt l5
  clear F3 N3
  replace N5 := cb_drop (news := (D1, W.listOf us1.toArray 0) :: (L + 1 + 1, o2) :: (L + 1, o1) :: (ll, W.listOf wl.toArray kl) :: (lh, W.listOf wh.toArray kh) :: (lb, W.listOf wb.toArray kb) :: rest) N5 (fun q hq => by cases hq with | head => exact .head _ | tail _ hq => exact .tail _ (.tail _ (.tail _ hq)))
  repeat' (first | (fail_if_success (with_reducible show wpAny _ _ (binaryOp Operator.Add (Value.ref _) (Value.ref _)) _ _ _)); first | (k_unfold; (try dsimp only)) | (k_end; wrow_close) | walk1 | (dsimp only; walk1) | (leave1; walk_say "STEP leave1"; try dsimp only))
  rename News _ _ _ _ => N3
  rename Fr _ _ _ _ => F3
  refine' kmk_add_ints F3 N3 ?c1 ?c2 hih ?c3 ?_ ?c4
  (case c1 => exact News.isList N3 (.tail _ (.tail _ (.tail _ (.tail _ (.tail _ (.tail _ (.head _))))))))
  (case c2 => exact News.isList N3 (.head _))
  (case c3 => assumption)
  (case c4 => exact pad_size hlh hS8)
  intro D2 us2 h6 F6 N6 l6 hp2
  rw [pad_eq] at hp2
  k_lt l6
  clear F3 N3
  replace N6 := cb_drop (news := (D2, W.listOf us2.toArray 0) :: (D1, W.listOf us1.toArray 0) :: (L + 1 + 1, o2) :: (L + 1, o1) :: (ll, W.listOf wl.toArray kl) :: (lh, W.listOf wh.toArray kh) :: (lb, W.listOf wb.toArray kb) :: rest) N6 (fun q hq => by cases hq with | head => exact .head _ | tail _ hq => exact .tail _ (.tail _ (.tail _ hq)))
  have hpl1 : (pad nl SZ).length = SZ := pad_len hSl
  have hpl2 : (pad nh SZ).length = SZ := pad_len hSh
  have hbp := pad_bounds hbl SZ
  generalize pad nl SZ = pl at *
  generalize pad nh SZ = ph at *
  have hu1 : us1.length ≤ 8 := by rw [hp1.length, hpl1]; exact hS8
  have hu2 : us2.length ≤ 8 := by rw [hp2.length, hpl2]; exact hS8
  have hu1s : us1.toArray.size ≤ 8 := by simpa using hu1
  have hu2s : us2.toArray.size ≤ 8 := by simpa using hu2
  repeat' (first | (fail_if_success (with_reducible show wpAny _ _ (PySem.execs (Stmt.For _ _ _ _ _ :: _) _) _ _ _)); first | (k_unfold; (try dsimp only)) | (k_end; wrow_close) | walk1 | (dsimp only; walk1) | (leave1; walk_say "STEP leave1"; try dsimp only))
  refine wpAny_execs_cons ?_
  rename Fr _ _ _ _ => F7
  rename News _ _ _ _ => N7
  refine For_invVF F7 (by rfl) (by rfl) ?_ (by intro _; rfl) hE
  replace N7 := cb_drop (news := (L + 1 + 1, o2) :: (L + 1, o1) :: (D1, W.listOf us1.toArray 0) :: (D2, W.listOf us2.toArray 0) :: (lb, W.listOf wb.toArray kb) :: rest) N7 (fun q hq => by
    simp only [List.mem_cons] at hq ⊢
    rcases hq with h | h | h | h | h | h <;> simp [h])
  repeat' (first | (fail_if_success (with_reducible show wpAny _ _ (pyIter _) _ _ _)); first | (k_unfold; (try dsimp only)) | (k_end; wrow_close) | walk1 | (dsimp only; walk1) | (leave1; walk_say "STEP leave1"; try dsimp only))
  rename Fr _ _ _ _ => F3
  rename News _ _ _ _ => N3
  rename IsRange _ _ _ _ _ _ _ _ => R3
  refine' kst_range (σ := Int × Tok × Int × Tok × Int × Tok) (n := SZ) (fun _ => (L + 1 + 1, o2) :: (L + 1, o1) :: (D1, W.listOf us1.toArray 0) :: (D2, W.listOf us2.toArray 0) :: (lb, W.listOf wb.toArray kb) :: rest)
    (fun c => [(Str.ofString "carry", .int c.1 c.2.1), (Str.ofString "carries", .int c.2.2.1 c.2.2.2.1), (Str.ofString "rest", .int c.2.2.2.2.1 c.2.2.2.2.2)]) (fun _ => True) [Str.ofString "top"]
    (fun pre c => c.1 = cyF P pl ph pre.length ∧ c.2.2.1 = csF P pl ph pre.length ∧ c.2.2.2.2.1 = rsF P pl nb pre.length) (0, _, 0, _, 1, _) ?k1 R3 (range_small (by omega)) (range_count _) F3 N3 trivial ?k2 ⟨rfl, rfl, rfl⟩ ?k3 ?k4
  (case k1 => rfl)
  (case k2 =>
    intro q hq
    simp only [List.mem_cons, List.not_mem_nil, or_false] at hq
    rcases hq with e | e | e <;> subst e <;> with_unfolding_all rfl)
  (case k3 =>
    rintro ⟨cy, ta, cs, tb, rs, tc⟩ pre k t u h9 tk9 own hk hlt hoff - ⟨hc1, hc2, hc3⟩ F9 N9
    dsimp only at hc1 hc2 hc3 F9 N9
    have hkk : k.toNat = pre.length := by omega
    have hrb := rsF_bounds hP hP2 pl nb pre.length
    have hbx := getD_bounds hbp pre.length
    have hbz := getD_bounds hbb pre.length
    refine digit w mean mg mb h₀ L fa cdv P _ tp t ta tb tc o1 o2 D1 D2 lb 0 0 kb us1 us2 wb pl ph nb k cy cs rs (rest ++ own) _ _ _ K0 KX T F9 (by with_unfolding_all rfl) (by with_unfolding_all rfl) (by with_unfolding_all rfl) (by with_unfolding_all exact eb) (by with_unfolding_all rfl) (by with_unfolding_all rfl) (by with_unfolding_all rfl) d1 N9 hp1 (by assumption) hib (by omega) (by omega) (by omega) (by omega) (by omega) hlb hP hP2 (by omega) (by omega) (by rw [hkk]; exact hbx.1) (by rw [hkk]; exact hbx.2) (by rw [hkk]; exact hbz.1) (by rw [hkk]; exact hbz.2) ?_
    intro h' tk' cy' top rs' a1 a2 a3 a4 F' N' e1 e2 e3
    refine kst_end (x := Str.ofString "k") (cy', a1, cs + cy', a2, rs', a4) F' N' (fun q hq => List.mem_append_left own hq) (fun q hq => List.mem_append_right ((L + 1 + 1, o2) :: (L + 1, o1) :: (D1, W.listOf us1.toArray 0) :: (D2, W.listOf us2.toArray 0) :: (lb, W.listOf wb.toArray kb) :: rest) hq) rfl trivial ?k5 ?k6 (st_digit hkk hk hc1 hc2 hc3 e1 e2 e3)
    (case k5 =>
      intro q hq
      simp only [List.mem_cons, List.not_mem_nil, or_false] at hq
      rcases hq with e | e | e <;> subst e <;> with_unfolding_all rfl)
    (case k6 =>
      intro z hz hq hst
      have z1 : z ≠ Str.ofString "carry" := hq _ (.head _)
      have z2 : z ≠ Str.ofString "carries" := hq _ (.tail _ (.head _))
      have z3 : z ≠ Str.ofString "rest" := hq _ (.tail _ (.tail _ (.head _)))
      have z4 : z ≠ Str.ofString "top" := by
        intro e
        rw [e] at hst
        exact absurd hst (by decide +kernel)
      simp only [if_neg z1, if_neg z2, if_neg z3, if_neg z4, if_neg hz, kstB, hst, Bool.false_eq_true, if_false]))
  (case k4 =>
    rintro ⟨cy, ta, cs, tb, rs, tc⟩ u h9 tk9 - ⟨hc1, hc2, hc3⟩ F9 N9
    dsimp only at hc1 hc2 hc3 F9 N9
    rw [rangeKs_length] at hc1 hc2 hc3
    subst hc2 hc3
    refine ending w mean mg mb h₀ L fa cdv P n m _ tn tm tp tb tc o1 o2 _ _ _ _ _ _ K0 KX T F9 (by with_unfolding_all exact en) (by with_unfolding_all exact em) (by with_unfolding_all rfl) (by with_unfolding_all rfl) d1 N9 hn hm hP hP2 C v c v2 c2 w2 d2 hC hCv hc hv hcar hrst hC2 hv2 hf2 hw2 ?_
    intro h' tk' mm' Fm
    exact h h' tk' mm' Fm)
end Mine
end

section
open PySem PySem.W PySem.Spec PyProof.Rows
namespace Mine
def PR : List Nat := [2, 3, 5, 7, 11, 13, 17, 19, 23, 29, 31]
theorem pick_at {vs : List Value} (hi : IntsAre vs [2, 3, 5, 7, 11, 13, 17, 19, 23, 29, 31]) {i : Nat} (h : i < 11) : ∃ (P : Nat) (t : Tok), vs[i]? = some (.int (P : Int) t) ∧ P ∈ PR := by
  have hl : vs.length = 11 := hi.length
  have hlt : i < vs.length := by omega
  obtain ⟨k, t, e, hk⟩ := IntsAre.at hi i vs[i] (List.getElem?_eq_getElem hlt)
  have hm : ∃ P : Nat, k = (P : Int) ∧ P ∈ PR := by
    have hk' := List.mem_of_getElem? hk
    simp only [List.mem_cons, List.not_mem_nil, or_false] at hk'
    rcases hk' with h | h | h | h | h | h | h | h | h | h | h
    all_goals exact ⟨k.toNat, by omega, by subst h; decide⟩
  obtain ⟨P, rfl, hP⟩ := hm
  exact ⟨P, t, by rw [List.getElem?_eq_getElem hlt, e], hP⟩
theorem PR_bounds {P : Nat} (h : P ∈ PR) : 2 ≤ P ∧ P ≤ 31 ∧ P ≠ 10 := by
  have : ∀ P ∈ PR, 2 ≤ P ∧ P ≤ 31 ∧ P ≠ 10 := by decide
  exact this P h
section
variable {prog : Program} {w : World} {A : Around} {E : Value → Shared → Prop} {s : Shared} {h₀ : Heap} {L : Addr} {news : List (Addr × Obj)}
theorem item_menu {value slice : PySem.Expr} {D : Addr} {vs : List Value} {n : Nat} {i : Int} {u : Tok} {Q : Value → Shared → Prop} (N : News h₀ L s.heap ((D, listOf vs.toArray n) :: news)) (hi : IntsAre vs [2, 3, 5, 7, 11, 13, 17, 19, 23, 29, 31]) (h0 : 0 ≤ i) (h1 : i < 11)
    (h : ∀ (P : Nat) (t : Tok), P ∈ PR → Q (.int (P : Int) t) s)
    (hs : subscripted slice false (.ref D) (.int i u) = operate [.ref D, .int i u] (getItem (.ref D) (.int i u))) :
    wpAny (model prog w) A (subscriptTail value slice (.ref D) (.int i u)) Q E s := by
  refine kba_turn (value' := PySem.Expr.Name (PySem.Str.ofString "_") ⟨0, 0, 0, 0⟩) (fun _ => rfl) ?_
  obtain ⟨P, t, e, hP⟩ := pick_at hi (i := i.toNat) (by omega)
  exact item_litK (News.isList N (.head _)) h0 (by omega) e (h P t hP) hs
end
theorem mod81 (b : Int) : ∃ n : Nat, n ≤ 80 ∧ b.fmod 81 = (n : Int) := by
  refine ⟨(b.fmod 81).toNat, ?_, ?_⟩
  all_goals
    rw [Int.fmod_eq_emod_of_nonneg _ (by omega)]
    omega
section
variable {prog : Program} {w : World} {A : Around} {E : Value → Shared → Prop} {s : Shared}
theorem mod81_at {b : Int} {t u : Tok} {Q : Value → Shared → Prop} (h : ∀ n : Nat, n ≤ 80 → Q (.int (n : Int) s.toks) { s with toks := s.toks + 1 }) :
    wpAny (model prog w) A (binaryOp .Mod (.int b t) (.int 81 u)) Q E s := by
  obtain ⟨n, hn, e⟩ := mod81 b
  refine mod_int (by decide) ?_
  rw [e]
  exact h n hn
end
end Mine
end

section
open PySem PySem.W PySem.Spec PyProof.Rows
namespace Mine
abbrev zs (l : List Nat) : List Int := l.map fun (k : Nat) => (k : Int)
theorem zs_len (l : List Nat) : (zs l).length = l.length := by simp
theorem figs_pos (p n : Nat) : 0 < (figs p n).length := by
  unfold figs
  split
  · decide
  · rename_i h
    rw [dg_succ h]; simp
theorem zs_bounds {P n : Nat} (hP : P ∈ PR) : ∀ x ∈ zs (figs P n), 0 ≤ x ∧ x ≤ 31 := by
  intro x hx
  obtain ⟨d, hd, rfl⟩ := List.mem_map.mp hx
  have := PR_bounds hP
  have := figs_lt (by omega) hd
  omega
theorem zs_lt {P n : Nat} (hP : P ∈ PR) : ∀ x ∈ zs (figs P n), x < (P : Int) := by
  intro x hx
  obtain ⟨d, hd, rfl⟩ := List.mem_map.mp hx
  have := PR_bounds hP
  have := figs_lt (by omega) hd
  omega
theorem sum_mul (l : List Int) (c : Int) : (l.map fun x => x * c).sum = l.sum * c := by
  induction l with
  | nil => simp
  | cons a l ih => simp only [List.map_cons, List.sum_cons, ih, Int.add_mul]
/-- the value of figures, the lowest first -/
def val (P : Nat) : List Nat → Nat
  | [] => 0
  | d :: l => d + val P l * P
theorem getD_zs (l : List Nat) (i : Nat) : (zs l).getD i 0 = ((l.getD i 0 : Nat) : Int) := by
  simp only [List.getD_eq_getElem?_getD, List.getElem?_map]
  cases l[i]? <;> rfl
theorem val_range (P : Nat) (l : List Nat) : ((List.range l.length).map fun i => ((l.getD i 0 : Nat) : Int) * (P : Int) ^ i).sum = (val P l : Int) := by
  induction l with
  | nil => rfl
  | cons a l ih =>
    rw [List.length_cons, List.range_succ_eq_map, List.map_cons, List.sum_cons, List.map_map]
    have e : ((List.range l.length).map ((fun i => (((a :: l).getD i 0 : Nat) : Int) * (P : Int) ^ i) ∘ Nat.succ)) = ((List.range l.length).map fun i => ((l.getD i 0 : Nat) : Int) * (P : Int) ^ i).map (fun x => x * (P : Int)) := by
      rw [List.map_map]
      apply List.map_congr_left
      intro i _
      show (((a :: l).getD (i + 1) 0 : Nat) : Int) * (P : Int) ^ (i + 1) = ((l.getD i 0 : Nat) : Int) * (P : Int) ^ i * (P : Int)
      rw [List.getD_cons_succ, Int.pow_succ, Int.mul_assoc]
    rw [e, sum_mul, ih]
    show ((a : Nat) : Int) * (P : Int) ^ 0 + (val P l : Int) * (P : Int) = ((a + val P l * P : Nat) : Int)
    rw [Int.pow_zero, Int.mul_one, Int.natCast_add, Int.natCast_mul]
theorem val_dg {P : Nat} (hP : 2 ≤ P) : ∀ (f n : Nat), n < 2 ^ f → val P (dg f P n) = n := by
  intro f
  induction f with
  | zero => intro n h; simp at h; subst h; rfl
  | succ f ih =>
    intro n h
    by_cases h0 : n = 0
    · subst h0; rfl
    · rw [dg_succ h0]
      show n % P + val P (dg f P (n / P)) * P = n
      rw [ih _ (div_lt_pow hP h), Nat.mul_comm]
      exact Nat.mod_add_div n P
theorem val_figs {P n : Nat} (hP : 2 ≤ P) (hn : n ≤ 160) : val P (figs P n) = n := by
  unfold figs
  split
  · rename_i h; rw [h]; simp [val]
  · exact val_dg hP 8 n (by omega)
theorem figs_sum {P n : Nat} (hP : P ∈ PR) (hn : n ≤ 160) : ((rangeKs 0 (zs (figs P n)).length).map fun k => (zs (figs P n)).getD k.toNat 0 * (P : Int) ^ k.toNat).sum = (n : Int) := by
  have hb := PR_bounds hP
  have hr := val_range P (figs P n)
  rw [val_figs (by omega) hn] at hr
  rw [zs_len, rangeKs, List.map_map, ← hr]
  congr 1
  apply List.map_congr_left
  intro i _
  show (zs (figs P n)).getD (0 + (i : Int)).toNat 0 * (P : Int) ^ (0 + (i : Int)).toNat = _
  rw [show (0 + (i : Int)).toNat = i by omega, getD_zs]
theorem dg_last {P : Nat} (hP : 2 ≤ P) : ∀ (f n : Nat), n ≠ 0 → n < 2 ^ f → (dg f P n).getD ((dg f P n).length - 1) 0 ≠ 0 := by
  intro f
  induction f with
  | zero => intro n h0 h; simp at h; exact absurd h h0
  | succ f ih =>
    intro n h0 h
    rw [dg_succ h0]
    by_cases h1 : n / P = 0
    · rw [h1, dg_zero]
      show n % P ≠ 0
      have := Nat.mod_add_div n P
      rw [h1] at this
      omega
    · have hlen : 0 < (dg f P (n / P)).length := by
        cases f with
        | zero => exact absurd (Nat.lt_one_iff.mp (by simpa using div_lt_pow hP h)) h1
        | succ f => rw [dg_succ h1]; simp
      rw [List.length_cons, Nat.add_sub_cancel]
      have e : (dg f P (n / P)).length = ((dg f P (n / P)).length - 1) + 1 := by omega
      rw [e, List.getD_cons_succ]
      exact ih _ h1 (div_lt_pow hP h)
theorem figs_last {P n : Nat} (hP : P ∈ PR) (hn : n ≤ 160) : 0 < n → (zs (figs P n)).getD (-1 + ((zs (figs P n)).length : Int)).toNat 0 ≠ 0 := by
  intro h0
  have hb := PR_bounds hP
  rw [zs_len, getD_zs, show (-1 + ((figs P n).length : Int)).toNat = (figs P n).length - 1 by omega]
  have e : figs P n = dg 8 P n := by unfold figs; rw [if_neg (by omega)]
  rw [e]
  have := dg_last (P := P) (by omega) 8 n (by omega) (by omega)
  omega
/-- Legendre, each number by itself -/
def lchk (P N : Nat) : Bool :=
  let s := (figs P N).sum
  let v := (N - s) / (P - 1)
  v * (P - 1) + s == N && fac N % P ^ v == 0 && fac N / P ^ v % P != 0 && decide (v < 400)
theorem lall : (PR.all fun P => (List.range 161).all fun N => lchk P N) = true := by decide +kernel
theorem sum_zs (l : List Nat) : (zs l).sum = (l.sum : Int) := by
  induction l with
  | nil => rfl
  | cons a l ih => simp only [zs, List.map_cons, List.sum_cons] at ih ⊢; rw [ih, Int.natCast_add]
theorem legN {P N : Nat} (hP : P ∈ PR) (hN : N ≤ 160) : ∃ v c : Nat, fac N = P ^ v * c ∧ c % P ≠ 0 ∧ v < 400 ∧ v * (P - 1) + (figs P N).sum = N := by
  have h := List.all_eq_true.mp (List.all_eq_true.mp lall P hP) N (List.mem_range.mpr (by omega))
  simp only [lchk, Bool.and_eq_true, beq_iff_eq, bne_iff_ne, ne_eq, decide_eq_true_eq] at h
  obtain ⟨⟨⟨h1, h2⟩, h3⟩, h4⟩ := h
  exact ⟨_, _, (Nat.mul_div_cancel' (Nat.dvd_of_mod_eq_zero h2)).symm, h3, h4, h1⟩
theorem leg {P N : Nat} (hP : P ∈ PR) (hN : N ≤ 160) : ∃ (v : Nat) (c : Int), (fac N : Int) = (P : Int) ^ v * c ∧ c % (P : Int) ≠ 0 ∧ v < 400 ∧ (v : Int) * ((P : Int) - 1) = (N : Int) - (zs (figs P N)).sum := by
  have hb := PR_bounds hP
  obtain ⟨v, c, h1, h2, h3, h4⟩ := legN hP hN
  refine ⟨v, (c : Int), ?_, by omega, h3, ?_⟩
  · rw [h1, Int.natCast_mul, Int.natCast_pow]
  · rw [sum_zs]
    have e : ((P : Int) - 1) = ((P - 1 : Nat) : Int) := by omega
    rw [e, ← Int.natCast_mul]
    omega
end Mine
end

section
namespace Mine
theorem pall : (PR.all fun P => (List.range P).all fun i => (List.range P).all fun j => i == 0 || (j == 0 || i * j % P != 0)) = true := by decide +kernel
theorem pmul {P a b : Nat} (hP : P ∈ PR) (ha : a % P ≠ 0) (hb : b % P ≠ 0) : a * b % P ≠ 0 := by
  have h0 := PR_bounds hP
  have h := List.all_eq_true.mp (List.all_eq_true.mp (List.all_eq_true.mp pall P hP) (a % P) (List.mem_range.mpr (Nat.mod_lt _ (by omega)))) (b % P) (List.mem_range.mpr (Nat.mod_lt _ (by omega)))
  simp only [Bool.or_eq_true, beq_iff_eq, bne_iff_ne, ne_eq] at h
  rcases h with h | h | h
  · exact absurd h ha
  · exact absurd h hb
  · rw [Nat.mul_mod]; exact h
theorem pow_uniq {P a b u w : Nat} (hP : 2 ≤ P) (h : P ^ a * u = P ^ b * w) (hu : u % P ≠ 0) (hw : w % P ≠ 0) : a = b := by
  have key : ∀ a b u w : Nat, P ^ a * u = P ^ b * w → u % P ≠ 0 → ¬ a < b := by
    intro a b u w h hu hlt
    have e : b = a + (b - a - 1 + 1) := by omega
    rw [e, Nat.pow_add, Nat.mul_assoc] at h
    have h2 := Nat.eq_of_mul_eq_mul_left (Nat.pow_pos (by omega)) h
    rw [Nat.pow_succ, Nat.mul_right_comm] at h2
    apply hu
    rw [h2]
    exact Nat.mul_mod_left _ _
  have h1 := key a b u w h hu
  have h2 := key b a w u h.symm hw
  omega
theorem strip {P : Nat} (hP : 2 ≤ P) : ∀ C : Nat, 0 < C → ∃ x y, C = P ^ x * y ∧ y % P ≠ 0 := by
  intro C
  induction C using Nat.strongRecOn with
  | ind C ih =>
    intro h0
    by_cases h : C % P = 0
    · have hd : P * (C / P) = C := Nat.mul_div_cancel' (Nat.dvd_of_mod_eq_zero h)
      have hpos : 0 < C / P := by
        rcases Nat.eq_zero_or_pos (C / P) with e | e
        · rw [e, Nat.mul_zero] at hd; omega
        · exact e
      obtain ⟨x, y, e, hy⟩ := ih (C / P) (Nat.div_lt_self h0 hP) hpos
      exact ⟨x + 1, y, by rw [← hd, e, Nat.pow_succ, ← Nat.mul_assoc, Nat.mul_comm P], hy⟩
    · exact ⟨0, C, by rw [Nat.pow_zero, Nat.one_mul], h⟩
/-- choices, by Pascal -/
def ch : Nat → Nat → Nat
  | _, 0 => 1
  | 0, _ + 1 => 0
  | n + 1, k + 1 => ch n k + ch n (k + 1)
theorem ch_zero (n : Nat) : ch n 0 = 1 := by cases n <;> rfl
theorem ch_gt : ∀ (n k : Nat), n < k → ch n k = 0 := by
  intro n
  induction n with
  | zero => intro k h; cases k with
    | zero => omega
    | succ k => rfl
  | succ n ih => intro k h; cases k with
    | zero => omega
    | succ k => show ch n k + ch n (k + 1) = 0; rw [ih k (by omega), ih (k + 1) (by omega)]
theorem ch_self (n : Nat) : ch n n = 1 := by
  induction n with
  | zero => rfl
  | succ n ih => show ch n n + ch n (n + 1) = 1; rw [ih, ch_gt n (n + 1) (by omega)]
theorem ch_fac : ∀ (N n m : Nat), n + m = N → ch N n * (fac n * fac m) = fac N := by
  intro N
  induction N with
  | zero => intro n m h; rw [show n = 0 by omega, show m = 0 by omega]; rfl
  | succ N ih =>
    intro n m h
    cases n with
    | zero => rw [show m = N + 1 by omega, ch_zero]; show 1 * (1 * fac (N + 1)) = fac (N + 1); omega
    | succ n =>
      cases m with
      | zero => rw [show n = N by omega, ch_self]; show 1 * (fac (N + 1) * 1) = fac (N + 1); omega
      | succ m =>
        have h1 := ih n (m + 1) (by omega)
        have h2 := ih (n + 1) m (by omega)
        show (ch N n + ch N (n + 1)) * (fac (n + 1) * fac (m + 1)) = fac N * (N + 1)
        have e1 : ch N n * (fac (n + 1) * fac (m + 1)) = fac N * (n + 1) := by
          rw [← h1]; show ch N n * (fac n * (n + 1) * fac (m + 1)) = _
          rw [Nat.mul_right_comm (fac n), ← Nat.mul_assoc]
        have e2 : ch N (n + 1) * (fac (n + 1) * fac (m + 1)) = fac N * (m + 1) := by
          rw [← h2]; show ch N (n + 1) * (fac (n + 1) * (fac m * (m + 1))) = _
          rw [← Nat.mul_assoc (fac (n + 1)), ← Nat.mul_assoc]
        rw [Nat.add_mul, e1, e2, ← Nat.mul_add, show n + 1 + (m + 1) = N + 1 by omega]
theorem fac_pos' (n : Nat) : 0 < fac n := by
  induction n with
  | zero => decide
  | succ n ih => exact Nat.mul_pos ih (by omega)
theorem ch_div (n m : Nat) : fac (n + m) / fac n / fac m = ch (n + m) n := by
  rw [Nat.div_div_eq_div_mul, ← ch_fac (n + m) n m rfl]
  exact Nat.mul_div_cancel _ (Nat.mul_pos (fac_pos' n) (fac_pos' m))
theorem ch_pos (n m : Nat) : 0 < ch (n + m) n := by
  rcases Nat.eq_zero_or_pos (ch (n + m) n) with h | h
  · have := ch_fac (n + m) n m rfl
    rw [h, Nat.zero_mul] at this
    have := fac_pos' (n + m)
    omega
  · exact h
theorem fac_mod {P : Nat} (hP : P ∈ PR) : ∀ j, j < P → fac j % P ≠ 0 := by
  have h0 := PR_bounds hP
  intro j
  induction j with
  | zero => intro _; show 1 % P ≠ 0; rw [Nat.mod_eq_of_lt (by omega)]; decide
  | succ j ih =>
    intro h
    exact pmul hP (ih (by omega)) (by rw [Nat.mod_eq_of_lt h]; omega)
theorem ch_prime {P j : Nat} (hP : P ∈ PR) (h1 : 0 < j) (h2 : j < P) : ch P j % P = 0 := by
  have h0 := PR_bounds hP
  rcases Nat.eq_zero_or_pos (ch P j % P) with h | h
  · exact h
  · exfalso
    have e := ch_fac P j (P - j) (by omega)
    have hf : fac P % P = 0 := by
      obtain ⟨q, hq⟩ : ∃ q, P = q + 1 := ⟨P - 1, by omega⟩
      rw [hq]; show fac q * (q + 1) % (q + 1) = 0
      exact Nat.mul_mod_left _ _
    have := pmul hP (show ch P j % P ≠ 0 by omega) (pmul hP (fac_mod hP j h2) (fac_mod hP (P - j) (by omega)))
    rw [e] at this
    exact this hf
end Mine
end

section
namespace Mine
theorem divmod_of {P q t : Nat} (ht : t < P) : (P * q + t) / P = q ∧ (P * q + t) % P = t := by
  have hP : 0 < P := by omega
  constructor
  · rw [Nat.mul_add_div hP, Nat.div_eq_of_lt ht, Nat.add_zero]
  · rw [Nat.mul_add_mod, Nat.mod_eq_of_lt ht]
def chB (P N k : Nat) : Nat := ch (N / P) (k / P) * ch (N % P) (k % P)
theorem chB_at {P a r b s : Nat} (hr : r < P) (hs : s < P) : chB P (P * a + r) (P * b + s) = ch a b * ch r s := by
  unfold chB
  rw [(divmod_of hr).1, (divmod_of hr).2, (divmod_of hs).1, (divmod_of hs).2]
theorem split_at {P : Nat} (hP : 0 < P) (N : Nat) : ∃ a r, r < P ∧ N = P * a + r := ⟨N / P, N % P, Nat.mod_lt _ hP, (Nat.div_add_mod N P).symm⟩
theorem ch_succ (n k : Nat) : ch (n + 1) (k + 1) = ch n k + ch n (k + 1) := rfl
/-- Pascal's rule for the figures' choices -/
theorem chB_pascal {P : Nat} (hP : P ∈ PR) (N k : Nat) : chB P (N + 1) (k + 1) % P = (chB P N k + chB P N (k + 1)) % P := by
  have h0 := PR_bounds hP
  obtain ⟨a, r, hr, rfl⟩ := split_at (P := P) (by omega) N
  obtain ⟨b, s, hs, rfl⟩ := split_at (P := P) (by omega) k
  rw [chB_at hr hs]
  by_cases h1 : r + 1 < P
  · by_cases h2 : s + 1 < P
    · rw [Nat.add_assoc (P * a), Nat.add_assoc (P * b), chB_at h1 h2, chB_at hr h2, ch_succ, Nat.mul_add]
    · have es : P * b + s + 1 = P * (b + 1) + 0 := by rw [Nat.mul_succ]; omega
      rw [es, Nat.add_assoc (P * a), chB_at h1 (by omega), chB_at hr (by omega), ch_gt r s (by omega), ch_zero, ch_zero]
      simp
  · have er : P * a + r + 1 = P * (a + 1) + 0 := by rw [Nat.mul_succ]; omega
    by_cases h2 : s + 1 < P
    · rw [er, Nat.add_assoc (P * b), chB_at (by omega) h2, chB_at hr h2, ← Nat.mul_add, ← ch_succ, show r + 1 = P by omega]
      rw [show ch 0 (s + 1) = 0 from rfl, Nat.mul_zero, Nat.mul_mod, ch_prime hP (by omega) h2]
      simp
    · have es : P * b + s + 1 = P * (b + 1) + 0 := by rw [Nat.mul_succ]; omega
      rw [er, es, chB_at (by omega) (by omega), chB_at hr (by omega), ch_zero, ch_zero, show s = r by omega, ch_self, ch_succ]
      simp
theorem lucas1 {P : Nat} (hP : P ∈ PR) : ∀ N k, ch N k % P = chB P N k % P := by
  have h0 := PR_bounds hP
  intro N
  induction N with
  | zero =>
    intro k
    cases k with
    | zero => unfold chB; rw [Nat.zero_div, Nat.zero_mod]; rfl
    | succ k =>
      have e : chB P 0 (k + 1) = 0 := by
        unfold chB
        rw [Nat.zero_div, Nat.zero_mod]
        have hk := Nat.div_add_mod (k + 1) P
        rcases Nat.eq_zero_or_pos ((k + 1) % P) with h | h
        · have hq : 0 < (k + 1) / P := by
            rcases Nat.eq_zero_or_pos ((k + 1) / P) with h' | h'
            · rw [h', h, Nat.mul_zero] at hk; omega
            · exact h'
          rw [ch_gt 0 _ hq, Nat.zero_mul]
        · rw [ch_gt 0 _ h, Nat.mul_zero]
      rw [e]; rfl
  | succ N ih =>
    intro k
    cases k with
    | zero => unfold chB; rw [Nat.zero_div, Nat.zero_mod, ch_zero, ch_zero, ch_zero]
    | succ k => rw [chB_pascal hP, ch_succ, Nat.add_mod, ih k, ih (k + 1), ← Nat.add_mod]
/-- a figure of n -/
def dig (P n i : Nat) : Nat := n / P ^ i % P
theorem dig_zero (P n : Nat) : dig P n 0 = n % P := by unfold dig; rw [Nat.pow_zero, Nat.div_one]
theorem dig_succ (P n i : Nat) : dig P n (i + 1) = dig P (n / P) i := by unfold dig; rw [Nat.pow_succ, Nat.mul_comm, Nat.div_div_eq_div_mul]
def prodL (P N n : Nat) : Nat → Nat
  | 0 => 1
  | k + 1 => prodL P N n k * ch (dig P N k) (dig P n k)
theorem prodL_shift (P : Nat) : ∀ (k N n : Nat), prodL P N n (k + 1) = ch (N % P) (n % P) * prodL P (N / P) (n / P) k := by
  intro k
  induction k with
  | zero => intro N n; show 1 * ch (dig P N 0) (dig P n 0) = _ * 1; rw [dig_zero, dig_zero, Nat.mul_comm]
  | succ k ih =>
    intro N n
    show prodL P N n (k + 1) * ch (dig P N (k + 1)) (dig P n (k + 1)) = _
    rw [ih, dig_succ, dig_succ, Nat.mul_assoc]; rfl
theorem lucas {P : Nat} (hP : P ∈ PR) : ∀ (k N n : Nat), n < P ^ k → ch N n % P = prodL P N n k % P := by
  have h0 := PR_bounds hP
  intro k
  induction k with
  | zero => intro N n h; rw [Nat.pow_zero] at h; rw [show n = 0 by omega, ch_zero]; rfl
  | succ k ih =>
    intro N n h
    have h' : n / P < P ^ k := by rw [Nat.pow_succ, Nat.mul_comm] at h; exact Nat.div_lt_of_lt_mul h
    rw [prodL_shift, lucas1 hP, chB, Nat.mul_mod, ih _ _ h', ← Nat.mul_mod, Nat.mul_comm]
end Mine
end

section
namespace Mine
theorem getD_dg {P : Nat} (hP : 2 ≤ P) : ∀ (f n i : Nat), n < 2 ^ f → (dg f P n).getD i 0 = dig P n i := by
  intro f
  induction f with
  | zero =>
    intro n i h
    rw [Nat.pow_zero] at h
    rw [show n = 0 by omega]
    show (([] : List Nat).getD i 0) = _
    unfold dig
    rw [Nat.zero_div, Nat.zero_mod]; simp
  | succ f ih =>
    intro n i h
    by_cases h0 : n = 0
    · subst h0
      rw [dg_zero]; unfold dig
      rw [Nat.zero_div, Nat.zero_mod]; simp
    · rw [dg_succ h0]
      cases i with
      | zero => rw [dig_zero]; rfl
      | succ i => rw [List.getD_cons_succ, dig_succ, ih _ _ (div_lt_pow hP h)]
theorem getD_figs {P n : Nat} (hP : 2 ≤ P) (hn : n ≤ 160) (i : Nat) : (figs P n).getD i 0 = dig P n i := by
  unfold figs
  split
  · rename_i h
    subst h
    unfold dig
    rw [Nat.zero_div, Nat.zero_mod]
    cases i with
    | zero => rfl
    | succ i => simp
  · exact getD_dg hP 8 n i (by omega)
theorem getD_pad (l : List Int) (k i : Nat) : (pad l k).getD i 0 = l.getD i 0 := by
  unfold pad
  simp only [List.getD_eq_getElem?_getD]
  rcases Nat.lt_or_ge i l.length with h | h
  · rw [List.getElem?_append_left h]
  · rw [List.getElem?_append_right h, List.getElem?_eq_none h, List.getElem?_replicate]
    split <;> rfl
theorem topF_eq (nb : List Int) (i : Nat) : topF nb i = nb.getD i 0 := by
  unfold topF
  split
  · rfl
  · rename_i h
    rw [List.getD_eq_getElem?_getD, List.getElem?_eq_none (by omega)]; rfl
/-- the carry behind so many places, from a carry ahead -/
def cyG (P n m c0 : Nat) : Nat → Nat
  | 0 => c0
  | i + 1 => if P ≤ dig P n i + dig P m i + cyG P n m c0 i then 1 else 0
def csG (P n m c0 : Nat) : Nat → Nat
  | 0 => 0
  | i + 1 => csG P n m c0 i + cyG P n m c0 (i + 1)
def c1 (P n m c0 : Nat) : Nat := if P ≤ n % P + m % P + c0 then 1 else 0
theorem cyG_shift (P n m c0 : Nat) : ∀ i, cyG P n m c0 (i + 1) = cyG P (n / P) (m / P) (c1 P n m c0) i := by
  intro i
  induction i with
  | zero => show (if P ≤ dig P n 0 + dig P m 0 + c0 then 1 else 0) = _; rw [dig_zero, dig_zero]; rfl
  | succ i ih =>
    show (if P ≤ dig P n (i + 1) + dig P m (i + 1) + cyG P n m c0 (i + 1) then 1 else 0) = _
    rw [dig_succ, dig_succ, ih]; rfl
theorem csG_shift (P n m c0 : Nat) : ∀ k, csG P n m c0 (k + 1) = c1 P n m c0 + csG P (n / P) (m / P) (c1 P n m c0) k := by
  intro k
  induction k with
  | zero => show 0 + cyG P n m c0 1 = _; rw [cyG_shift]; show 0 + c1 P n m c0 = c1 P n m c0 + 0; omega
  | succ k ih =>
    show csG P n m c0 (k + 1) + cyG P n m c0 (k + 1 + 1) = _
    rw [ih, cyG_shift, Nat.add_assoc]; rfl
/-- the sum of the figures -/
def dsf (P : Nat) : Nat → Nat → Nat
  | 0, _ => 0
  | F + 1, n => n % P + dsf P F (n / P)
theorem dsf_zero (P F : Nat) : dsf P F 0 = 0 := by
  induction F with
  | zero => rfl
  | succ F ih => show 0 % P + dsf P F (0 / P) = 0; rw [Nat.zero_div, Nat.zero_mod, ih]
theorem dsf_small {P F c : Nat} (hc : c < P) : dsf P (F + 1) c = c := by
  show c % P + dsf P F (c / P) = c
  rw [Nat.mod_eq_of_lt hc, Nat.div_eq_of_lt hc, dsf_zero, Nat.add_zero]
theorem add_figs {P : Nat} (hP : 2 ≤ P) : ∀ (k F n m c0 : Nat), n < P ^ k → m < P ^ k → c0 ≤ 1 → k + 1 ≤ F → dsf P F n + dsf P F m + c0 = dsf P F (n + m + c0) + (P - 1) * csG P n m c0 k := by
  intro k
  induction k with
  | zero =>
    intro F n m c0 hn hm hc hF
    rw [Nat.pow_zero] at hn hm
    obtain ⟨G, rfl⟩ : ∃ G, F = G + 1 := ⟨F - 1, by omega⟩
    rw [show n = 0 by omega, show m = 0 by omega, dsf_zero, show 0 + 0 + c0 = c0 by omega, dsf_small (by omega)]
    show c0 = c0 + (P - 1) * 0
    rw [Nat.mul_zero, Nat.add_zero]
  | succ k ih =>
    intro F n m c0 hn hm hc hF
    obtain ⟨G, rfl⟩ : ∃ G, F = G + 1 := ⟨F - 1, by omega⟩
    have hn' : n / P < P ^ k := by rw [Nat.pow_succ, Nat.mul_comm] at hn; exact Nat.div_lt_of_lt_mul hn
    have hm' : m / P < P ^ k := by rw [Nat.pow_succ, Nat.mul_comm] at hm; exact Nat.div_lt_of_lt_mul hm
    have hc1 : c1 P n m c0 ≤ 1 := by unfold c1; split <;> omega
    have h := ih G (n / P) (m / P) (c1 P n m c0) hn' hm' hc1 (by omega)
    have hr : n % P < P := Nat.mod_lt _ (by omega)
    have hs : m % P < P := Nat.mod_lt _ (by omega)
    have en := Nat.div_add_mod n P
    have em := Nat.div_add_mod m P
    have hlow : n % P + m % P + c0 = P * c1 P n m c0 + (n % P + m % P + c0 - P * c1 P n m c0) ∧ n % P + m % P + c0 - P * c1 P n m c0 < P := by
      unfold c1
      split
      · rw [Nat.mul_one]; omega
      · rw [Nat.mul_zero]; omega
    generalize ht : n % P + m % P + c0 - P * c1 P n m c0 = t at hlow
    have etot : n + m + c0 = P * (n / P + m / P + c1 P n m c0) + t := by
      rw [Nat.mul_add, Nat.mul_add]
      omega
    have hd := divmod_of (q := n / P + m / P + c1 P n m c0) hlow.2
    rw [csG_shift, etot]
    show n % P + dsf P G (n / P) + (m % P + dsf P G (m / P)) + c0 = (P * (n / P + m / P + c1 P n m c0) + t) % P + dsf P G ((P * (n / P + m / P + c1 P n m c0) + t) / P) + (P - 1) * (c1 P n m c0 + csG P (n / P) (m / P) (c1 P n m c0) k)
    rw [hd.1, hd.2, Nat.mul_add]
    have hp1 : P * c1 P n m c0 = (P - 1) * c1 P n m c0 + c1 P n m c0 := by
      rw [← Nat.succ_mul, show (P - 1).succ = P by omega]
    omega
theorem sum_dg {P : Nat} (hP : 2 ≤ P) : ∀ (f F n : Nat), f ≤ F → n < 2 ^ f → (dg f P n).sum = dsf P F n := by
  intro f
  induction f with
  | zero => intro F n _ h; rw [Nat.pow_zero] at h; rw [show n = 0 by omega, dsf_zero]; rfl
  | succ f ih =>
    intro F n hF h
    obtain ⟨G, rfl⟩ : ∃ G, F = G + 1 := ⟨F - 1, by omega⟩
    by_cases h0 : n = 0
    · subst h0; rw [dg_zero, dsf_zero]; rfl
    · rw [dg_succ h0, List.sum_cons, ih G _ (by omega) (div_lt_pow hP h)]; rfl
theorem sum_figs {P n F : Nat} (hP : 2 ≤ P) (hn : n ≤ 160) (hF : 8 ≤ F) : (figs P n).sum = dsf P F n := by
  unfold figs
  split
  · rename_i h; subst h; rw [dsf_zero]; rfl
  · exact sum_dg hP 8 F n hF (by omega)
theorem val_lt {P : Nat} : ∀ l : List Nat, (∀ d ∈ l, d < P) → val P l < P ^ l.length := by
  intro l
  induction l with
  | nil => intro _; exact Nat.one_pos
  | cons a l ih =>
    intro h
    have h1 := ih fun d hd => h d (.tail _ hd)
    have h2 := h a (.head _)
    show a + val P l * P < P ^ (l.length + 1)
    rw [Nat.pow_succ]
    have h3 : (val P l + 1) * P ≤ P ^ l.length * P := Nat.mul_le_mul_right _ h1
    rw [Nat.add_mul, Nat.one_mul] at h3
    omega
theorem lt_pow_len {P n k : Nat} (hP : 2 ≤ P) (hn : n ≤ 160) (hk : (figs P n).length ≤ k) : n < P ^ k := by
  have h := val_lt (P := P) (figs P n) fun d hd => figs_lt (by omega) hd
  rw [val_figs hP hn] at h
  exact Nat.lt_of_lt_of_le h (Nat.pow_le_pow_right (by omega) hk)
end Mine
end

section
namespace Mine
theorem two_mem : (2 : Nat) ∈ PR := by decide
/-- the choices' share of a prime -/
theorem ch_val {P n m x y : Nat} (hP : P ∈ PR) (hn : n ≤ 80) (hm : m ≤ 80) (e : ch (n + m) n = P ^ x * y) (hy : y % P ≠ 0) {k : Nat} (hkn : n < P ^ k) (hkm : m < P ^ k) (hk : k ≤ 8) : x = csG P n m 0 k ∧ x < 400 := by
  have hb := PR_bounds hP
  obtain ⟨v, c, a1, a2, a3, a4⟩ := legN hP (show n + m ≤ 160 by omega)
  obtain ⟨vn, cn, b1, b2, b3, b4⟩ := legN hP (show n ≤ 160 by omega)
  obtain ⟨vm, cm, d1, d2, d3, d4⟩ := legN hP (show m ≤ 160 by omega)
  have hf := ch_fac (n + m) n m rfl
  rw [e, a1, b1, d1] at hf
  have hv : x + (vn + vm) = v := by
    refine pow_uniq (P := P) (u := y * (cn * cm)) (w := c) (by omega) ?_ (pmul hP hy (pmul hP b2 d2)) a2
    rw [← hf, Nat.pow_add, Nat.pow_add]
    simp only [Nat.mul_assoc, Nat.mul_left_comm, Nat.mul_comm]
  have hs := add_figs (P := P) (by omega) k 9 n m 0 hkn hkm (by omega) (by omega)
  rw [← sum_figs (by omega) (by omega) (by omega), ← sum_figs (by omega) (by omega) (by omega), Nat.add_zero, Nat.add_zero, ← sum_figs (by omega) (by omega) (by omega)] at hs
  have hx : x = csG P n m 0 k := by
    have hpos : 0 < P - 1 := by omega
    apply Nat.eq_of_mul_eq_mul_left hpos
    have e1 : v * (P - 1) = (P - 1) * x + (vn * (P - 1) + vm * (P - 1)) := by rw [← hv, Nat.add_mul, Nat.add_mul, Nat.mul_comm x]
    omega
  exact ⟨hx, by omega⟩
theorem cyF_eq {P n m : Nat} {pl ph : List Int} (hl : ∀ i, pl.getD i 0 = (dig P n i : Int)) (hh : ∀ i, ph.getD i 0 = (dig P m i : Int)) : ∀ i, cyF P pl ph i = (cyG P n m 0 i : Int) := by
  intro i
  induction i with
  | zero => rfl
  | succ i ih =>
    unfold cyF cyG
    rw [hl, hh, ih]
    by_cases h : P ≤ dig P n i + dig P m i + cyG P n m 0 i
    · rw [if_pos h, if_pos (by omega)]; rfl
    · rw [if_neg h, if_neg (by omega)]; rfl
theorem csF_eq {P n m : Nat} {pl ph : List Int} (hl : ∀ i, pl.getD i 0 = (dig P n i : Int)) (hh : ∀ i, ph.getD i 0 = (dig P m i : Int)) : ∀ i, csF P pl ph i = (csG P n m 0 i : Int) := by
  intro i
  induction i with
  | zero => rfl
  | succ i ih =>
    show csF P pl ph i + cyF P pl ph (i + 1) = ((csG P n m 0 i + cyG P n m 0 (i + 1) : Nat) : Int)
    rw [ih, cyF_eq hl hh, Int.natCast_add]
theorem pick_eq (a b : Nat) : (if (a : Int) ≤ (b : Int) then ((fac (b : Int).toNat : Int).fdiv (fac (a : Int).toNat : Int)).fdiv (fac ((b : Int) - (a : Int)).toNat : Int) else 0) = (ch b a : Int) := by
  by_cases h : a ≤ b
  · rw [if_pos (by omega), Int.toNat_natCast, Int.toNat_natCast, show ((b : Int) - (a : Int)).toNat = b - a by omega, fdiv_nat, fdiv_nat]
    have := ch_div a (b - a)
    rw [show a + (b - a) = b by omega] at this
    rw [this]
  · rw [if_neg (by omega), ch_gt b a (by omega)]; rfl
theorem rsF_eq {P n N : Nat} (hP : 2 ≤ P) {pl nb : List Int} (hl : ∀ i, pl.getD i 0 = (dig P n i : Int)) (hb : ∀ i, nb.getD i 0 = (dig P N i : Int)) : ∀ i, rsF P pl nb i = ((prodL P N n i % P : Nat) : Int) := by
  intro i
  induction i with
  | zero => show (1 : Int) = ((1 % P : Nat) : Int); rw [Nat.mod_eq_of_lt (by omega)]; rfl
  | succ i ih =>
    unfold rsF
    rw [topF_eq, hl, hb, ih, pick_eq, ← Int.natCast_mul, fmod_nat]
    show _ = ((prodL P N n i * ch (dig P N i) (dig P n i) % P : Nat) : Int)
    rw [Nat.mod_mul_mod]
theorem kum {P n m : Nat} (hP : P ∈ PR) (hn : n ≤ 80) (hm : m ≤ 80) : ∃ C v c v2 c2 w2 d2 : Nat, fac (n + m) / fac n / fac m = C ∧ (C : Int) = (P : Int) ^ v * (c : Int) ∧ (c : Int) % (P : Int) ≠ 0 ∧ v < 400 ∧
    csF P (pad (zs (figs P n)) (max (zs (figs P n)).length (zs (figs P m)).length)) (pad (zs (figs P m)) (max (zs (figs P n)).length (zs (figs P m)).length)) (max (zs (figs P n)).length (zs (figs P m)).length) = (v : Int) ∧
    (C : Int).fmod (P : Int) = (rsF P (pad (zs (figs P n)) (max (zs (figs P n)).length (zs (figs P m)).length)) (zs (figs P (n + m))) (max (zs (figs P n)).length (zs (figs P m)).length)).fmod (P : Int) ∧
    C = 2 ^ v2 * (2 * c2 + 1) ∧ v2 < 400 ∧ fac n = 2 ^ w2 * (2 * d2 + 1) ∧ w2 < 400 := by
  have hb := PR_bounds hP
  rw [zs_len, zs_len]
  have hk1 : (figs P n).length ≤ max (figs P n).length (figs P m).length := by omega
  have hk2 : (figs P m).length ≤ max (figs P n).length (figs P m).length := by omega
  have hk8 : max (figs P n).length (figs P m).length ≤ 8 := by have := figs_len P n; have := figs_len P m; omega
  generalize max (figs P n).length (figs P m).length = k at *
  have hkn := lt_pow_len (P := P) (by omega) (show n ≤ 160 by omega) hk1
  have hkm := lt_pow_len (P := P) (by omega) (show m ≤ 160 by omega) hk2
  have hl : ∀ i, (pad (zs (figs P n)) k).getD i 0 = (dig P n i : Int) := fun i => by rw [getD_pad, getD_zs, getD_figs (by omega) (by omega)]
  have hh : ∀ i, (pad (zs (figs P m)) k).getD i 0 = (dig P m i : Int) := fun i => by rw [getD_pad, getD_zs, getD_figs (by omega) (by omega)]
  have hbb : ∀ i, (zs (figs P (n + m))).getD i 0 = (dig P (n + m) i : Int) := fun i => by rw [getD_zs, getD_figs (by omega) (by omega)]
  obtain ⟨x, y, e1, e2⟩ := strip (P := P) (by omega) (ch (n + m) n) (ch_pos n m)
  obtain ⟨x2, y2, f1, f2⟩ := strip (P := 2) (by omega) (ch (n + m) n) (ch_pos n m)
  obtain ⟨hx, hx4⟩ := ch_val hP hn hm e1 e2 hkn hkm hk8
  have h2 := ch_val two_mem hn hm f1 f2 (k := 7) (by omega) (by omega) (by omega)
  obtain ⟨w, d, g1, g2, g3, _⟩ := legN two_mem (show n ≤ 160 by omega)
  refine ⟨ch (n + m) n, x, y, x2, y2 / 2, w, d / 2, ch_div n m, ?_, by omega, hx4, ?_, ?_, ?_, h2.2, ?_, g3⟩
  · rw [e1, Int.natCast_mul, Int.natCast_pow]
  · rw [csF_eq hl hh, ← hx]
  · rw [rsF_eq (by omega) hl hbb, fmod_nat, fmod_nat, Nat.mod_mod, lucas hP k _ _ hkn]
  · rw [f1, show 2 * (y2 / 2) + 1 = y2 by omega]
  · rw [g1, show 2 * (d / 2) + 1 = d by omega]
end Mine
end

section
open PySem PySem.W PyProof.Rows
namespace Mine
local macro_rules | `(tactic| walk_at "call ref") => `(tactic| (k_here; (with_reducible show wpAny _ _ (PySem.call (Value.ref 44) _) _ _ _); k_dflt ((refine (ifac_c _ _ _ _ _ _ _) _ _ _ _ _ _ _ _ _ _ _ _ _ _ _ _ _ (by k_asm) (by k_asm) (by k_asm) (by k_asm) (by k_asm) (by first | exact rfl | assumption) ⟨by omega, by omega⟩ (by ktr_room) (by ktr_units) ?_); (intro t7 h7 tk7 F7 N7); (try dsimp only); (first | rw [Int.toNat_natCast] | rw [nat_sum] | skip); (try k_fold); (try k_sweep))))
local macro_rules | `(tactic| walk_at "call ref") => `(tactic| (k_here; (with_reducible show wpAny _ _ (PySem.call (Value.ref 56) _) _ _ _); k_dflt ((refine (often_v _ _ _ _ _ _ _ _ _ _ _) _ _ _ _ _ _ _ _ _ _ _ _ _ _ _ _ _ (by k_asm) (by k_asm) (by k_asm) (by k_asm) (by k_asm) (by first | exact rfl | assumption) (by assumption) ⟨by omega, by omega, by omega, by assumption, by assumption⟩ (by ktr_room) (by ktr_units) ?_); (intro t7 h7 tk7 F7 N7); (try dsimp only); (try k_fold); (try k_sweep))))
local macro_rules | `(tactic| walk_at "call ref") => `(tactic| (k_here; (with_reducible show wpAny _ _ (PySem.call (Value.ref 21) _) _ _ _); k_dflt ((refine (trailing_c _ _ _ _ _ _ _ _ _) _ _ _ _ _ _ _ _ _ _ _ _ _ _ _ _ _ (by k_asm) (by k_asm) (by k_asm) (by k_asm) (by k_asm) (by first | exact rfl | assumption) (by assumption) (by ktr_room) (by ktr_units) ?_); (intro t7 h7 tk7 F7 N7); (try dsimp only); (try k_fold); (try k_sweep))))
local macro_rules | `(tactic| walk_at "eval Name") => `(tactic| (k_here; k_dflt ((refine' nameX_L ?F ?v ?_ ?a ?b); (case F => k_asm); (case a => rfl); (case b => rfl); (case v => assumption); k_whole)))




local macro_rules | `(tactic| walk_at "call ref") => `(tactic| (k_here; (with_reducible show wpAny _ _ (PySem.call (Value.ref 49) _) _ _ _); k_dflt ((try rw [← Int.natCast_add]); (refine (figures_c _ _ _ _ _ _ _ _ _) _ _ _ _ _ _ _ _ _ _ _ _ _ _ _ _ _ (by k_asm) (by k_asm) (by k_asm) (by k_asm) (by k_asm) (by first | exact rfl | assumption) ⟨by omega, by omega, by omega, by omega⟩ (by ktr_room) (by ktr_units) ?_); (intro l7 ws7 k7 h7 tk7 F7 N7 lt7 i7); (try k_lt lt7); (try dsimp only); (try k_fold); (try k_sweep))))
theorem numeral0 (w : World) (mean : Mean) (mg mb : Nm) (news : Led) (P : Nat) (t t' : Tok) : ClaimR 2 w mean mg mb 37 news (2 ≤ P ∧ P ≤ 31 ∧ P ≠ 10 ∧ 0 ≤ 160) [.int 0 t, .int (P : Int) t'] (fun t => .str (Str.ofString "0") t) := numeral_c w mean mg mb news 0 P t t'
local macro_rules | `(tactic| walk_at "call ref") => `(tactic| (k_here; (with_reducible show wpAny _ _ (PySem.call (Value.ref 37) _) _ _ _); k_dflt ((refine (numeral0 _ _ _ _ _ _ _ _) _ _ _ _ _ _ _ _ _ _ _ _ _ _ _ _ _ (by k_asm) (by k_asm) (by k_asm) (by k_asm) (by k_asm) (by first | exact rfl | assumption) ⟨by omega, by omega, by omega, by omega⟩ (by ktr_room) (by ktr_units) ?_); (intro t7 h7 tk7 F7 N7); (try dsimp only); (try k_fold); (try k_sweep))))
local macro_rules | `(tactic| walk_at "binaryOp Mod int int") => `(tactic| (k_here; (with_reducible show wpAny _ _ (binaryOp Operator.Mod (Value.int _ _) (Value.int 81 _)) _ _ _); k_dflt ((refine mod81_at ?_); (intro n81 hn81); (try dsimp only); (try k_fold))))
theorem news_dup {h₀ h : Heap} {L : Addr} {p : Addr × Obj} {news : Led} (hm : p ∈ news) (N : News h₀ L h news) : News h₀ L h (p :: news) := fun q hq => by
  cases hq with
  | head => exact N _ hm
  | tail _ hq => exact N _ hq
theorem turn' (w : World) (mean : Mean) (mg mb : Nm) (h₀ : Heap) (L fa : Addr) (cdv : Value) (P N : Nat) (NZ : Int) (hNZ : NZ = (N : Int)) (hP : P ∈ PR) (hN : N ≤ 160) (m₀ : Nm) (tn tp : Tok) (ws : List Value) (o1 o2 : Obj) (lf kf : Nat) (news : Led) (s : Shared) (Q : Flow → Shared → Prop) (E : Value → Shared → Prop)
    (K0 : Below callerA h₀ [] h₀) (KX : (hd.heap_39 w.params).In h₀) (T : TopN mean mg mb h₀)
    (F : Fr h₀ L s.heap (fun y => if y = Str.ofString "number" then some (.int NZ tn) else m₀ y)) (NW : News h₀ L s.heap news)
    (m2 : (L + 1 + 1, o2) ∈ news) (m1 : (L + 1, o1) ∈ news) (d1 : o1.data = .cell (some (.int (P : Int) tp))) (d2 : o2.data = .cell (some (.ref lf))) (m3 : (lf, W.listOf ws.toArray kf) ∈ news)
    (hi : IntsAre ws ((figs P N).map fun (k : Nat) => (k : Int)))
    (h : ∀ h' tk', Fr h₀ L h' (fun y => if y = Str.ofString "number" then some (.int NZ tn) else m₀ y) → News h₀ L h' news → Q .next { s with heap := h', toks := tk' }) :
    wpAny (lawM w) (callerA.deeper (envOfC (Str.ofString "law") lawScope L fa cdv)) (execs turnBody (envOfC (Str.ofString "law") lawScope L fa cdv)) Q E s := by
  subst hNZ
  have hb := PR_bounds hP
  obtain ⟨v, c, h1, h2, h3, h4⟩ := leg hP hN
  exact turn w mean mg mb h₀ L fa cdv P N m₀ tn tp ws o1 o2 lf kf news s Q E K0 KX T F d1 d2 (news_dup (.tail _ (.tail _ m2)) (news_dup (.tail _ m1) (news_dup m3 NW))) _ hi (by rw [zs_len]; exact figs_len P N) (by rw [zs_len]; exact figs_pos P N) (figs_sum hP hN) (zs_lt hP) (figs_last hP hN) v c h1 h2 h3 h4 hN hb.1 hb.2.1
    fun h' tk' F' N' => h h' tk' F' (cb_drop N' fun q hq => .tail _ (.tail _ (.tail _ hq)))
theorem mid' (w : World) (mean : Mean) (mg mb : Nm) (h₀ : Heap) (L fa : Addr) (cdv : Value) (P n m : Nat) (hP : P ∈ PR) (hn : n ≤ 80) (hm : m ≤ 80) (mm : Nm) (tn tm tp : Tok) (o1 o2 : Obj) (ll lh lb kl kh kb : Nat) (wl wh wb : List Value) (news : Led) (s : Shared) (Q : Flow → Shared → Prop) (E : Value → Shared → Prop)
    (K0 : Below callerA h₀ [] h₀) (KX : (hd.heap_39 w.params).In h₀) (T : TopN mean mg mb h₀)
    (F : Fr h₀ L s.heap mm) (NW : News h₀ L s.heap news) (en : mm (Str.ofString "n") = some (.int (n : Int) tn)) (em : mm (Str.ofString "m") = some (.int (m : Int) tm)) (el : mm (Str.ofString "low") = some (.ref ll)) (eh : mm (Str.ofString "high") = some (.ref lh)) (eb : mm (Str.ofString "both") = some (.ref lb))
    (m2 : (L + 1 + 1, o2) ∈ news) (m1 : (L + 1, o1) ∈ news) (d1 : o1.data = .cell (some (.int (P : Int) tp))) (ml : (ll, W.listOf wl.toArray kl) ∈ news) (mh : (lh, W.listOf wh.toArray kh) ∈ news) (mb : (lb, W.listOf wb.toArray kb) ∈ news)
    (hil : IntsAre wl ((figs P n).map fun (k : Nat) => (k : Int))) (hih : IntsAre wh ((figs P m).map fun (k : Nat) => (k : Int))) (hib : IntsAre wb ((figs P (n + m)).map fun (k : Nat) => (k : Int)))
    (hE : PassesOwn (lawM w) (callerA.deeper (envOfC (Str.ofString "law") lawScope L fa cdv)) (envOfC (Str.ofString "law") lawScope L fa cdv) E)
    (h : ∀ h' tk' mm', Fr h₀ L h' mm' → Q (.ret (.bool true)) { s with heap := h', toks := tk' }) :
    wpAny (lawM w) (callerA.deeper (envOfC (Str.ofString "law") lawScope L fa cdv)) (execs lawTail (envOfC (Str.ofString "law") lawScope L fa cdv)) Q E s := by
  have hb := PR_bounds hP
  obtain ⟨C, v, c, v2, c2, w2, d2, a1, a2, a3, a4, a5, a6, a7, a8, a9, a10⟩ := kum hP hn hm
  exact mid w mean mg _ h₀ L fa cdv P n m mm tn tm tp o1 o2 ll lh lb kl kh kb wl wh wb _ _ _ news s Q E K0 KX T F en em el eh eb d1 (news_dup (.tail _ (.tail _ (.tail _ (.tail _ m2)))) (news_dup (.tail _ (.tail _ (.tail _ m1))) (news_dup (.tail _ (.tail _ ml)) (news_dup (.tail _ mh) (news_dup mb NW)))))
    hil hih hib (by rw [zs_len]; exact figs_len _ _) (by rw [zs_len]; exact figs_len _ _) (by rw [zs_len]; exact figs_len _ _) (zs_bounds hP) (zs_bounds hP) hn hm hb.1 hb.2.1 C v c v2 c2 w2 d2 a1 a2 a3 a4 a5 a6 a7 a8 a9 a10 hE h
def tl1 : List PySem.Stmt → List PySem.Stmt
  | _ :: r => r
  | _ => []
/-- what stands behind the law's first statement -/
def lawRest : List PySem.Stmt := tl1 lawBody

theorem body2 (w : World) (mean : Mean) (mg mb : Nm) (h₀ : Heap) (L fa : Addr) (cdv : Value) (mm : Nm) (o1 o2 : Obj) (a b c : Int) (ta tb tc : Tok) (s : Shared) (Q : Flow → Shared → Prop) (E : Value → Shared → Prop)
    (K0 : Below callerA h₀ [] h₀) (KX : (hd.heap_39 w.params).In h₀) (T : TopN mean mg mb h₀)
    (F : Fr h₀ L s.heap mm) (ea : mm (Str.ofString "a") = some (.int a ta)) (en : mm (Str.ofString "n") = some (.int b tb)) (em : mm (Str.ofString "m") = some (.int c tc))
    (v1 v2 : Option Value) (d1 : o1.data = .cell v1) (d2 : o2.data = .cell v2) (NW : News h₀ L s.heap [(L + 1 + 1, o2), (L + 1, o1)])
    (hE : PassesOwn (lawM w) (callerA.deeper (envOfC (Str.ofString "law") lawScope L fa cdv)) (envOfC (Str.ofString "law") lawScope L fa cdv) E)
    (h : ∀ h' tk' mm', Fr h₀ L h' mm' → Q (.ret (.bool true)) { s with heap := h', toks := tk' }) :
    wpAny (lawM w) (callerA.deeper (envOfC (Str.ofString "law") lawScope L fa cdv)) (execs lawRest (envOfC (Str.ofString "law") lawScope L fa cdv)) Q E s := by
  dsimp only [lawRest, tl1, lawBody, lawDef, PySem.Challenge.pw_ag5011_01, bodyOf, nth9, lawScope, scopeOf, lawM] at hE ⊢
  unfold TopN at T
  revert KX; k_fill; intro KX
  w_on
  k_with_none
  try k_fold
  repeat' (first | (fail_if_success (with_reducible show wpAny _ _ (subscriptTail _ _ _ _) _ _ _)); first | (k_unfold; (try dsimp only)) | (k_end; wrow_close) | walk1 | (dsimp only; walk1) | (leave1; walk_say "STEP leave1"; try dsimp only))
  rename News _ _ _ _ => N3
  have hi0 : 0 ≤ a.fmod 11 := by rw [Int.fmod_eq_emod_of_nonneg _ (by omega)]; omega
  have hi1 : a.fmod 11 < 11 := by rw [Int.fmod_eq_emod_of_nonneg _ (by omega)]; omega
  refine item_menu N3 (by repeat' constructor) hi0 hi1 ?_ (by with_unfolding_all rfl)
  clear hi0 hi1
  intro P tp hPR
  have hPb := PR_bounds hPR
  replace N3 := cb_drop (news := [(L + 1 + 1, o2), (L + 1, o1)]) N3 (fun q hq => .tail _ hq)
  repeat' (first | (fail_if_success (with_reducible show wpAny _ _ (PySem.exec (Stmt.For _ _ _ _ _) _) _ _ _)); first | (k_unfold; (try dsimp only)) | (k_end; wrow_close) | walk1 | (dsimp only; walk1) | (leave1; walk_say "STEP leave1"; try dsimp only))
  repeat' (first | (fail_if_success (with_reducible show wpAny _ _ (PySem.execs (Stmt.If _ _ _ _ :: _) _) _ _ _)); first | (k_unfold; (try dsimp only)) | (k_end; wrow_close) | walk1 | (dsimp only; walk1) | (leave1; walk_say "STEP leave1"; try dsimp only))
  rename News _ _ _ _ => N3
  rename Fr _ _ _ _ => F3
  refine turn' w mean mg mb h₀ L fa cdv P _ _ rfl hPR (by omega) _ _ _ _ _ _ _ _ _ _ _ _ K0 KX T F3 N3 (by k_mem) (by k_mem) (by k_asm) (by k_asm) (by k_mem) (by k_asm) ?_
  clear F3 N3
  intro h4 tk4 F4 N4
  repeat' (first | (fail_if_success (with_reducible show wpAny _ _ (PySem.execs (Stmt.If _ _ _ _ :: _) _) _ _ _)); first | (k_unfold; (try dsimp only)) | (k_end; wrow_close) | walk1 | (dsimp only; walk1) | (leave1; walk_say "STEP leave1"; try dsimp only))
  rename News _ _ _ _ => N3
  rename Fr _ _ _ _ => F3
  refine turn' w mean mg mb h₀ L fa cdv P _ _ rfl hPR (by omega) _ _ _ _ _ _ _ _ _ _ _ _ K0 KX T F3 N3 (by k_mem) (by k_mem) (by k_asm) (by k_asm) (by k_mem) (by k_asm) ?_
  clear F3 N3
  intro h4 tk4 F4 N4
  repeat' (first | (fail_if_success (with_reducible show wpAny _ _ (PySem.execs (Stmt.If _ _ _ _ :: _) _) _ _ _)); first | (k_unfold; (try dsimp only)) | (k_end; wrow_close) | walk1 | (dsimp only; walk1) | (leave1; walk_say "STEP leave1"; try dsimp only))
  rename News _ _ _ _ => N3
  rename Fr _ _ _ _ => F3
  refine turn' w mean mg mb h₀ L fa cdv P _ _ (Int.natCast_add _ _).symm hPR (by omega) _ _ _ _ _ _ _ _ _ _ _ _ K0 KX T F3 N3 (by k_mem) (by k_mem) (by k_asm) (by k_asm) (by k_mem) (by k_asm) ?_
  clear F3 N3
  intro h4 tk4 F4 N4
  repeat' (first | (fail_if_success (with_reducible show wpAny _ _ (PySem.execs (Stmt.Assign _ _ _ :: _) _) _ _ _)); first | (k_unfold; (try dsimp only)) | (k_end; wrow_close) | walk1 | (dsimp only; walk1) | (leave1; walk_say "STEP leave1"; try dsimp only))
  dsimp only
  rename News _ _ _ _ => N3
  rename Fr _ _ _ _ => F3
  refine mid' w mean mg mb h₀ L fa cdv P _ _ hPR ?_ ?_ _ _ _ _ _ _ _ _ _ _ _ _ _ _ _ _ _ _ _ K0 KX T F3 N3 (by with_unfolding_all rfl) (by with_unfolding_all rfl) (by with_unfolding_all rfl) (by with_unfolding_all rfl) (by with_unfolding_all rfl) (by k_mem) (by k_mem) (by k_asm) (by k_mem) (by k_mem) (by k_mem) (by k_asm) (by k_asm) (by k_asm) hE ?_
  · assumption
  · assumption
  · intro h9 tk9 mm9 F9
    exact h h9 tk9 mm9 F9
end Mine
end

section
open PySem PySem.W PyProof.Rows
namespace Mine
local macro_rules | `(tactic| walk_at "call ref") => `(tactic| (k_here; (with_reducible show wpAny _ _ (PySem.call (Value.ref 44) _) _ _ _); k_dflt ((refine (ifac_c _ _ _ _ _ _ _) _ _ _ _ _ _ _ _ _ _ _ _ _ _ _ _ _ (by k_asm) (by k_asm) (by k_asm) (by k_asm) (by k_asm) (by first | exact rfl | assumption) ⟨by omega, by omega⟩ (by ktr_room) (by ktr_units) ?_); (intro t7 h7 tk7 F7 N7); (try dsimp only); (first | rw [Int.toNat_natCast] | rw [nat_sum] | skip); (try k_fold); (try k_sweep))))
local macro_rules | `(tactic| walk_at "call ref") => `(tactic| (k_here; (with_reducible show wpAny _ _ (PySem.call (Value.ref 56) _) _ _ _); k_dflt ((refine (often_v _ _ _ _ _ _ _ _ _ _ _) _ _ _ _ _ _ _ _ _ _ _ _ _ _ _ _ _ (by k_asm) (by k_asm) (by k_asm) (by k_asm) (by k_asm) (by first | exact rfl | assumption) (by assumption) ⟨by omega, by omega, by omega, by assumption, by assumption⟩ (by ktr_room) (by ktr_units) ?_); (intro t7 h7 tk7 F7 N7); (try dsimp only); (try k_fold); (try k_sweep))))
local macro_rules | `(tactic| walk_at "call ref") => `(tactic| (k_here; (with_reducible show wpAny _ _ (PySem.call (Value.ref 21) _) _ _ _); k_dflt ((refine (trailing_c _ _ _ _ _ _ _ _ _) _ _ _ _ _ _ _ _ _ _ _ _ _ _ _ _ _ (by k_asm) (by k_asm) (by k_asm) (by k_asm) (by k_asm) (by first | exact rfl | assumption) (by assumption) (by ktr_room) (by ktr_units) ?_); (intro t7 h7 tk7 F7 N7); (try dsimp only); (try k_fold); (try k_sweep))))
local macro_rules | `(tactic| walk_at "eval Name") => `(tactic| (k_here; k_dflt ((refine' nameX_L ?F ?v ?_ ?a ?b); (case F => k_asm); (case a => rfl); (case b => rfl); (case v => assumption); k_whole)))



theorem three (ns : List Int) : ∃ a b c, List.take 3 ns ++ List.drop ((((List.take 3 ns).length : Nat) : Int)).toNat [1, 21, 30] = [a, b, c] := by
  match ns with
  | [] => exact ⟨1, 21, 30, rfl⟩
  | [x] => exact ⟨x, 21, 30, rfl⟩
  | [x, y] => exact ⟨x, y, 30, rfl⟩
  | x :: y :: z :: r => exact ⟨x, y, z, rfl⟩
theorem ints3 {ws : List Value} {a b c : Int} (h : IntsAre ws [a, b, c]) : ∃ t1 t2 t3, ws = [Value.int a t1, Value.int b t2, Value.int c t3] := by
  cases h with
  | cons _ t1 h =>
    cases h with
    | cons _ t2 h =>
      cases h with
      | cons _ t3 h =>
        cases h
        exact ⟨t1, t2, t3, rfl⟩
def nth0 : List PySem.Stmt → PySem.Stmt
  | x :: _ => x
  | _ => .Pass ⟨0, 0, 0, 0⟩
def tgt0 : List PySem.Stmt → PySem.Expr
  | .Assign (t :: _) _ _ :: _ => t
  | _ => .Tuple [] 0 ⟨0, 0, 0, 0⟩
theorem assign3 (w : World) (mean : Mean) (mg mb : Nm) (h₀ : Heap) (L fa : Addr) (cdv : Value) (mm : Nm) (D : Addr) (news : Led) (k : Nat) (ws : List Value) (a b c : Int) (s : Shared) (Q : Unit → Shared → Prop) (E : Value → Shared → Prop)
    (K0 : Below callerA h₀ [] h₀) (KX : (hd.heap_39 w.params).In h₀) (T : TopN mean mg mb h₀)
    (F : Fr h₀ L s.heap mm) (N : News h₀ L s.heap ((D, W.listOf ws.toArray k) :: news)) (hi : IntsAre ws [a, b, c])
    (h : ∀ h' tk' ta tb tc, Fr h₀ L h' (fun y => if y = Str.ofString "m" then some (.int c tc) else if y = Str.ofString "n" then some (.int b tb) else if y = Str.ofString "a" then some (.int a ta) else mm y) → News h₀ L h' ((D, W.listOf ws.toArray k) :: news) → Q () { s with heap := h', toks := tk' }) :
    wpAny (lawM w) (callerA.deeper (envOfC (Str.ofString "law") lawScope L fa cdv)) (PySem.assign (tgt0 lawBody) (envOfC (Str.ofString "law") lawScope L fa cdv) (.ref D)) Q E s := by
  dsimp only [tgt0, lawBody, lawDef, PySem.Challenge.pw_ag5011_01, bodyOf, nth9, lawScope, scopeOf, lawM]
  unfold TopN at T
  obtain ⟨ta, tb, tc, ew⟩ := ints3 hi
  subst ew
  clear hi
  revert KX; k_fill; intro KX
  w_on
  k_with_none
  try k_fold
  k_steps
  exact h _ _ _ _ _ (by k_asm) (by k_asm)

theorem stmt0 (w : World) (mean : Mean) (mg mb : Nm) (h₀ : Heap) (L fa : Addr) (cdv : Value) (ls : Addr) (vs : List Value) (ns : List Int) (mm : Nm) (o1 o2 : Obj) (s : Shared) (Q : Flow → Shared → Prop) (E : Value → Shared → Prop)
    (K0 : Below callerA h₀ [] h₀) (KX : (hd.heap_39 w.params).In h₀) (T : TopN mean mg mb h₀)
    (hls : h₀.IsList ls vs.toArray) (hi : IntsAre vs ns) (hlen : ns.length ≤ 63)
    (F : Fr h₀ L s.heap mm) (esc : mm (Str.ofString "script") = some (.ref ls))
        (NW : News h₀ L s.heap [(L + 1 + 1, o2), (L + 1, o1)])
    (h : ∀ h' tk' a b c ta tb tc, Fr h₀ L h' (fun y => if y = Str.ofString "m" then some (.int c tc) else if y = Str.ofString "n" then some (.int b tb) else if y = Str.ofString "a" then some (.int a ta) else mm y) →
      News h₀ L h' [(L + 1 + 1, o2), (L + 1, o1)] → Q .next { s with heap := h', toks := tk' }) :
    wpAny (lawM w) (callerA.deeper (envOfC (Str.ofString "law") lawScope L fa cdv)) (PySem.exec (nth0 lawBody) (envOfC (Str.ofString "law") lawScope L fa cdv)) Q E s := by
  dsimp only [nth0, lawBody, lawDef, PySem.Challenge.pw_ag5011_01, bodyOf, nth9, lawScope, scopeOf, lawM]
  unfold TopN at T
  have hvl : vs.length ≤ 63 := by rw [hi.length]; exact hlen
  have hvs : vs.toArray.size ≤ 63 := by simpa using hvl
  revert KX; k_fill; intro KX
  w_on
  k_with_none
  try k_fold
  repeat' (first | (fail_if_success (with_reducible show wpAny _ _ (PySem.assign (Expr.Tuple _ _ _) _ _) _ _ _)); first | (k_unfold; (try dsimp only)) | (k_end; wrow_close) | walk1 | (dsimp only; walk1) | (leave1; walk_say "STEP leave1"; try dsimp only))
  rename News _ _ _ _ => N3
  rename Fr _ _ _ _ => F3
  rename IntsAre _ _ => I3
  obtain ⟨a, b, c, e3⟩ := three ns
  rw [e3] at I3
  refine assign3 w mean mg mb h₀ L fa cdv mm _ _ _ _ a b c _ _ _ K0 KX T F3 N3 I3 ?_
  clear F3 N3 I3 e3
  intro h4 tk4 ta tb tc F4 N4
  refine h _ _ a b c ta tb tc F4 (cb_drop N4 fun q hq => ?_)
  cases hq with
  | head => k_mem
  | tail _ hq =>
    cases hq with
    | head => k_mem
    | tail _ hq => cases hq
end Mine
end

section
open PySem PySem.W PyProof.Rows
namespace Mine
theorem lb : lawBody = nth0 lawBody :: lawRest := by rfl
theorem body (w : World) (mean : Mean) (mg mb : Nm) (h₀ : Heap) (L fa : Addr) (cdv : Value) (ls : Addr) (vs : List Value) (ns : List Int) (mm : Nm) (o1 o2 : Obj) (s : Shared) (Q : Flow → Shared → Prop) (E : Value → Shared → Prop)
    (K0 : Below callerA h₀ [] h₀) (KX : (hd.heap_39 w.params).In h₀) (T : TopN mean mg mb h₀)
    (hls : h₀.IsList ls vs.toArray) (hi : IntsAre vs ns) (hlen : ns.length ≤ 63)
    (F : Fr h₀ L s.heap mm) (esc : mm (Str.ofString "script") = some (.ref ls))
    (v1 v2 : Option Value) (d1 : o1.data = .cell v1) (d2 : o2.data = .cell v2)
    (NW : News h₀ L s.heap [(L + 1 + 1, o2), (L + 1, o1)])
    (hE : PassesOwn (lawM w) (callerA.deeper (envOfC (Str.ofString "law") lawScope L fa cdv)) (envOfC (Str.ofString "law") lawScope L fa cdv) E)
    (h : ∀ h' tk' mm', Fr h₀ L h' mm' → Q (.ret (.bool true)) { s with heap := h', toks := tk' }) :
    wpAny (lawM w) (callerA.deeper (envOfC (Str.ofString "law") lawScope L fa cdv)) (execs lawBody (envOfC (Str.ofString "law") lawScope L fa cdv)) Q E s := by
  rw [lb]
  refine wpAny_execs_cons ?_
  refine stmt0 w mean mg mb h₀ L fa cdv ls vs ns mm o1 o2 s _ E K0 KX T hls hi hlen F esc NW ?_
  intro h4 tk4 a b c ta tb tc F4 N4
  exact @body2 w mean mg mb h₀ L fa cdv _ o1 o2 a b c ta tb tc _ Q E K0 KX T F4 (by with_unfolding_all rfl) (by with_unfolding_all rfl) (by with_unfolding_all rfl) v1 v2 d1 d2 N4 hE fun h9 tk9 mm9 F9 => h h9 tk9 mm9 F9
end Mine
end

open PySem PySem.W PyProof.Rows
theorem PySem.Challenge.cw_ag5011_01_holds : PySem.Challenge.rw_ag5011_01.Holds := by
  refine Mine.hd ?_
  k_go0
  rename Fr _ _ _ _ => F
  rename News _ _ _ _ => N
  rename IntsAre _ _ => I
  rename Heap.IsList _ _ _ => hl
  rename Frag.In _ _ => KX
  rename Top _ _ _ _ _ _ => T
  rename Below _ _ _ _ => K0
  try dsimp only [Top.heap] at K0
  refine' @Mine.body _ _ _ _ _ _ _ _ _ _ _ _ _ _ _ _ _ K0 KX T hl I ?e1 F ?e2 _ _ ?e3 ?e4 N ?e5 ?e6
  (case e3 => assumption)
  (case e4 => assumption)
  (case e1 => 
    rename ¬ (_ < (_ : Int)) => hc
    omega)
  (case e2 => with_unfolding_all rfl)
  (case e5 => exact PySem.PassesOwn.leaving)
  (case e6 =>
    intro h9 tk9 mm9 F9
    clear hl N F
    k_steps)
#print axioms PySem.Challenge.cw_ag5011_01_holds
