import PyProof.Rows.All
import Wide.All
import OpenK.AllK
import Wide.FinOn
import PySem.Challenge.RW_un0023_01
set_option Elab.async false
section
open PySem PySem.W PyProof.Rows
set_option maxRecDepth 100000
set_option maxHeartbeats 8000000
namespace Mine
section
local macro_rules | `(tactic| o_head $h) => `(tactic| ((rename (∀ r, OpenRow.Holds r) => hq); exact hq _))
/-- No proof leans on this one (its premises are false): the head's tactic, run here, writes out the constant hd.heap_1, the part of the heap that the law comes to, which the contracts name. The head itself is walked in main0. -/
theorem hd (hs : ∀ l, OpenLaw.wellSaid l = true) (hyp : ∀ r, OpenRow.Holds r) : PySem.Challenge.rw_un0023_01.Holds := by
  w_on
  refine holds_law (hs _) fun said => ?_
  k_head
end
end Mine
theorem Mine.part0 : True := by
  k_with_none
  w_top off
  exact True.intro
end
section
open PySem PySem.W PyProof.Rows PySem.Spec PySem.Calls
set_option maxRecDepth 100000
set_option maxHeartbeats 8000000
namespace Mine
/-- the table of a def's inner codes: empty, or it holds the one code -/
def TabG (P : Addr) (line col : Int) (qual : Str) (led : List (Addr × Obj)) : Prop :=
  led = [(P, tabObj #[])] ∨ ∃ c' oc vs t, led = [(P, tabObj #[rawInt line, rawInt col, .ref c']), (c', oc)] ∧ oc.data = .fields vs ∧ vs[1]? = some (.str qual t) ∧ P ≠ c'

section
variable {M : Model} {A : Around} {E : Value → Shared → Prop} {s : Shared} {h₀ : Heap} {L a c P : Addr} {m mg mb : Str → Option Value} {cn : Str} {cs : Scope} {ccd : Value} {cl : List (Str × Addr)} {news : List (Addr × Obj)}
  {p : Program} {loose : List Str} {mean : ExcName → Option Value} {name qual : Str} {params : Arguments} {body : List Stmt} {scope : Scope} {pos : Pos} {firstLine : Nat} {clos : List (Str × Addr)} {T37 : List (Addr × Obj)}

theorem nest_any {Q : Value → Shared → Prop} {own : List (Addr × Obj)} (F : Fr h₀ L s.heap m) (N : News h₀ L s.heap (T37 ++ (own ++ news))) (T : Top p loose mean mg mb h₀) (C : CodeHd h₀ c P) (hcd : ccd = .ref c) (G : TabG P pos.line pos.col qual T37) (hne : ∀ q ∈ own ++ news, q.1 ≠ P) (hown : ∀ q ∈ own, ∀ p ∈ T37, p.1 < q.1)
    (hcl : closureFor scope (envX cn cs L a ccd cl) = pure clos)
    (h : ∀ f c' oc vs t ctv doc h' tk, Fr h₀ L h' m →
      News h₀ L h' ((f, fnMade name qual params body scope clos doc ((mg "__name__").getD .none) c' ctv) :: (P, tabObj #[rawInt pos.line, rawInt pos.col, .ref c']) :: (c', oc) :: (own ++ news)) →
      oc.data = .fields vs → vs[1]? = some (.str qual t) → P ≠ c' → (∀ q ∈ own ++ news, q.1 < f) → c' < f → P < f → (∀ q ∈ own, q.1 ≠ c') → Q (.ref f) { s with heap := h', toks := tk }) :
    wpAny M A (makeFunction name qual params (.stmts body) scope (envX cn cs L a ccd cl) [] [] [] pos firstLine) Q E s := by
  rcases G with rfl | ⟨c', oc, vs, t, rfl, hd, hv, hpc⟩
  · refine nest_K (ps := #[]) F N T C hcd (UpdF.head hne) trivial rfl hcl fun f c' oc vs t ctv doc h' tk F' N' hd hv hlt hlt2 => ?_
    have hP : P < c' := hlt (P, tabObj #[]) (.head _)
    refine h f c' oc vs t ctv doc h' tk F' (fun q hq => N' q ?_) hd hv (Nat.ne_of_lt hP) (fun q hq => Nat.lt_trans (hlt q (.tail _ hq)) hlt2) hlt2 (Nat.lt_trans hP hlt2) (fun q hq => Nat.ne_of_lt (hlt q (List.mem_cons_of_mem _ (List.mem_append_left news hq))))
    rcases List.mem_cons.mp hq with rfl | hq
    · exact .head _
    · rcases List.mem_cons.mp hq with rfl | hq
      · exact .tail _ (.tail _ (.head _))
      · rcases List.mem_cons.mp hq with rfl | hq
        · exact .tail _ (.head _)
        · exact .tail _ (.tail _ (.tail _ hq))
  · refine nestHit_K (ps := #[rawInt pos.line, rawInt pos.col, .ref c']) (c' := c') F N T C hcd (.head _) (by simp [TriplesOk, rawInt]) (by simp [codeAmong, rawInt]) hcl fun f ctv doc h' tk F' N' hlt => ?_
    refine h f c' oc vs t ctv doc h' tk F' (fun q hq => N' q ?_) hd hv hpc (fun q hq => hlt q (.tail _ (.tail _ hq))) (hlt _ (.tail _ (.head _))) (hlt _ (.head _)) (fun q hq => Nat.ne_of_gt (hown q hq _ (.tail _ (.head _))))
    exact hq
end

section
variable {σ D : Type} {prog : Program} {w : World} {K : Frag} {p : Program} {loose : List Str} {mean : ExcName → Option Value} {mg mb : Str → Option Value} {f : Addr}
/-- what a call of f tells, over a state of the ledger -/
def TellsR (prog : Program) (w : World) (K : Frag) (p : Program) (loose : List Str) (mean : ExcName → Option Value) (mg mb : Str → Option Value) (f : Addr) (Led : σ → List (Addr × Obj)) (args : D → List Value → Prop) (Pre : D → σ → Prop) (Post : D → σ → Value → σ → Prop) (sz : D → Nat) (d : D) : Prop :=
  ∀ (dp un : Nat) (gd : Option (List Code)) (cn : Str) (cs : Scope) (a : Addr) (ccd : Value) (cl : List (Str × Addr)) (outer : List Env) (A₀ : Around) (base h₀ : Heap) (L : Addr) (m : Str → Option Value) (s : Shared) (as : List Value) (c : σ) (Q E : Value → Shared → Prop),
    Below A₀ base outer h₀ → Fr h₀ L s.heap m → K.In h₀ → News h₀ L s.heap (Led c) → Top p loose mean mg mb h₀ → cs.kind = .function → args d as → Pre d c → dp + sz d < recursionLimit → un + 8 * sz d < cLine →
    (∀ r c' h' tk', Fr h₀ L h' m → News h₀ L h' (Led c') → Post d c r c' → Q r { s with heap := h', toks := tk' }) →
    wpAny (model prog w) (ktrTop dp un gd cn cs L a ccd cl outer) (call (.ref f) as) Q E s
theorem tellsR_of {Led : σ → List (Addr × Obj)} {args : D → List Value → Prop} {Pre : D → σ → Prop} {Post : D → σ → Value → σ → Prop} {sz : D → Nat}
    (step : ∀ d, (∀ d', sz d' < sz d → TellsR prog w K p loose mean mg mb f Led args Pre Post sz d') → TellsR prog w K p loose mean mg mb f Led args Pre Post sz d) : ∀ d, TellsR prog w K p loose mean mg mb f Led args Pre Post sz d := by
  have all : ∀ n, ∀ d, sz d < n → TellsR prog w K p loose mean mg mb f Led args Pre Post sz d := by
    intro n
    induction n with
    | zero => intro d h; exact absurd h (Nat.not_lt_zero _)
    | succ n ih => exact fun d h => step d fun d' h' => ih d' (Nat.lt_of_lt_of_le h' (Nat.le_of_lt_succ h))
  exact fun d => all _ d (Nat.lt_succ_self _)
theorem tellsR_use {Led : σ → List (Addr × Obj)} {args : D → List Value → Prop} {Pre : D → σ → Prop} {Post : D → σ → Value → σ → Prop} {sz : D → Nat} {d : D} {dp un : Nat} {gd : Option (List Code)} {cn : Str} {cs : Scope} {a : Addr} {ccd : Value} {cl : List (Str × Addr)} {outer : List Env} {A₀ : Around} {base h₀ : Heap} {L : Addr} {m : Str → Option Value} {s : Shared} {as : List Value} {c : σ} {Q E : Value → Shared → Prop}
    (C : TellsR prog w K p loose mean mg mb f Led args Pre Post sz d)
    (B : Below A₀ base outer h₀) (F : Fr h₀ L s.heap m) (X : K.In h₀) (N : News h₀ L s.heap (Led c)) (T : Top p loose mean mg mb h₀) (hk : cs.kind = .function) (ha : args d as) (hp : Pre d c) (hd : dp + sz d < recursionLimit) (hu : un + 8 * sz d < cLine)
    (ret : ∀ r c' h' tk', Fr h₀ L h' m → News h₀ L h' (Led c') → Post d c r c' → Q r { s with heap := h', toks := tk' }) :
    wpAny (model prog w) (ktrTop dp un gd cn cs L a ccd cl outer) (call (.ref f) as) Q E s := C _ _ _ _ _ _ _ _ _ _ _ _ _ _ _ _ _ _ _ B F X N T hk ha hp hd hu ret
end
end Mine
theorem Mine.part1 : True := by
  k_with_none
  w_top off
  exact True.intro
end
section
open PySem PySem.W PyProof.Rows
namespace Mine
/-- the number of a row of digits, the least first -/
noncomputable def dval (n : Nat) : List Int → Int
  | [] => 0
  | x :: r => x + 2 ^ n * dval n r
theorem dval_append (n : Nat) : ∀ (xs ys : List Int), dval n (xs ++ ys) = dval n xs + 2 ^ (n * xs.length) * dval n ys
  | [], ys => by simp [dval]
  | x :: r, ys => by
    have ih := dval_append n r ys
    rw [List.cons_append, dval, dval, ih, List.length_cons, Nat.mul_add, Nat.mul_one, Int.pow_add, Int.mul_add, Int.mul_comm ((2:Int) ^ (n * r.length)) (2 ^ n), Int.mul_assoc]
    omega
theorem pow2_pos (k : Nat) : (0 : Int) < 2 ^ k := Int.pow_pos (by decide)
theorem dval_bound {n : Nat} : ∀ {xs : List Int}, (∀ x ∈ xs, 0 ≤ x ∧ x < 2 ^ n) → 0 ≤ dval n xs ∧ dval n xs < 2 ^ (n * xs.length)
  | [], _ => by simp [dval]
  | x :: r, h => by
    have ih := dval_bound (n := n) (xs := r) fun y hy => h y (List.mem_cons_of_mem _ hy)
    have hx := h x (List.mem_cons_self)
    have hp := pow2_pos n
    have h1 : 0 ≤ 2 ^ n * dval n r := Int.mul_nonneg (Int.le_of_lt hp) ih.1
    have h2 : 2 ^ n * (dval n r + 1) ≤ 2 ^ n * 2 ^ (n * r.length) := Int.mul_le_mul_of_nonneg_left ih.2 (Int.le_of_lt hp)
    rw [← Int.pow_add] at h2
    rw [List.length_cons, dval]
    have e : n * (r.length + 1) = n + n * r.length := by rw [Nat.mul_add]; omega
    rw [e]
    rw [Int.mul_add] at h2
    omega
theorem toNat_pow2 (k : Nat) : ((2 : Int) ^ k).toNat = 2 ^ k := by
  have : ((2 : Int) ^ k) = ((2 ^ k : Nat) : Int) := by simp
  rw [this]; rfl
theorem bits_of {x : Int} {k : Nat} (h0 : 0 ≤ x) (h1 : x < 2 ^ k) : Builtin.Int.intBits x ≤ k := by
  rw [intBits_le_iff]
  have := toNat_pow2 k
  omega
theorem dval_bits {n : Nat} {xs : List Int} (h : ∀ x ∈ xs, 0 ≤ x ∧ x < 2 ^ n) : Builtin.Int.intBits (dval n xs) ≤ n * xs.length := bits_of (dval_bound h).1 (dval_bound h).2
/-- the digits from lo up to hi -/
def cut (xs : List Int) (lo hi : Nat) : List Int := (xs.drop lo).take (hi - lo)
theorem cut_mem {xs : List Int} {lo hi : Nat} {x : Int} (h : x ∈ cut xs lo hi) : x ∈ xs := List.mem_of_mem_drop (List.mem_of_mem_take h)
theorem cut_len {xs : List Int} {lo hi : Nat} (h2 : hi ≤ xs.length) : (cut xs lo hi).length = hi - lo := by simp [cut]; omega
theorem cut_one {xs : List Int} {lo : Nat} (h : lo < xs.length) : cut xs lo (lo + 1) = [xs.getD lo 0] := by
  have e : lo + 1 - lo = 1 := by omega
  rw [cut, e, List.drop_eq_getElem_cons h, List.take_succ_cons, List.take_zero, List.getD_eq_getElem?_getD, List.getElem?_eq_getElem h]
  rfl
theorem cut_split {xs : List Int} {lo mid hi : Nat} (h1 : lo ≤ mid) (h2 : mid ≤ hi) : cut xs lo hi = cut xs lo mid ++ cut xs mid hi := by
  unfold cut
  have e : hi - lo = (mid - lo) + (hi - mid) := by omega
  rw [e, List.take_add, List.drop_drop]
  have e2 : lo + (mid - lo) = mid := by omega
  rw [e2]
theorem cut_whole {xs : List Int} : cut xs 0 xs.length = xs := by simp [cut]
theorem dval_cut {n : Nat} {xs : List Int} {lo mid hi : Nat} (h1 : lo ≤ mid) (h2 : mid ≤ hi) (h3 : hi ≤ xs.length) : dval n (cut xs lo hi) = dval n (cut xs mid hi) * 2 ^ (n * (mid - lo)) + dval n (cut xs lo mid) := by
  rw [cut_split h1 h2, dval_append, cut_len (by omega), Int.mul_comm, Int.add_comm]
theorem mid_eq (lo hi : Nat) : ((lo : Int) + hi).fdiv (2 ^ (1 : Int).toNat) = (((lo + hi) / 2 : Nat) : Int) := by
  have : (2 : Int) ^ (1 : Int).toNat = 2 := rfl
  rw [this, Int.fdiv_eq_ediv_of_nonneg _ (by decide)]
  omega
theorem shift_eq {lo mid : Nat} {n : Int} (h : lo ≤ mid) (hn : 0 ≤ n) : (((mid : Int) - lo) * n).toNat = n.toNat * (mid - lo) := by
  have e : ((mid : Int) - lo) * n = ((n.toNat * (mid - lo) : Nat) : Int) := by
    rw [Int.natCast_mul, Int.toNat_of_nonneg hn, Int.mul_comm, Int.natCast_sub h]
  rw [e]; rfl
theorem shift_facts {lo up : Nat} {n x : Int} (h : lo ≤ up) (hu : up ≤ 20) (hn : 0 < n) (hn1 : n ≤ 100) (hx : Builtin.Int.intBits x ≤ 3000) :
    0 ≤ (((lo : Int) + up).fdiv (2 ^ (1 : Int).toNat) - lo) * n ∧ (Builtin.Int.intBits x : Int) + (((lo : Int) + up).fdiv (2 ^ (1 : Int).toNat) - lo) * n ≤ 2 ^ 27 ∧
      ((((lo : Int) + up).fdiv (2 ^ (1 : Int).toNat) - lo) * n).toNat = n.toNat * ((lo + up) / 2 - lo) := by
  rw [mid_eq]
  have hm : lo ≤ (lo + up) / 2 := by omega
  have e := shift_eq hm (Int.le_of_lt hn)
  have h0 : 0 ≤ ((((lo + up) / 2 : Nat) : Int) - lo) * n := Int.mul_nonneg (by omega) (Int.le_of_lt hn)
  refine ⟨h0, ?_, e⟩
  have h1 : n.toNat * ((lo + up) / 2 - lo) ≤ 100 * 20 := Nat.mul_le_mul (by omega) (by omega)
  have e27 : (2 : Int) ^ 27 = 134217728 := by decide
  omega
theorem count_eq {x n : Int} (hn : 0 < n) : (((Builtin.Int.intBits x : Int) + n - 1).fdiv n) = (((Builtin.Int.intBits x + n.toNat - 1) / n.toNat : Nat) : Int) := by
  rw [Int.fdiv_eq_ediv_of_nonneg _ (Int.le_of_lt hn)]
  have e : n = (n.toNat : Int) := by omega
  have h1 : ((Builtin.Int.intBits x : Int) + n - 1) = ((Builtin.Int.intBits x + n.toNat - 1 : Nat) : Int) := by omega
  rw [h1, Int.natCast_ediv]
  exact congrArg _ e
theorem count_facts {x n : Int} (hn : 0 < n) (hx : Builtin.Int.intBits x ≤ n.toNat * 20) :
    0 ≤ (((Builtin.Int.intBits x : Int) + n - 1).fdiv n) ∧ (((Builtin.Int.intBits x : Int) + n - 1).fdiv n) ≤ 20 := by
  rw [count_eq hn]
  refine ⟨Int.natCast_nonneg _, ?_⟩
  have h2 : (Builtin.Int.intBits x + n.toNat - 1) / n.toNat < 21 := by
    rw [Nat.div_lt_iff_lt_mul (by omega)]
    omega
  exact Int.ofNat_le.mpr (Nat.le_of_lt_succ h2)
theorem nat_and_high (n k : Nat) : n &&& (n / 2 ^ k * 2 ^ k) = n / 2 ^ k * 2 ^ k := by
  apply Nat.eq_of_testBit_eq
  intro i
  rw [Nat.testBit_and, Nat.testBit_mul_two_pow]
  by_cases h : k ≤ i
  · have e : i - k + k = i := by omega
    simp [h, Nat.testBit_div_two_pow, e]
  · simp [h]
theorem xor_low {x : Int} (h : 0 ≤ x) (k : Nat) : Builtin.bitXor x (x.fdiv (2 ^ k) * 2 ^ k) = x % 2 ^ k := by
  have hp := pow2_pos k
  rw [Int.fdiv_eq_ediv_of_nonneg _ (Int.le_of_lt hp), bitXor_and]
  have h1 : 0 ≤ x / 2 ^ k := Int.ediv_nonneg h (Int.le_of_lt hp)
  have h2 : 0 ≤ x / 2 ^ k * 2 ^ k := Int.mul_nonneg h1 (Int.le_of_lt hp)
  have h3 : (x / 2 ^ k * 2 ^ k).toNat = x.toNat / 2 ^ k * 2 ^ k := by
    have e1 : x = (x.toNat : Int) := by omega
    have e2 : ((x.toNat / 2 ^ k * 2 ^ k : Nat) : Int) = x / 2 ^ k * 2 ^ k := by
      rw [Int.natCast_mul, Int.natCast_ediv, ← e1]
      simp
    rw [← e2]; rfl
  have h4 : Builtin.bitAnd x (x / 2 ^ k * 2 ^ k) = x / 2 ^ k * 2 ^ k := by
    rw [bitAnd_pp h h2, h3, nat_and_high, ← h3]
    omega
  rw [h4]
  have := Int.emod_def x (2 ^ k)
  rw [Int.mul_comm] at this
  omega
theorem low_bounds {x : Int} (k : Nat) : 0 ≤ x % 2 ^ k ∧ x % 2 ^ k < 2 ^ k := ⟨Int.emod_nonneg _ (Int.ne_of_gt (pow2_pos k)), Int.emod_lt_of_pos _ (pow2_pos k)⟩
theorem high_bounds {x : Int} {k j : Nat} (h0 : 0 ≤ x) (h1 : x < 2 ^ (k + j)) : 0 ≤ x.fdiv (2 ^ k) ∧ x.fdiv (2 ^ k) < 2 ^ j := by
  have hp := pow2_pos k
  rw [Int.fdiv_eq_ediv_of_nonneg _ (Int.le_of_lt hp)]
  refine ⟨Int.ediv_nonneg h0 (Int.le_of_lt hp), ?_⟩
  refine Int.ediv_lt_of_lt_mul hp ?_
  rw [Int.mul_comm, ← Int.pow_add]
  exact h1
theorem low_high {x : Int} (k : Nat) : x % 2 ^ k + 2 ^ k * x.fdiv (2 ^ k) = x := by
  have hp := pow2_pos k
  rw [Int.fdiv_eq_ediv_of_nonneg _ (Int.le_of_lt hp)]
  exact Int.emod_add_mul_ediv x (2 ^ k)
/-- the row ds with ys laid over its places from lo on -/
def put (ds : List Int) (lo : Nat) (ys : List Int) : List Int := ds.take lo ++ ys ++ ds.drop (lo + ys.length)
theorem put_length {ds ys : List Int} {lo : Nat} (h : lo + ys.length ≤ ds.length) : (put ds lo ys).length = ds.length := by
  simp [put]; omega
theorem put_one {ds : List Int} {lo : Nat} {x : Int} (h : lo < ds.length) : ds.set lo x = put ds lo [x] := by
  rw [put, List.set_eq_take_append_cons_drop, if_pos h]
  simp
theorem put_put {ds ys zs : List Int} {lo mid : Nat} (hm : mid = lo + ys.length) (h : mid + zs.length ≤ ds.length) : put (put ds lo ys) mid zs = put ds lo (ys ++ zs) := by
  subst hm
  have h1 : (ds.take lo ++ ys).length = lo + ys.length := by simp; omega
  have e1 : (put ds lo ys).take (lo + ys.length) = ds.take lo ++ ys := by
    rw [put, List.take_append_of_le_length (Nat.le_of_eq h1.symm), List.take_of_length_le (Nat.le_of_eq h1)]
  have e2 : (put ds lo ys).drop (lo + ys.length + zs.length) = ds.drop (lo + (ys ++ zs).length) := by
    rw [put, List.drop_append, h1]
    have : (ds.take lo ++ ys).drop (lo + ys.length + zs.length) = [] := List.drop_eq_nil_of_le (by omega)
    rw [this, List.nil_append, List.drop_drop, List.length_append]
    congr 1
    omega
  rw [put, e1, e2, put, List.append_assoc (ds.take lo)]
theorem put_whole {ds ys : List Int} (h : ys.length = ds.length) : put ds 0 ys = ys := by
  simp [put, h]
theorem bits_pos {x : Int} (h : 0 < x) : 0 < Builtin.Int.intBits x := by
  unfold Builtin.Int.intBits
  have : (x == 0) = false := by simp; omega
  rw [this]; simp
theorem count_pos {x n : Int} (hn : 0 < n) (hx : 0 < x) : 0 < (Builtin.Int.intBits x + n.toNat - 1) / n.toNat := by
  have := bits_pos hx
  exact Nat.div_pos (by omega) (by omega)
theorem lt_count {x n : Int} (hn : 0 < n) (hx : 0 < x) : x < 2 ^ (n.toNat * ((Builtin.Int.intBits x + n.toNat - 1) / n.toNat)) := by
  have h1 : Builtin.Int.intBits x ≤ n.toNat * ((Builtin.Int.intBits x + n.toNat - 1) / n.toNat) := by
    have h2 := Nat.div_add_mod (Builtin.Int.intBits x + n.toNat - 1) n.toNat
    have h3 := Nat.mod_lt (Builtin.Int.intBits x + n.toNat - 1) (y := n.toNat) (by omega)
    omega
  have h4 := intBits_le_iff.mp h1
  have h5 := toNat_pow2 (n.toNat * ((Builtin.Int.intBits x + n.toNat - 1) / n.toNat))
  omega
theorem mul_le2 {a b : Nat} (ha : a ≤ 100) (hb : b ≤ 20) : a * b ≤ 3000 := Nat.le_trans (Nat.mul_le_mul ha hb) (by decide)
/-- the number of a row of digits, the greatest first -/
def mval (n : Nat) (xs : List Int) : Int := xs.foldl (fun a d => a * 2 ^ n + d) 0
theorem mval_snoc (n : Nat) (xs : List Int) (d : Int) : mval n (xs ++ [d]) = mval n xs * 2 ^ n + d := by simp [mval, List.foldl_append]
theorem dval_reverse (n : Nat) : ∀ xs : List Int, dval n xs = mval n xs.reverse
  | [] => rfl
  | x :: r => by
    rw [List.reverse_cons, mval_snoc, ← dval_reverse n r, dval, Int.mul_comm]
    omega
theorem step_div {n : Nat} {y r d : Int} (h0 : 0 ≤ r) (h1 : r < y) (d0 : 0 ≤ d) (d1 : d < 2 ^ n) :
    0 ≤ (r * 2 ^ n + d).fdiv y ∧ (r * 2 ^ n + d).fdiv y < 2 ^ n ∧ 0 ≤ (r * 2 ^ n + d).fmod y ∧ (r * 2 ^ n + d).fmod y < y ∧ (r * 2 ^ n + d) = (r * 2 ^ n + d).fdiv y * y + (r * 2 ^ n + d).fmod y := by
  have hy : 0 < y := by omega
  have hp := pow2_pos n
  have hz : 0 ≤ r * 2 ^ n + d := by
    have := Int.mul_nonneg h0 (Int.le_of_lt hp)
    omega
  have hlt : r * 2 ^ n + d < 2 ^ n * y := by
    have h2 : (r + 1) * 2 ^ n ≤ y * 2 ^ n := Int.mul_le_mul_of_nonneg_right h1 (Int.le_of_lt hp)
    rw [Int.add_mul, Int.one_mul] at h2
    rw [Int.mul_comm (2 ^ n) y]
    omega
  refine ⟨?_, ?_, Int.fmod_nonneg_of_pos _ hy, Int.fmod_lt_of_pos _ hy, ?_⟩
  · rw [Int.fdiv_eq_ediv_of_nonneg _ (Int.le_of_lt hy)]
    exact Int.ediv_nonneg hz (Int.le_of_lt hy)
  · rw [Int.fdiv_eq_ediv_of_nonneg _ (Int.le_of_lt hy)]
    exact Int.ediv_lt_of_lt_mul hy hlt
  · have := Int.fmod_add_mul_fdiv (r * 2 ^ n + d) y
    rw [Int.mul_comm y] at this
    omega
theorem step_mval {n : Nat} {y r d : Int} {pre qi : List Int} (h : mval n pre = mval n qi * y + r) (hd : (r * 2 ^ n + d) = (r * 2 ^ n + d).fdiv y * y + (r * 2 ^ n + d).fmod y) :
    mval n (pre ++ [d]) = mval n (qi ++ [(r * 2 ^ n + d).fdiv y]) * y + (r * 2 ^ n + d).fmod y := by
  rw [mval_snoc, mval_snoc, h, Int.add_mul, Int.add_mul]
  have e : mval n qi * y * 2 ^ n = mval n qi * 2 ^ n * y := by rw [Int.mul_assoc, Int.mul_comm y, ← Int.mul_assoc]
  rw [e]
  omega
end Mine
theorem Mine.part2 : True := by
  k_with_none
  w_top off
  exact True.intro
end
section
open PySem PySem.W PyProof.Rows
namespace Mine
/-- the sums from the front, a what stands before -/
noncomputable def psum : Int → List Int → List Int
  | _, [] => []
  | a, x :: r => (a + x) :: psum (a + x) r
theorem psum_length : ∀ (a : Int) (xs : List Int), (psum a xs).length = xs.length
  | _, [] => rfl
  | a, x :: r => by simp [psum, psum_length]
theorem psum_snoc : ∀ (a : Int) (xs : List Int) (x : Int), psum a (xs ++ [x]) = psum a xs ++ [a + xs.sum + x]
  | a, [], x => by simp [psum]
  | a, y :: r, x => by
    simp only [List.cons_append, psum, psum_snoc, List.sum_cons]
    congr 3
    omega
theorem psum_bound {b : Int} : ∀ {a : Int} {xs : List Int}, 0 ≤ a → (∀ x ∈ xs, 0 ≤ x) → a + xs.sum < b → ∀ y ∈ psum a xs, 0 ≤ y ∧ y < b
  | _, [], _, _, _ => by simp [psum]
  | a, x :: r, ha, h, hb => by
    intro y hy
    have hx := h x List.mem_cons_self
    have hr : 0 ≤ r.sum := by
      have : ∀ l : List Int, (∀ z ∈ l, 0 ≤ z) → 0 ≤ l.sum := by
        intro l
        induction l with
        | nil => intro _; exact Int.le_refl _
        | cons z l ih => intro h; rw [List.sum_cons]; have := h z List.mem_cons_self; have := ih fun q hq => h q (List.mem_cons_of_mem _ hq); omega
      exact this r fun z hz => h z (List.mem_cons_of_mem _ hz)
    rw [List.sum_cons] at hb
    rcases List.mem_cons.mp hy with rfl | hy
    · omega
    · exact psum_bound (a := a + x) (by omega) (fun z hz => h z (List.mem_cons_of_mem _ hz)) (by omega) y hy
/-- the quotient of a row by the width's power less one: its sums; the rest: the last sum -/
theorem row_key (w : Nat) : ∀ xs : List Int, mval w xs * 2 ^ w = mval w (psum 0 xs) * (2 ^ w - 1) + xs.sum := by
  intro xs
  have h : ∀ ys : List Int, mval w ys.reverse * 2 ^ w = mval w (psum 0 ys.reverse) * (2 ^ w - 1) + ys.reverse.sum := by
    intro ys
    induction ys with
    | nil => simp [mval, psum]
    | cons x r ih =>
      rw [List.reverse_cons, mval_snoc, psum_snoc, mval_snoc, List.sum_append]
      generalize mval w r.reverse = M at ih ⊢
      generalize mval w (psum 0 r.reverse) = K at ih ⊢
      generalize r.reverse.sum = S at ih ⊢
      generalize (2 : Int) ^ w = B at ih ⊢
      have e1 : (M * B + x) * B = (K * (B - 1) + S + x) * B := by rw [ih]
      rw [e1]
      simp only [Int.add_mul, Int.mul_sub, Int.mul_one, List.sum_cons, List.sum_nil, Int.add_zero, Int.zero_add, Int.sub_mul]
      have e2 : K * B * B = K * B * B := rfl
      omega
  have := h xs.reverse
  rwa [List.reverse_reverse] at this
theorem div_unique {q r q' r' b : Int} (h : q * b + r = q' * b + r') (h0 : 0 ≤ r) (h1 : r < b) (h2 : 0 ≤ r') (h3 : r' < b) : q = q' ∧ r = r' := by
  have hb : 0 < b := by omega
  have e : (q - q') * b = r' - r := by rw [Int.sub_mul]; omega
  rcases Int.lt_trichotomy q q' with hlt | heq | hgt
  · have : (q' - q) * b ≥ 1 * b := Int.mul_le_mul_of_nonneg_right (by omega) (Int.le_of_lt hb)
    have e2 : (q' - q) * b = -((q - q') * b) := by rw [← Int.neg_mul]; congr 1; omega
    omega
  · subst heq
    simp at e
    exact ⟨rfl, by omega⟩
  · have : (q - q') * b ≥ 1 * b := Int.mul_le_mul_of_nonneg_right (by omega) (Int.le_of_lt hb)
    omega
/-- rows of digits of one length and one value are one -/
theorem dval_inj {n : Nat} : ∀ {xs ys : List Int}, xs.length = ys.length → (∀ x ∈ xs, 0 ≤ x ∧ x < 2 ^ n) → (∀ y ∈ ys, 0 ≤ y ∧ y < 2 ^ n) → dval n xs = dval n ys → xs = ys
  | [], [], _, _, _, _ => rfl
  | x :: r, y :: t, hl, hx, hy, e => by
    have h1 := hx x List.mem_cons_self
    have h2 := hy y List.mem_cons_self
    simp only [dval] at e
    have := div_unique (q := dval n r) (r := x) (q' := dval n t) (r' := y) (b := 2 ^ n) (by rw [Int.mul_comm _ (2 ^ n), Int.mul_comm (dval n t)]; omega) h1.1 h1.2 h2.1 h2.2
    rw [this.2, dval_inj (by simpa using hl) (fun z hz => hx z (List.mem_cons_of_mem _ hz)) (fun z hz => hy z (List.mem_cons_of_mem _ hz)) this.1]
theorem mval_head {n : Nat} {x : Int} {r : List Int} (hx : 0 < x) (hr : ∀ y ∈ r, 0 ≤ y) : 2 ^ (n * r.length) ≤ mval n (x :: r) := by
  have h : ∀ ys : List Int, (∀ y ∈ ys, 0 ≤ y) → 2 ^ (n * ys.length) ≤ mval n (x :: ys.reverse) := by
    intro ys
    induction ys with
    | nil => intro _; simp [mval]; omega
    | cons y t ih =>
      intro hy
      have h1 := ih fun z hz => hy z (List.mem_cons_of_mem _ hz)
      rw [List.reverse_cons, ← List.cons_append, mval_snoc, List.length_cons, Nat.mul_add, Nat.mul_one, Int.pow_add]
      have h2 := Int.mul_le_mul_of_nonneg_right h1 (Int.le_of_lt (pow2_pos n))
      have := hy y List.mem_cons_self
      omega
  have := h r.reverse fun y hy => hr y (List.mem_reverse.mp hy)
  rwa [List.reverse_reverse, List.length_reverse] at this
theorem bits_ge {x : Int} {k : Nat} (h : 2 ^ k ≤ x) : k < Builtin.Int.intBits x := by
  have h0 := pow2_pos k
  by_cases hlt : k < Builtin.Int.intBits x
  · exact hlt
  · exfalso
    have h1 := intBits_le_iff.mp (Nat.le_of_not_lt hlt)
    have := toNat_pow2 k
    omega
theorem count_of {x : Int} {n len : Nat} (hn : 0 < n) (h1 : 2 ^ (n * len) ≤ x) (h2 : x < 2 ^ (n * (len + 1))) : (Builtin.Int.intBits x + n - 1) / n = len + 1 := by
  have a := bits_ge h1
  have b := bits_of (Int.le_trans (Int.le_of_lt (pow2_pos _)) h1) h2
  rw [Nat.mul_add, Nat.mul_one] at b
  have e1 : (len + 1) * n = n * len + n := by rw [Nat.add_mul, Nat.one_mul, Nat.mul_comm]
  refine Nat.div_eq_of_lt_le ?_ ?_
  · rw [e1]; omega
  · rw [Nat.succ_mul, e1]; omega
theorem bits_mask {w : Nat} (hw : 0 < w) : Builtin.Int.intBits ((2 : Int) ^ w - 1) = w := by
  have hp := pow2_pos (w - 1)
  have e : (2 : Int) ^ w = 2 ^ (w - 1) + 2 ^ (w - 1) := by
    have : w = (w - 1) + 1 := by omega
    conv => lhs; rw [this]
    rw [Int.pow_succ]; omega
  have a := bits_ge (x := 2 ^ w - 1) (k := w - 1) (by omega)
  have b := bits_of (x := 2 ^ w - 1) (k := w) (by omega) (by omega)
  omega
theorem sum_nonneg : ∀ {l : List Int}, (∀ z ∈ l, 0 ≤ z) → 0 ≤ l.sum
  | [], _ => Int.le_refl _
  | z :: l, h => by
    rw [List.sum_cons]
    have := h z List.mem_cons_self
    have := sum_nonneg (l := l) fun q hq => h q (List.mem_cons_of_mem _ hq)
    omega
theorem le_sum : ∀ {l : List Int}, (∀ z ∈ l, 0 ≤ z) → ∀ z ∈ l, z ≤ l.sum
  | z :: l, h, y, hy => by
    rw [List.sum_cons]
    have h1 := sum_nonneg (l := l) fun q hq => h q (List.mem_cons_of_mem _ hq)
    have h2 := h z List.mem_cons_self
    rcases List.mem_cons.mp hy with rfl | hy
    · omega
    · have := le_sum (l := l) (fun q hq => h q (List.mem_cons_of_mem _ hq)) y hy
      omega
theorem pow_le {a b : Nat} (h : a ≤ b) : (2 : Int) ^ a ≤ 2 ^ b := by
  have : b = a + (b - a) := by omega
  rw [this, Int.pow_add]
  have h1 := pow2_pos a
  have h2 := pow2_pos (b - a)
  have : (2 : Int) ^ a * 1 ≤ 2 ^ a * 2 ^ (b - a) := Int.mul_le_mul_of_nonneg_left (by omega) (Int.le_of_lt h1)
  omega
theorem row_step {w : Nat} {x : Int} {r : List Int} (hw : 25 ≤ w) (hx : 0 < x) (h0 : ∀ y ∈ x :: r, 0 ≤ y) (hs : (x :: r).sum < 33554431) (hlen : (x :: r).length ≤ 19) :
    0 < dval w (0 :: (x :: r).reverse) ∧ Builtin.Int.intBits (dval w (0 :: (x :: r).reverse)) ≤ w * 20 ∧ (∀ z ∈ 0 :: (x :: r).reverse, 0 ≤ z ∧ z < 2 ^ w) ∧
      ∀ q t, dval w (0 :: (x :: r).reverse) = q * (2 ^ w - 1) + t → 0 ≤ t → t < 2 ^ w - 1 →
        t = (x :: r).sum ∧ 0 < q ∧ Builtin.Int.intBits q ≤ w * 20 ∧ ∀ ns, dval w ns = q → (∀ y ∈ ns, 0 ≤ y ∧ y < 2 ^ w) → ns.length = (Builtin.Int.intBits q + w - 1) / w → ns.reverse = psum 0 (x :: r) := by
  have h25 : (2 : Int) ^ 25 ≤ 2 ^ w := pow_le hw
  have e25 : (2 : Int) ^ 25 = 33554432 := by decide
  have hb : ∀ z ∈ 0 :: (x :: r).reverse, 0 ≤ z ∧ z < 2 ^ w := by
    intro z hz
    rcases List.mem_cons.mp hz with rfl | hz
    · omega
    · have hz := List.mem_reverse.mp hz
      have := le_sum h0 z hz
      have := h0 z hz
      omega
  have hwhole : dval w (0 :: (x :: r).reverse) = mval w (x :: r) * 2 ^ w := by
    rw [dval, dval_reverse, List.reverse_reverse, Int.mul_comm]; omega
  have hpos := mval_head (n := w) hx (fun y hy => h0 y (List.mem_cons_of_mem _ hy))
  have hp0 := pow2_pos (w * r.length)
  have hps := psum_bound (a := 0) (b := 2 ^ w) (xs := x :: r) (Int.le_refl _) h0 (by omega)
  have hpe : psum 0 (x :: r) = x :: psum (0 + x) r := by simp [psum]
  have hph : 2 ^ (w * r.length) ≤ mval w (psum 0 (x :: r)) := by
    rw [hpe]
    have := mval_head (n := w) (x := x) (r := psum (0 + x) r) hx (fun y hy => (hps y (by rw [hpe]; exact List.mem_cons_of_mem _ hy)).1)
    rwa [psum_length] at this
  have hpl : (psum 0 (x :: r)).length = r.length + 1 := by rw [psum_length, List.length_cons]
  have hpd : mval w (psum 0 (x :: r)) = dval w (psum 0 (x :: r)).reverse := by rw [dval_reverse, List.reverse_reverse]
  have hpu : mval w (psum 0 (x :: r)) < 2 ^ (w * (r.length + 1)) := by
    rw [hpd]
    have := (dval_bound (n := w) (xs := (psum 0 (x :: r)).reverse) fun y hy => hps y (List.mem_reverse.mp hy)).2
    rwa [List.length_reverse, hpl] at this
  refine ⟨?_, ?_, hb, ?_⟩
  · rw [hwhole]
    exact Int.mul_pos (by omega) (pow2_pos w)
  · refine Nat.le_trans (dval_bits hb) (Nat.mul_le_mul_left w ?_)
    simp at hlen ⊢
    omega
  · intro q t e t0 t1
    rw [hwhole, row_key] at e
    obtain ⟨e1, e2⟩ := div_unique e (sum_nonneg h0) (by omega) t0 t1
    subst e1
    refine ⟨e2.symm, by omega, ?_, ?_⟩
    · refine Nat.le_trans (bits_of (by omega) hpu) (Nat.mul_le_mul_left w ?_)
      simp at hlen
      omega
    · intro ns e3 hns hl
      rw [count_of (by omega) hph hpu] at hl
      have := dval_inj (n := w) (xs := ns) (ys := (psum 0 (x :: r)).reverse) (by rw [hl, List.length_reverse, hpl]) hns (fun y hy => hps y (List.mem_reverse.mp hy)) (by rw [e3, hpd])
      rw [this, List.reverse_reverse]
/-- one turn over the gaps: the new row, the new gaps, the new finals -/
noncomputable def strike (sums : List Int) : List Int → Nat → List Int → List Int × List Int × List Int
  | g :: gs, k, f :: fs =>
    if 0 < g then
      let t := strike sums gs (k + g.toNat) fs
      ((sums.drop k).take (g.toNat - 1) ++ t.1, (g - 1) :: t.2.1, sums.getD (k + g.toNat - 1) 0 :: t.2.2)
    else
      let t := strike sums gs k fs
      (t.1, g :: t.2.1, f :: t.2.2)
  | gs, _, fs => ([], gs, fs)
def okRow : List Int → Bool
  | [] => true
  | x :: r => decide (0 < x) && (x :: r).all (fun y => decide (0 ≤ y)) && decide ((x :: r).sum < 33554431) && decide ((x :: r).length ≤ 19)
/-- the struck numbers, by so many rounds at most -/
noncomputable def run : Nat → List Int → List Int → List Int → Option (List Int)
  | 0, _, _, _ => none
  | f + 1, row, gaps, finals =>
    if row = [] then some finals
    else if okRow row && gaps.all (fun g => decide (0 ≤ g)) && decide (gaps.sum ≤ row.length) then
      let t := strike (psum 0 row) gaps 0 finals
      run f t.1 t.2.1 t.2.2
    else none
theorem run_cases {f : Nat} {row gaps finals out : List Int} (h : run f row gaps finals = some out) :
    (row = [] ∧ finals = out) ∨ ∃ f' x r, f = f' + 1 ∧ row = x :: r ∧ 0 < x ∧ (∀ y ∈ row, 0 ≤ y) ∧ row.sum < 33554431 ∧ row.length ≤ 19 ∧ (∀ g ∈ gaps, 0 ≤ g) ∧ gaps.sum ≤ row.length ∧
      run f' (strike (psum 0 row) gaps 0 finals).1 (strike (psum 0 row) gaps 0 finals).2.1 (strike (psum 0 row) gaps 0 finals).2.2 = some out := by
  cases f with
  | zero => cases h
  | succ f =>
    unfold run at h
    cases row with
    | nil => simp at h; exact .inl ⟨rfl, h⟩
    | cons x r =>
      rw [if_neg (by simp)] at h
      split at h
      · rename_i hc
        simp only [okRow, Bool.and_eq_true, decide_eq_true_eq, List.all_eq_true] at hc
        obtain ⟨⟨⟨⟨⟨h1, h2⟩, h3⟩, h4⟩, h5⟩, h6⟩ := hc
        exact .inr ⟨f, x, r, rfl, rfl, h1, h2, h3, h4, h5, h6, h⟩
      · cases h
theorem strike_length (sums : List Int) : ∀ (gs : List Int) (k : Nat) (fs : List Int), fs.length = gs.length → (strike sums gs k fs).2.1.length = gs.length ∧ (strike sums gs k fs).2.2.length = gs.length
  | [], k, [], _ => ⟨rfl, rfl⟩
  | g :: gs, k, f :: fs, h => by
    have h' : fs.length = gs.length := by simpa using h
    unfold strike
    split
    · have := strike_length sums gs (k + g.toNat) fs h'
      simp [this.1, this.2]
    · have := strike_length sums gs k fs h'
      simp [this.1, this.2]
/-- what holds within a turn over the gaps, i of them done -/
structure SInv (sums R G Fs : List Int) (len i : Nat) (row fin gap : List Int) (k : Int) : Prop where
  e1 : row ++ (strike sums (gap.drop i) k.toNat (fin.drop i)).1 = R
  e2 : gap.take i ++ (strike sums (gap.drop i) k.toNat (fin.drop i)).2.1 = G
  e3 : fin.take i ++ (strike sums (gap.drop i) k.toNat (fin.drop i)).2.2 = Fs
  l1 : gap.length = len
  l2 : fin.length = len
  k0 : 0 ≤ k
  kb : k + (gap.drop i).sum ≤ sums.length
  rl : (row.length : Int) ≤ k
  nn : ∀ g ∈ gap, 0 ≤ g
theorem drop_cons {l : List Int} {i : Nat} (h : i < l.length) : l.drop i = l.getD i 0 :: l.drop (i + 1) := by
  rw [List.drop_eq_getElem_cons h, List.getD_eq_getElem?_getD, List.getElem?_eq_getElem h]
  rfl
theorem set_take {l : List Int} {i : Nat} {x : Int} (h : i < l.length) : (l.set i x).take (i + 1) = l.take i ++ [x] := by
  rw [List.set_eq_take_append_cons_drop, if_pos h]
  have h1 : (l.take i).length = i := by simp; omega
  rw [List.take_append, h1]
  have : i + 1 - i = 1 := by omega
  rw [this, List.take_of_length_le (by omega)]
  simp
theorem set_drop {l : List Int} {i : Nat} {x : Int} : (l.set i x).drop (i + 1) = l.drop (i + 1) := by
  rw [List.drop_set]
  simp
theorem take_succ {l : List Int} {i : Nat} (h : i < l.length) : l.take (i + 1) = l.take i ++ [l.getD i 0] := by
  rw [List.take_add_one, List.getD_eq_getElem?_getD, List.getElem?_eq_getElem h]
  rfl
section
variable {sums R G Fs : List Int} {len i : Nat} {row fin gap : List Int} {k : Int}
theorem SInv.start {row0 gaps fins : List Int} (hg : ∀ g ∈ gaps, 0 ≤ g) (hs : gaps.sum ≤ sums.length) (hl : fins.length = gaps.length) :
    SInv sums (strike sums gaps 0 fins).1 (strike sums gaps 0 fins).2.1 (strike sums gaps 0 fins).2.2 gaps.length 0 [] fins gaps 0 :=
  ⟨rfl, rfl, rfl, rfl, hl, Int.le_refl _, by simpa using hs, by simp, hg⟩
theorem SInv.small (h : SInv sums R G Fs len i row fin gap k) (hi : i < len) : gap.getD i 0 ≤ 0 → SInv sums R G Fs len (i + 1) row fin gap k := by
  intro hz
  obtain ⟨e1, e2, e3, l1, l2, k0, kb, rl, nn⟩ := h
  have hg := drop_cons (l := gap) (i := i) (by omega)
  have hf := drop_cons (l := fin) (i := i) (by omega)
  have ns : ¬ (0 < gap.getD i 0) := by omega
  rw [hg, hf, strike, if_neg ns] at e1 e2 e3
  have h0 : 0 ≤ gap.getD i 0 := by
    rw [List.getD_eq_getElem?_getD, List.getElem?_eq_getElem (by omega : i < gap.length)]
    exact nn _ (List.getElem_mem _)
  rw [hg, List.sum_cons] at kb
  exact ⟨e1, by rw [take_succ (by omega), List.append_assoc]; exact e2, by rw [take_succ (by omega), List.append_assoc]; exact e3, l1, l2, k0, by omega, rl, nn⟩
theorem SInv.big (h : SInv sums R G Fs len i row fin gap k) (hi : i < len) (hz : 0 < gap.getD i 0) :
    SInv sums R G Fs len (i + 1) (row ++ (sums.drop k.toNat).take (min (k + gap.getD i 0 - 1).toNat sums.length - k.toNat)) (fin.set i (sums.getD (k + gap.getD i 0 - 1).toNat 0)) (gap.set i (gap.getD i 0 - 1)) (k + gap.getD i 0) := by
  obtain ⟨e1, e2, e3, l1, l2, k0, kb, rl, nn⟩ := h
  have hg := drop_cons (l := gap) (i := i) (by omega)
  have hf := drop_cons (l := fin) (i := i) (by omega)
  rw [hg, hf, strike, if_pos hz] at e1 e2 e3
  rw [hg, List.sum_cons] at kb
  have hn : 0 ≤ (gap.drop (i + 1)).sum := sum_nonneg fun z hz => nn z (List.mem_of_mem_drop hz)
  have a1 : min (k + gap.getD i 0 - 1).toNat sums.length - k.toNat = (gap.getD i 0).toNat - 1 := by omega
  have a2 : (k + gap.getD i 0).toNat = k.toNat + (gap.getD i 0).toNat := by omega
  have a3 : (k + gap.getD i 0 - 1).toNat = k.toNat + (gap.getD i 0).toNat - 1 := by omega
  rw [a1, a3]
  refine ⟨?_, ?_, ?_, by rw [List.length_set]; exact l1, by rw [List.length_set]; exact l2, by omega, ?_, ?_, ?_⟩
  · rw [set_drop, set_drop, a2, List.append_assoc]; exact e1
  · rw [set_drop, set_drop, a2, set_take (by omega), List.append_assoc]; exact e2
  · rw [set_drop, set_drop, a2, set_take (by omega), List.append_assoc]; exact e3
  · rw [set_drop]; omega
  · rw [List.length_append, List.length_take]; omega
  · intro z hz'
    rcases List.mem_or_eq_of_mem_set hz' with h1 | h1
    · exact nn z h1
    · omega
theorem SInv.done (h : SInv sums R G Fs len len row fin gap k) : row = R ∧ gap = G ∧ fin = Fs := by
  obtain ⟨e1, e2, e3, l1, l2, k0, kb, rl, nn⟩ := h
  have hg : gap.drop len = [] := List.drop_of_length_le (by omega)
  have hf : fin.drop len = [] := List.drop_of_length_le (by omega)
  rw [hg, hf, strike] at e1 e2 e3
  rw [List.take_of_length_le (by omega)] at e2 e3
  exact ⟨by simpa using e1, by simpa using e2, by simpa using e3⟩
  all_goals simp
theorem SInv.bound (h : SInv sums R G Fs len i row fin gap k) (hi : i < len) : k + gap.getD i 0 ≤ sums.length := by
  obtain ⟨e1, e2, e3, l1, l2, k0, kb, rl, nn⟩ := h
  rw [drop_cons (by omega), List.sum_cons] at kb
  have hn : 0 ≤ (gap.drop (i + 1)).sum := sum_nonneg fun z hz => nn z (List.mem_of_mem_drop hz)
  omega
theorem SInv.six (h : SInv sums R G Fs len i row fin gap k) (hs : sums.length ≤ 19) : row.length ≤ 19 ∧ 0 ≤ k ∧ k ≤ 19 ∧ gap.length = len ∧ fin.length = len ∧ SInv sums R G Fs len i row fin gap k := by
  have h' := h
  obtain ⟨e1, e2, e3, l1, l2, k0, kb, rl, nn⟩ := h
  have hn : 0 ≤ (gap.drop i).sum := sum_nonneg fun z hz => nn z (List.mem_of_mem_drop hz)
  exact ⟨by omega, k0, by omega, l1, l2, h'⟩
theorem SInv.small6 {j : Nat} (h : SInv sums R G Fs len i row fin gap k) (hs : sums.length ≤ 19) (hj : j = i + 1) (hi : i < len) (hz : gap.getD i 0 ≤ 0) :
    row.length ≤ 19 ∧ 0 ≤ k ∧ k ≤ 19 ∧ gap.length = len ∧ fin.length = len ∧ SInv sums R G Fs len j row fin gap k := by
  subst hj; exact (h.small hi hz).six hs
theorem SInv.big6 {j : Nat} (h : SInv sums R G Fs len i row fin gap k) (hs : sums.length ≤ 19) (hj : j = i + 1) (hi : i < len) (hz : 0 < gap.getD i 0) :
    (row ++ (sums.drop k.toNat).take (min (k + gap.getD i 0 - 1).toNat sums.length - k.toNat)).length ≤ 19 ∧ 0 ≤ k + gap.getD i 0 ∧ k + gap.getD i 0 ≤ 19 ∧ (gap.set i (gap.getD i 0 - 1)).length = len ∧ (fin.set i (sums.getD (k + gap.getD i 0 - 1).toNat 0)).length = len ∧
      SInv sums R G Fs len j (row ++ (sums.drop k.toNat).take (min (k + gap.getD i 0 - 1).toNat sums.length - k.toNat)) (fin.set i (sums.getD (k + gap.getD i 0 - 1).toNat 0)) (gap.set i (gap.getD i 0 - 1)) (k + gap.getD i 0) := by
  subst hj; exact (h.big hi hz).six hs
end
end Mine
theorem Mine.part3 : True := by
  k_with_none
  w_top off
  exact True.intro
end
section
open PySem PySem.W PyProof.Rows PySem.Spec PySem.Calls
set_option maxRecDepth 100000
set_option maxHeartbeats 8000000
namespace Mine
section
variable {prog : Program} {w : World} {A : Around} {E : Value → Shared → Prop} {s : Shared} {env : Env} {h₀ : Heap} {x : Str} {body : List Stmt} {Q : Flow → Shared → Prop}
def RevPost {σ : Type} (h₀ : Heap) (L : Addr) (s : Shared) (I : Addr) (it : Obj) (Led : σ → List (Addr × Obj)) (ps : σ → List (Str × Value)) (x : Str) (stored : List Str) (m₀ : Str → Option Value) (P : σ → Prop) (Q : Flow → Shared → Prop) (f : Flow) (s₂ : Shared) : Prop :=
  match f with
  | .ret v => Q (.ret v) s₂
  | .brk => Q .next s₂
  | _ => ∃ (c : σ) (h' : Heap) (tk : Nat) (m' : Str → Option Value), s₂ = { s with heap := h', toks := tk } ∧ Fr h₀ L h' m' ∧ News h₀ L h' ((I, it) :: Led c) ∧ (∀ p ∈ ps c, m' p.1 = some p.2) ∧ (∀ z, z ≠ x → (∀ p ∈ ps c, z ≠ p.1) → stored.contains z = false → m' z = m₀ z) ∧ P c
theorem rev_state {σ : Type} {ax I : Addr} {vs : List Value} {ds : List Int} {k : Nat} {m₀ : Str → Option Value} (Led : σ → List (Addr × Obj)) (ps : σ → List (Str × Value)) (stored : List Str) (P : List Int → σ → Prop) (c₀ : σ)
    (hh : A.handled = none) (hi : IntsAre vs ds) (F : Fr h₀ env.locals s.heap m₀) (N : News h₀ env.locals s.heap ((I, revObj ax ((vs.length : Int) - 1)) :: Led c₀)) (hm : ∀ c, (ax, W.listOf vs.toArray k) ∈ Led c) (hoff : ∀ c, ∀ p ∈ Led c, p.1 ≠ I)
    (hk : ∀ p ∈ ps c₀, m₀ p.1 = some p.2) (hp : P [] c₀)
    (turn : ∀ (c : σ) (pre : List Int) (d : Int) (post : List Int) (t : Tok) (u : Str → Option Value) (it : Obj) h tk, ds.reverse = pre ++ d :: post → P pre c →
      Fr h₀ env.locals h (fun y => if y = x then some (.int d t) else kstB (fun z => if stored.contains z then u z else m₀ z) (ps c) y) → News h₀ env.locals h ((I, it) :: Led c) →
      wpAny (model prog w) A (execs body env) (RevPost h₀ env.locals { s with heap := h, toks := tk } I it Led ps x stored m₀ (P (pre ++ [d])) Q) E { s with heap := h, toks := tk })
    (done : ∀ (c : σ) (u : Str → Option Value) h tk, P ds.reverse c → Fr h₀ env.locals h (fun y => if y = x then u y else kstB (fun z => if stored.contains z then u z else m₀ z) (ps c) y) → News h₀ env.locals h (Led c) → Q .next { s with heap := h, toks := tk }) :
    wpAny (model prog w) A (pyIter (.ref I)) (fun it s₂ => LoopAtV prog w A h₀ env x body Q E it s₂) E s := by
  have key : ∀ (rest : List Value) (post pre : List Int) (c : σ) (m : Str → Option Value), IntsAre rest post → ds.reverse = pre ++ post → P pre c → (∀ p ∈ ps c, m p.1 = some p.2) → (∀ z, z ≠ x → (∀ p ∈ ps c, z ≠ p.1) → stored.contains z = false → m z = m₀ z) →
      RevRest prog w A E h₀ env x body Q s I (ax, W.listOf vs.toArray k) rest m (Led c) := by
    intro rest
    induction rest with
    | nil =>
      intro post pre c m hr he hP h1 h2 h tk F1 N1
      cases hr
      rw [List.append_nil] at he
      rw [← he] at hP
      exact done c m h tk hP (kst_frOut h1 h2 F1) N1
    | cons v r ih =>
      intro post pre c m hr he hP h1 h2 it h tk _ F1 N1
      cases hr with
      | @cons d t _ post hr =>
      refine wpAny_mono (turn c pre d post t m it h tk he hP (kst_fr h1 h2 F1) N1) (fun f s₂ q => ?_) fun _ _ e => e
      have fin : (∃ (c : σ) (h' : Heap) (tk' : Nat) (m' : Str → Option Value), s₂ = { s with heap := h', toks := tk' } ∧ Fr h₀ env.locals h' m' ∧ News h₀ env.locals h' ((I, it) :: Led c) ∧ (∀ p ∈ ps c, m' p.1 = some p.2) ∧ (∀ z, z ≠ x → (∀ p ∈ ps c, z ≠ p.1) → stored.contains z = false → m' z = m₀ z) ∧ P (pre ++ [d]) c) →
          UnrEnd h₀ env.locals { s with heap := h, toks := tk } I it (fun m' n' => (ax, W.listOf vs.toArray k) ∈ n' ∧ RevRest prog w A E h₀ env x body Q s I (ax, W.listOf vs.toArray k) r m' n') s₂ := by
        rintro ⟨c', h', tk', m', e, F', N', k1, k2, k3⟩
        refine ⟨h', tk', m', Led c', e, F', N', hoff c', hm c', ih post (pre ++ [d]) c' m' hr (by rw [he, List.append_assoc]; rfl) k3 k1 k2⟩
      cases f with
      | ret v => exact q
      | brk => exact q
      | next => exact fin q
      | cont => exact fin q
  have hof : ∀ (l : List (Addr × Obj)), (∀ p ∈ l, p.1 ≠ I) → OffI I (revObj ax ((vs.length : Int) - 1)) l := by
    intro l
    induction l with
    | nil => intro _; trivial
    | cons p r ih => exact fun h => ⟨.inl (h p (.head _)), ih fun q hq => h q (.tail _ hq)⟩
  exact iter_revUnr hh F N (hof _ (hoff c₀)) (hm c₀) rfl rfl (key _ ds.reverse [] c₀ m₀ hi.reverse rfl hp hk (fun _ _ _ _ => rfl))
end
section
variable {h₀ h : Heap} {L P P' : Addr} {led T T' : List (Addr × Obj)} {l1 c1 l2 c2 : Int} {q1 q2 : Str}
theorem news_ne (N : News h₀ L h led) {a b : Addr} {o o' : Obj} (ha : (a, o) ∈ led) (hb : (b, o') ∈ led) (hne : o ≠ o') : a ≠ b := by
  rintro rfl
  exact hne (Option.some.inj ((N _ ha).1.symm.trans (N _ hb).1))
theorem tab_at (G : TabG P l1 c1 q1 T) : ∃ ps, (P, tabObj ps) ∈ T ∧ (∀ x t, ps[1]? ≠ some (.str x t)) := by
  rcases G with rfl | ⟨c', oc, vs, t, rfl, _⟩
  · exact ⟨_, .head _, fun x t h => by cases h⟩
  · exact ⟨_, .head _, fun x t h => by cases h⟩
theorem tab_ne (N : News h₀ L h led) (hT : ∀ p ∈ T, p ∈ led) (hT' : ∀ p ∈ T', p ∈ led) (G : TabG P l1 c1 q1 T) (G' : TabG P' l2 c2 q2 T') (hPP : P' ≠ P) : ∀ q ∈ T', q.1 ≠ P := by
  obtain ⟨ps, hm, hx⟩ := tab_at G
  rcases G' with rfl | ⟨c', oc, vs, t, rfl, hd, hv, _⟩
  · intro q hq
    rw [List.mem_singleton.mp hq]
    exact hPP
  · intro q hq
    rcases List.mem_cons.mp hq with rfl | hq
    · exact hPP
    · rw [List.mem_singleton.mp hq] at *
      refine news_ne N (hT' _ (.tail _ (.head _))) (hT _ hm) fun e => ?_
      rw [e] at hd
      have e2 : ps = vs := by injection hd
      rw [← e2] at hv
      exact hx _ _ hv
theorem tab_seq (N : News h₀ L h led) (hT : ∀ p ∈ T, p ∈ led) (G : TabG P l1 c1 q1 T) {a : Addr} {o : Obj} {it : Array Value} {k : Nat} (ha : (a, o) ∈ led) (hd : o.data = .seq it k) : ∀ q ∈ T, q.1 ≠ a := by
  rcases G with rfl | ⟨c', oc, vs, t, rfl, hd', hv, _⟩
  · intro q hq
    rw [List.mem_singleton.mp hq]
    exact news_ne N (hT _ (.head _)) ha fun e => by rw [← e] at hd; cases hd
  · intro q hq
    rcases List.mem_cons.mp hq with rfl | hq
    · exact news_ne N (hT _ (.head _)) ha fun e => by rw [← e] at hd; cases hd
    · rw [List.mem_singleton.mp hq]
      exact news_ne N (hT _ (.tail _ (.head _))) ha fun e => by rw [← e, hd'] at hd; cases hd
theorem mem_app {α : Type} {p : α} {a b : List α} (h : p ∈ a ++ b) : p ∈ a ∨ p ∈ b := List.mem_append.mp h
end
/-- a tree that the walk leaves as it lies -/
def hold {α : Type} (t : Sem α) : Sem α := t
theorem hold_on {α : Type} {M : Model} {A : Around} {t : Sem α} {Q : α → Shared → Prop} {E : Value → Shared → Prop} {s : Shared} (h : wpAny M A (hold t) Q E s) : wpAny M A t Q E s := h
section
variable {prog : Program} {w : World} {A : Around} {E : Value → Shared → Prop} {s : Shared} {h₀ : Heap} {L D b : Addr} {m : Str → Option Value} {news : List (Addr × Obj)} {g : Obj → List (Addr × Obj)} {us us2 : List Value} {ns ns2 : List Int} {n n2 : Nat}
/-- extend by a list of ints, an empty one too -/
theorem ext_any {Q : Value → Shared → Prop} (F : Fr h₀ L s.heap m) (N : News h₀ L s.heap news) (hb : (b, W.listOf us2.toArray n2) ∈ news) (U : UpdF D (W.listOf us.toArray n) news g)
    (hi : IntsAre us ns) (hi2 : IntsAre us2 ns2) (hz : ns.length + ns2.length ≤ 1000)
    (h : ∀ h' n', Fr h₀ L h' m → News h₀ L h' (g (W.listOf (us ++ us2).toArray n')) → IntsAre (us ++ us2) (ns ++ ns2) → Q .none { s with heap := h' }) : wpAny (model prog w) A (call (.builtin "list.extend") [.ref D, .ref b]) Q E s := by
  have l1 := hi.length
  have l2 := hi2.length
  obtain ⟨pre, post, rfl, hg, a, c⟩ := U.split
  have z := N (D, W.listOf us.toArray n) (List.mem_append.mpr (.inr (.head _)))
  refine call_meets PySem.F.slot_list_extend ⟨_, z.1, rfl⟩ PySem.F.entry_list_extend (PySem.F.args_list_extend_2 _ _) (PySem.AutoSeq1.list_extend_list_list_0 D us.toArray n b us2.toArray n2 ?_ ?_ ?_) ⟨z.1, (N _ hb).1, ?_⟩
  · simp [Builtin.List.listTooLong, sizeLine]; omega
  · rw [List.size_toArray, sizeLine_eq]; omega
  · rw [List.size_toArray, List.size_toArray, sizeLine_eq]; omega
  · have q := PySem.IsL.update z.1 (fun x => x ++ us2.toArray)
    refine h _ (if (us.toArray ++ us2.toArray).size == us.toArray.size then n else n + 1) (F.change (Heap.SameBut.update ..) z.2.1 z.2.2) ?_ (hi.append hi2)
    rw [hg]
    refine news_set N a c (Heap.SameBut.update ..) ?_
    have e : us.toArray ++ us2.toArray = (us ++ us2).toArray := by simp
    rw [e] at q ⊢
    exact q
end
end Mine
theorem Mine.part4 : True := by
  k_with_none
  w_top off
  exact True.intro
end
section
open PySem PySem.W PyProof.Rows PySem.Spec PySem.Calls
set_option maxRecDepth 100000
set_option maxHeartbeats 8000000
namespace Mine
section
variable {prog : Program} {w : World} {A : Around} {E : Value → Shared → Prop} {s : Shared} {env : Env} {h₀ : Heap} {target : Expr} {body : List Stmt} {Q : Flow → Shared → Prop}
/-- what a turn of a loop over a list of data must leave -/
def TurPost {σ : Type} (h₀ : Heap) (L : Addr) (s : Shared) (I : Addr) (it : Obj) (Led : σ → List (Addr × Obj)) (ps : σ → List (Str × Value)) (stored : List Str) (m₀ : Str → Option Value) (P : σ → Prop) (Q : Flow → Shared → Prop) (f : Flow) (s₂ : Shared) : Prop :=
  match f with
  | .ret v => Q (.ret v) s₂
  | .brk => Q .next s₂
  | _ => ∃ (c : σ) (h' : Heap) (tk : Nat) (m' : Str → Option Value), s₂ = { s with heap := h', toks := tk } ∧ Fr h₀ L h' m' ∧ News h₀ L h' ((I, it) :: Led c) ∧ (∀ p ∈ ps c, m' p.1 = some p.2) ∧ (∀ z, (∀ p ∈ ps c, z ≠ p.1) → stored.contains z = false → m' z = m₀ z) ∧ P c
theorem tur_state {σ : Type} {T : List (Addr × Obj)} {ax : Addr} {vs : List Value} {ds : List Dat} {k : Nat} {m₀ : Str → Option Value} (Led : σ → List (Addr × Obj)) (ps : σ → List (Str × Value)) (stored : List Str) (P : List Dat → σ → Prop) (c₀ : σ) {adr : List Addr}
    (hh : A.handled = none) (hi : DatAll T vs ds) (F : Fr h₀ env.locals s.heap m₀) (N : News h₀ env.locals s.heap (Led c₀)) (hm : ∀ c, (ax, W.listOf vs.toArray k) ∈ Led c) (hadr : ∀ c, (Led c).map (·.1) = adr)
    (hk : ∀ p ∈ ps c₀, m₀ p.1 = some p.2) (hp : P [] c₀)
    (turn : ∀ (c : σ) (pre : List Dat) (d : Dat) (post : List Dat) (v : Value) (u : Str → Option Value) (I : Addr) (it : Obj) h tk, ds = pre ++ d :: post → DatIn T v d → P pre c → (∀ p ∈ Led c, p.1 < I) →
      Fr h₀ env.locals h (kstB (fun z => if stored.contains z then u z else m₀ z) (ps c)) → News h₀ env.locals h ((I, it) :: Led c) →
      wpAny (model prog w) A (assign target env v) (fun _ s₂ => wpAny (model prog w) A (execs body env) (TurPost h₀ env.locals { s with heap := h, toks := tk } I it Led ps stored m₀ (P (pre ++ [d])) Q) E s₂) E { s with heap := h, toks := tk })
    (done : ∀ (c : σ) (u : Str → Option Value) h tk, P ds c → Fr h₀ env.locals h (kstB (fun z => if stored.contains z then u z else m₀ z) (ps c)) → News h₀ env.locals h (Led c) → Q .next { s with heap := h, toks := tk }) :
    wpAny (model prog w) A (pyIter (.ref ax)) (fun it s₂ => TurnsAt prog w A h₀ env target body Q E it s₂) E s := by
  have key : ∀ (I : Addr), (∀ a ∈ adr, a < I) → ∀ (rest : List Value) (post pre : List Dat) (c : σ) (m : Str → Option Value), DatAll T rest post → ds = pre ++ post → P pre c → (∀ p ∈ ps c, m p.1 = some p.2) → (∀ z, (∀ p ∈ ps c, z ≠ p.1) → stored.contains z = false → m z = m₀ z) →
      ItemsRest prog w A E h₀ env target body Q s [(I, "list_iterator")] [(ax, W.listOf vs.toArray k)] (rest.map .val) m (Led c) := by
    intro I hI rest
    have hlt : ∀ c, ∀ p ∈ Led c, p.1 < I := fun c p hp => hI _ (by rw [← hadr c]; exact List.mem_map.mpr ⟨p, hp, rfl⟩)
    induction rest with
    | nil =>
      intro post pre c m hr he hP h1 h2 h tk F1 N1
      cases hr
      rw [List.append_nil] at he
      rw [← he] at hP
      exact done c m h tk hP (ksw_fr h1 h2 F1) N1
    | cons v r ih =>
      intro post pre c m hr he hP h1 h2
      cases hr with
      | @cons _ _ d post hv hr =>
      refine ItemsRest.val (fun h tk F1 => AllObj.cons (fun it _ => AllObj.nil fun N1 => ?_))
      refine wpAny_mono (turn c pre d post v m I it h tk he hv hP (hlt c) (ksw_fr h1 h2 F1) N1) (fun _ s₂ q => wpAny_mono q (fun f s₃ q => ?_) fun _ _ e => e) fun _ _ e => e
      have fin : (∃ (c : σ) (h' : Heap) (tk' : Nat) (m' : Str → Option Value), s₃ = { s with heap := h', toks := tk' } ∧ Fr h₀ env.locals h' m' ∧ News h₀ env.locals h' ((I, it) :: Led c) ∧ (∀ p ∈ ps c, m' p.1 = some p.2) ∧ (∀ z, (∀ p ∈ ps c, z ≠ p.1) → stored.contains z = false → m' z = m₀ z) ∧ P (pre ++ [d]) c) →
          UnrEndW h₀ env.locals { s with heap := h, toks := tk } [(I, it)] (fun m' n' => SubL [(ax, W.listOf vs.toArray k)] n' ∧ ItemsRest prog w A E h₀ env target body Q s [(I, "list_iterator")] [(ax, W.listOf vs.toArray k)] (r.map .val) m' n') s₃ := by
        rintro ⟨c', h', tk', m', e, F', N', k1, k2, k3⟩
        refine ⟨h', tk', m', Led c', e, F', N', fun p hp q hq => ?_, ⟨hm c', trivial⟩, ih post (pre ++ [d]) c' m' hr (by rw [he, List.append_assoc]; rfl) k3 k1 k2⟩
        rw [List.mem_singleton.mp hq]
        exact Nat.ne_of_lt (hlt c' p hp)
      cases f with
      | ret v => exact q
      | brk => exact q
      | next => exact fin q
      | cont => exact fin q
  refine iter_listTurns hh F N (hm c₀) rfl rfl fun I hI => key I ?_ vs ds [] c₀ m₀ hi rfl hp hk (fun _ _ _ => rfl)
  intro a ha
  rw [← hadr c₀] at ha
  obtain ⟨p, hp, rfl⟩ := List.mem_map.mp ha
  exact hI p hp
theorem tur_end {σ : Type} {L : Addr} {I : Addr} {it : Obj} {Led : σ → List (Addr × Obj)} {ps : σ → List (Str × Value)} {stored : List Str} {m₀ m' : Str → Option Value} {P : σ → Prop} {h' : Heap} {tk : Nat} {news' : List (Addr × Obj)} (c' : σ)
    (F : Fr h₀ L h' m') (N : News h₀ L h' news') (hn : ∀ p ∈ (I, it) :: Led c', p ∈ news') (hk : ∀ p ∈ ps c', m' p.1 = some p.2) (hr : ∀ z, (∀ p ∈ ps c', z ≠ p.1) → stored.contains z = false → m' z = m₀ z) (hp : P c') :
    TurPost h₀ L s I it Led ps stored m₀ P Q .next { s with heap := h', toks := tk } := ⟨c', h', tk, m', rfl, F, fun p hp => N p (hn p hp), hk, hr, hp⟩
end
end Mine
theorem Mine.part5 : True := by
  k_with_none
  w_top off
  exact True.intro
end
section
open PySem PySem.W PyProof.Rows PySem.Spec PySem.Calls
set_option maxRecDepth 100000
set_option maxHeartbeats 2000000
namespace Mine
theorem cutL {α : Type} (l : List α) (a b : Nat) : (l.drop (min a l.length)).take (min b l.length - min a l.length) = (l.drop a).take (b - a) := by
  by_cases ha : a ≤ l.length
  · rw [Nat.min_eq_left ha]
    by_cases hb : b ≤ l.length
    · rw [Nat.min_eq_left hb]
    · rw [Nat.min_eq_right (by omega), List.take_of_length_le (by rw [List.length_drop]; exact Nat.le_refl _), List.take_of_length_le (by rw [List.length_drop]; omega)]
  · rw [List.drop_of_length_le (by omega), List.drop_of_length_le (by omega)]; simp
theorem slice_nat (x : Str) {a b : Nat} (hab : a ≤ b) : (Txt.slice x (some (a : Int)) (some (b : Int))).cps.toList = (x.cps.toList.drop a).take (b - a) := by
  have e : Builtin.Str.strSliceIndices (some (a : Int)) (some (b : Int)) 1 x.length = Builtin.Str.strSliceIndices (some ((min a x.length : Nat) : Int)) (some ((min b x.length : Nat) : Int)) 1 x.length := by
    have h1 : ¬ ((a : Int) < 0) := by omega
    have h2 : ¬ ((b : Int) < 0) := by omega
    have h3 : ¬ (((min a x.length : Nat) : Int) < 0) := by omega
    have h4 : ¬ (((min b x.length : Nat) : Int) < 0) := by omega
    have e1 : max (0 : Int) (min (a : Int) (x.length : Int)) = max (0 : Int) (min ((min a x.length : Nat) : Int) (x.length : Int)) := by omega
    have e2 : max (0 : Int) (min (b : Int) (x.length : Int)) = max (0 : Int) (min ((min b x.length : Nat) : Int) (x.length : Int)) := by omega
    simp only [Builtin.Str.strSliceIndices, h1, h2, h3, h4, if_false, show ((1 : Int) > 0) = True from by simp, if_true]
    rw [e1, e2]
  have hl : x.cps.toList.length = x.length := by simp [Str.length]
  have hm := StrLaws.sliceText_nat x (a := min a x.length) (b := min b x.length) (by omega) (by omega)
  have hs : Txt.slice x (some (a : Int)) (some (b : Int)) = Txt.slice x (some ((min a x.length : Nat) : Int)) (some ((min b x.length : Nat) : Int)) := by
    unfold Txt.slice; rw [e]
  rw [hs]
  show (StrLaws.sliceText x _ _).cps.toList = _
  rw [hm]
  rw [← hl]
  exact cutL _ _ _
theorem slice_int (x : Str) {i j : Int} (h0 : 0 ≤ i) (hij : i ≤ j) : (Txt.slice x (some i) (some j)).cps.toList = (x.cps.toList.drop i.toNat).take (j.toNat - i.toNat) := by
  obtain ⟨a, rfl⟩ := Int.eq_ofNat_of_zero_le h0
  obtain ⟨b, rfl⟩ := Int.eq_ofNat_of_zero_le (Int.le_trans h0 hij)
  exact slice_nat x (by omega)
theorem slice_to (x : Str) {j : Int} (h0 : 0 ≤ j) : (Txt.slice x none (some j)).cps.toList = x.cps.toList.take j.toNat := by
  have : Txt.slice x none (some j) = Txt.slice x (some 0) (some j) := by unfold Txt.slice; rw [StrLaws.sliceIdx_none_lo]
  rw [this, slice_int x (Int.le_refl 0) h0]
  simp
theorem slice_from (x : Str) {i : Int} (h0 : 0 ≤ i) : (Txt.slice x (some i) none).cps.toList = x.cps.toList.drop i.toNat := by
  have hl : x.cps.toList.length = x.length := by simp [Str.length]
  by_cases hi : i ≤ x.length
  · have : Txt.slice x (some i) none = Txt.slice x (some i) (some (x.length : Int)) := by unfold Txt.slice; rw [StrLaws.sliceIdx_none_hi]
    rw [this, slice_int x h0 hi]
    exact List.take_of_length_le (by rw [List.length_drop, hl]; omega)
  · rw [slice_beyond (by omega), List.drop_of_length_le (by omega)]; rfl
theorem item_cps (x : Str) {i : Int} (h0 : 0 ≤ i) (h1 : i < x.length) : (Txt.item x i).cps.toList = [x.cps.toList.getD i.toNat 0] := by
  have hl : x.cps.toList.length = x.length := by simp [Str.length]
  have hlt : i.toNat < x.cps.size := by simp [Str.length] at h1; omega
  have := item_meets (x := x) (n := x.cps[i.toNat]) h0 (by simp [hlt])
  rw [this]
  simp [List.getD_eq_getElem?_getD, hlt]
theorem str_eq {x y : Str} (h : x.cps.toList = y.cps.toList) : x = y := Str.ext' (Array.toList_inj.mp h)
theorem str_of {x : Str} {l : List Nat} (h : x.cps.toList = l) : x = ⟨l.toArray⟩ := str_eq (by rw [h])
theorem len_of {x : Str} {l : List Nat} (h : x.cps.toList = l) : x.length = l.length := by rw [← h]; simp [Str.length]

def dbl := StrLaws.dbl
theorem dbl_take {l : List Nat} {j : Nat} (hj : j < l.length) : dbl 34 (l.take (j + 1)) = dbl 34 (l.take j) ++ (if l.getD j 0 = 34 then [34, 34] else [l.getD j 0]) := by
  have : l.take (j + 1) = l.take j ++ [l.getD j 0] := by
    rw [List.take_add_one, List.getD_eq_getElem?_getD]
    rw [List.getElem?_eq_getElem hj]; rfl
  rw [this]
  unfold dbl
  rw [StrLaws.dbl_append]
  congr 1
  unfold StrLaws.dbl
  split <;> simp_all [StrLaws.dbl]
theorem dbl_split (l : List Nat) (j : Nat) : dbl 34 l = dbl 34 (l.take j) ++ dbl 34 (l.drop j) := by
  unfold dbl
  rw [← StrLaws.dbl_append, List.take_append_drop]
theorem cl_of (x : Str) : x.cps.toList.length = x.length := by simp [Str.length]
theorem item_is {x : Str} {i : Int} {c : Nat} {r : List Nat} (h0 : 0 ≤ i) (hd : x.cps.toList.drop i.toNat = c :: r) : Txt.item x i = ⟨#[c]⟩ ∧ i < x.length := by
  have hlt : i.toNat < x.cps.toList.length := by
    have := congrArg List.length hd
    rw [List.length_drop, List.length_cons] at this
    omega
  have hl := cl_of x
  have h1 : i < x.length := by omega
  refine ⟨str_eq ?_, h1⟩
  rw [item_cps x h0 h1]
  have : x.cps.toList.getD i.toNat 0 = c := by
    have e : (x.cps.toList.drop i.toNat).head? = some c := by rw [hd]; rfl
    rw [List.head?_drop] at e
    rw [List.getD_eq_getElem?_getD, e]; rfl
  rw [this]
theorem one_eq (c d : Nat) : ((⟨#[c]⟩ : Str) == ⟨#[d]⟩) = decide (c = d) := by
  by_cases h : c = d
  · subst h; simp
  · have : (⟨#[c]⟩ : Str) ≠ ⟨#[d]⟩ := fun e => h (by have := congrArg (fun s : Str => s.cps.toList) e; simpa using this)
    simp [h, this]
def PInv (cds : List Nat) (i : Int) (d : Str) : Prop := ∃ j, j ≤ cds.length ∧ i = ((5 + (StrLaws.dbl 34 (cds.take j)).length : Nat) : Int) ∧ d.cps.toList = cds.take j
theorem pinv_start {cds : List Nat} : 0 ≤ (5 : Int) ∧ (Str.ofString "").length ≤ 40 ∧ PInv cds 5 (Str.ofString "") := ⟨by decide, by decide, 0, Nat.zero_le _, rfl, rfl⟩
section
variable {x d : Str} {cds tl : List Nat} {i : Int}
theorem p_core (hx : x.cps.toList = [50,53,55,32,34] ++ StrLaws.dbl 34 cds ++ 34 :: tl) (h : PInv cds i d) :
    ∃ j, j ≤ cds.length ∧ i = ((5 + (StrLaws.dbl 34 (cds.take j)).length : Nat) : Int) ∧ d.cps.toList = cds.take j ∧ x.cps.toList.drop i.toNat = StrLaws.dbl 34 (cds.drop j) ++ 34 :: tl := by
  obtain ⟨j, h1, h2, h3⟩ := h
  refine ⟨j, h1, h2, h3, ?_⟩
  have e : x.cps.toList = ([50,53,55,32,34] ++ StrLaws.dbl 34 (cds.take j)) ++ (StrLaws.dbl 34 (cds.drop j) ++ 34 :: tl) := by
    rw [hx]
    have := dbl_split cds j
    unfold dbl at this
    rw [this]
    simp only [List.append_assoc]
  rw [e, h2]
  exact List.drop_left' (by simp; omega)
theorem p_in (hx : x.cps.toList = [50,53,55,32,34] ++ StrLaws.dbl 34 cds ++ 34 :: tl) (h : PInv cds i d) : i < x.length := by
  obtain ⟨j, h1, h2, h3, h4⟩ := p_core hx h
  have := congrArg List.length h4
  rw [List.length_drop, List.length_append, List.length_cons, cl_of] at this
  omega
theorem dbl_cons (c : Nat) (r : List Nat) : StrLaws.dbl 34 (c :: r) = (if c = 34 then [34, 34] else [c]) ++ StrLaws.dbl 34 r := by
  show (if c = 34 then c :: c :: StrLaws.dbl 34 r else c :: StrLaws.dbl 34 r) = _
  split
  · rename_i h; subst h; rfl
  · rfl
theorem p_state {j : Nat} (hj : j < cds.length) (h2 : i = ((5 + (StrLaws.dbl 34 (cds.take j)).length : Nat) : Int)) (h3 : d.cps.toList = cds.take j) {c : Nat} (hc : cds.getD j 0 = c) {k : Int} (hk : k = i + (if c = 34 then 2 else 1)) :
    PInv cds k (d ++ ⟨#[c]⟩) := by
  refine ⟨j + 1, by omega, ?_, ?_⟩
  · have := dbl_take hj
    unfold dbl at this
    rw [this, hk, h2, List.length_append, hc]
    split <;> simp <;> omega
  · rw [Str.cps_append, Array.toList_append, h3, List.take_add_one]
    congr 1
    rw [List.getElem?_eq_getElem hj]
    rw [List.getD_eq_getElem?_getD, List.getElem?_eq_getElem hj] at hc
    simp at hc ⊢
    exact hc.symm
/-- what one turn of parse257's loop meets -/
theorem p_turn (hx : x.cps.toList = [50,53,55,32,34] ++ StrLaws.dbl 34 cds ++ 34 :: tl) (htl : tl = [] ∨ ∃ k r, tl = k :: r ∧ k ≠ 34) (h : PInv cds i d) :
    (∃ c, c ≠ 34 ∧ Txt.item x i = ⟨#[c]⟩ ∧ PInv cds (i + 1) (d ++ ⟨#[c]⟩)) ∨
    (Txt.item x i = ⟨#[34]⟩ ∧ i + 1 < x.length ∧ Txt.item x (i + 1) = ⟨#[34]⟩ ∧ PInv cds (i + 1 + 1) (d ++ ⟨#[34]⟩)) ∨
    (Txt.item x i = ⟨#[34]⟩ ∧ d.cps.toList = cds ∧ (i + 1 < x.length → ∃ k, k ≠ 34 ∧ Txt.item x (i + 1) = ⟨#[k]⟩)) := by
  obtain ⟨j, h1, h2, h3, h4⟩ := p_core hx h
  have h0 : 0 ≤ i := by omega
  have hs : x.cps.toList.drop (i + 1).toNat = (x.cps.toList.drop i.toNat).drop 1 := by
    rw [List.drop_drop]
    congr 1
    omega
  by_cases hj : j < cds.length
  · obtain ⟨c, hc⟩ : ∃ c, cds.getD j 0 = c := ⟨_, rfl⟩
    have e : cds.drop j = c :: cds.drop (j + 1) := by
      rw [List.drop_eq_getElem_cons hj]
      congr 1
      rw [List.getD_eq_getElem?_getD, List.getElem?_eq_getElem hj] at hc
      simpa using hc
    rw [e, dbl_cons] at h4
    by_cases h34 : c = 34
    · subst h34
      refine .inr (.inl ?_)
      obtain ⟨a1, a2⟩ := item_is h0 h4
      rw [h4] at hs
      obtain ⟨b1, b2⟩ := item_is (i := i + 1) (by omega) (by rw [hs]; rfl)
      exact ⟨a1, b2, b1, p_state hj h2 h3 hc (by simp; omega)⟩
    · rw [if_neg h34] at h4
      obtain ⟨a1, a2⟩ := item_is h0 h4
      exact .inl ⟨c, h34, a1, p_state hj h2 h3 hc (by simp [h34])⟩
  · have ej : j = cds.length := by omega
    subst ej
    rw [List.drop_of_length_le (Nat.le_refl _)] at h4
    rw [List.take_length] at h3
    obtain ⟨a1, a2⟩ := item_is h0 h4
    refine .inr (.inr ⟨a1, h3, fun hlt => ?_⟩)
    rw [h4] at hs
    rcases htl with rfl | ⟨k, r, rfl, hk⟩
    · exfalso
      have := congrArg List.length hs
      rw [List.length_drop, cl_of] at this
      simp [StrLaws.dbl] at this
      omega
    · obtain ⟨b1, b2⟩ := item_is (i := i + 1) (by omega) (by rw [hs]; rfl)
      exact ⟨k, hk, b1⟩
theorem q_is : Str.ofString "\"" = ⟨#[34]⟩ := by decide
theorem p_none (hx : x.cps.toList = [50,53,55,32,34] ++ StrLaws.dbl 34 cds ++ 34 :: tl) (h : (Txt.slice x none (some 3) != Str.ofString "257") = true) : False := by
  have e : Txt.slice x none (some 3) = Str.ofString "257" := str_eq (by rw [slice_to x (by decide), hx]; rfl)
  rw [e] at h
  simp at h
theorem p_two (hx : x.cps.toList = [50,53,55,32,34] ++ StrLaws.dbl 34 cds ++ 34 :: tl) (h : (Txt.slice x (some 3) (some 5) != Str.ofString " \"") = true) : False := by
  have e : Txt.slice x (some 3) (some 5) = Str.ofString " \"" := str_eq (by rw [slice_int x (by decide) (by decide), hx]; rfl)
  rw [e] at h
  simp at h
theorem p_brk (hx : x.cps.toList = [50,53,55,32,34] ++ StrLaws.dbl 34 cds ++ 34 :: tl) (htl : tl = [] ∨ ∃ k r, tl = k :: r ∧ k ≠ 34) (h : PInv cds i d)
    (ha : (Txt.item x i == Str.ofString "\"") = true) (hb : (x.length : Int) ≤ i + 1 ∨ (Txt.item x (i + 1) != Str.ofString "\"") = true) : d.cps.toList = cds := by
  rw [q_is] at ha hb
  rcases p_turn hx htl h with ⟨c, hc, e, _⟩ | ⟨e, hl, e2, _⟩ | ⟨_, e, _⟩
  · rw [e, one_eq] at ha
    exact absurd (of_decide_eq_true ha) hc
  · rcases hb with hb | hb
    · omega
    · rw [e2] at hb; simp at hb
  · exact e
theorem p_two_on (hx : x.cps.toList = [50,53,55,32,34] ++ StrLaws.dbl 34 cds ++ 34 :: tl) (htl : tl = [] ∨ ∃ k r, tl = k :: r ∧ k ≠ 34) (h0 : 0 ≤ i) (hd : cds.length ≤ 40) (h : PInv cds i d)
    (ha : (Txt.item x i == Str.ofString "\"") = true) (hb : ¬ (x.length : Int) ≤ i + 1) (hc : (Txt.item x (i + 1) != Str.ofString "\"") = false) : 0 ≤ i + 1 + 1 ∧ (d ++ Txt.item x i).length ≤ 40 ∧ PInv cds (i + 1 + 1) (d ++ Txt.item x i) := by
  rw [q_is] at ha hc
  refine ⟨by omega, ?_⟩
  have q : PInv cds (i + 1 + 1) (d ++ Txt.item x i) := by
    rcases p_turn hx htl h with ⟨c, hc, e, _⟩ | ⟨e, hl, e2, q⟩ | ⟨_, e, q⟩
    · rw [e, one_eq] at ha
      exact absurd (of_decide_eq_true ha) hc
    · rw [e]; exact q
    · obtain ⟨k, hk, e2⟩ := q (by omega)
      rw [e2] at hc
      have : ((⟨#[k]⟩ : Str) == ⟨#[34]⟩) = true := by simpa [bne] using hc
      rw [one_eq] at this
      exact absurd (of_decide_eq_true this) hk
  refine ⟨?_, q⟩
  obtain ⟨j, h1, h2, h3⟩ := q
  rw [len_of h3, List.length_take]
  omega
theorem p_one_on (hx : x.cps.toList = [50,53,55,32,34] ++ StrLaws.dbl 34 cds ++ 34 :: tl) (htl : tl = [] ∨ ∃ k r, tl = k :: r ∧ k ≠ 34) (h0 : 0 ≤ i) (hd : cds.length ≤ 40) (h : PInv cds i d)
    (ha : (Txt.item x i == Str.ofString "\"") = false) : 0 ≤ i + 1 ∧ (d ++ Txt.item x i).length ≤ 40 ∧ PInv cds (i + 1) (d ++ Txt.item x i) := by
  rw [q_is] at ha
  refine ⟨by omega, ?_⟩
  have q : PInv cds (i + 1) (d ++ Txt.item x i) := by
    rcases p_turn hx htl h with ⟨c, hc, e, q⟩ | ⟨e, hl, e2, q⟩ | ⟨e, _, q⟩
    · rw [e]; exact q
    · rw [e] at ha; simp at ha
    · rw [e] at ha; simp at ha
  refine ⟨?_, q⟩
  obtain ⟨j, h1, h2, h3⟩ := q
  rw [len_of h3, List.length_take]
  omega
end
end Mine
theorem Mine.part6 : True := by
  k_with_none
  w_top off
  exact True.intro
end
section
open PySem PySem.W PyProof.Rows PySem.Spec PySem.Calls
set_option maxRecDepth 100000
set_option maxHeartbeats 4000000
namespace Mine
/-- the 48 operators' codes, as the law lists them -/
def mkc : List (List Nat) := [[40],[41],[91],[93],[58],[44],[59],[43],[45],[42],[47],[124],[38],[60],[62],[61],[46],[37],[123],[125],[61,61],[33,61],[60,61],[62,61],[126],[94],[60,60],[62,62],[42,42],[43,61],[45,61],[42,61],[47,61],[37,61],[38,61],[124,61],[94,61],[60,60,61],[62,62,61],[42,42,61],[47,47],[47,47,61],[64],[64,61],[45,62],[46,46,46],[58,61],[33]]
/-- the same in the table's order -/
def mkd : List (List Nat) := [[33],[33,61],[37],[37,61],[38],[38,61],[40],[41],[42],[42,42],[42,42,61],[42,61],[43],[43,61],[44],[45],[45,61],[45,62],[46],[46,46,46],[47],[47,47],[47,47,61],[47,61],[58],[58,61],[59],[60],[60,60],[60,60,61],[60,61],[61],[61,61],[62],[62,61],[62,62],[62,62,61],[64],[64,61],[91],[93],[94],[94,61],[123],[124],[124,61],[125],[126]]
def numOf (p : List Nat) : Int := 7 + (mkc.idxOf p : Nat)
def tabD : List (Str × KTD.Dat) := mkd.map fun c => (⟨c.toArray⟩, .flat (.int (numOf c)))
theorem mk_sub : ∀ c ∈ mkd, c ∈ mkc := by decide +kernel
theorem mk_sup : ∀ c ∈ mkc, c ∈ mkd := by decide +kernel
theorem inKeys_map (x : Str) : ∀ l : List (List Nat), KTD.inKeys x (l.map fun c => ((⟨c.toArray⟩ : Str), KTD.Dat.flat (.int (numOf c)))) = decide (x.cps.toList ∈ l)
  | [] => rfl
  | c :: r => by
    show (decide (x = ⟨c.toArray⟩) || KTD.inKeys x (r.map _)) = _
    rw [inKeys_map x r]
    by_cases h : x.cps.toList = c
    · subst h; simp
    · have h2 : ¬ x = ⟨c.toArray⟩ := fun e => h (by rw [e])
      simp [h, h2]
theorem inKeys_D (x : Str) : KTD.inKeys x tabD = decide (x.cps.toList ∈ mkc) := by
  unfold tabD
  rw [inKeys_map]
  exact decide_eq_decide.mpr ⟨mk_sub _, mk_sup _⟩
theorem datumAt_map (x : Str) : ∀ l : List (List Nat), KTD.datumAt x (l.map fun c => ((⟨c.toArray⟩ : Str), KTD.Dat.flat (.int (numOf c)))) = if x.cps.toList ∈ l then some (.flat (.int (numOf x.cps.toList))) else none
  | [] => rfl
  | c :: r => by
    show (if decide (x = ⟨c.toArray⟩) = true then some (KTD.Dat.flat (.int (numOf c))) else KTD.datumAt x (r.map _)) = _
    rw [datumAt_map x r]
    by_cases h : x.cps.toList = c
    · subst h; simp
    · have h2 : ¬ x = ⟨c.toArray⟩ := fun e => h (by rw [e])
      simp [h, h2]
theorem datumAt_D (x : Str) : KTD.datumAt x tabD = if x.cps.toList ∈ mkc then some (.flat (.int (numOf x.cps.toList))) else none := by
  unfold tabD
  rw [datumAt_map]
  by_cases h : x.cps.toList ∈ mkc
  · rw [if_pos h, if_pos (mk_sup _ h)]
  · rw [if_neg h, if_neg fun q => h (mk_sub _ q)]
def lookD (d : KTD.Dat) (v : Value) : Bool := match d with | .flat d => KTD.flatLooks d v | _ => false
theorem lookD_ok (h : Heap) (d : KTD.Dat) (v : Value) (e : lookD d v = true) : KTD.Dat.At h d v := by
  unfold lookD at e
  split at e
  · exact KTD.flat_of_looks e
  · cases e
theorem tab_looks (P : Params) : KTD.tabLook lookD ((hd.heap_1 P).lookup ·) 82 tabD = true := rfl
theorem tab_here {P : Params} {h₀ h : Heap} (X : (hd.heap_1 P).In h₀) (hk : ∀ b o, h₀.get? b = some o → h.get? b = some o) : KTD.Here h₀ h 82 tabD :=
  ⟨KTD.tab_of_look (L := lookD) (lookD_ok h₀) (get := ((hd.heap_1 P).lookup ·)) X (tab_looks P), hk⟩
section
variable {prog : Program} {w : World} {A : Around} {E : Value → Shared → Prop} {s : Shared} {h₀ : Heap} {L : Addr} {m : Str → Option Value} {x : Str} {t : Tok} {P : Params} {Q : Value → Shared → Prop}
theorem notin_marks (F : Fr h₀ L s.heap m) (X : (hd.heap_1 P).In h₀) (h : Q (.bool (!decide (x.cps.toList ∈ mkc))) { s with toks := s.toks + 1 }) :
    wpAny (model prog w) A (compareOp .NotIn (.str x t) (.ref 82)) Q E s :=
  KTD.notin_text (tab_here X F.keep) (by rw [inKeys_D]; exact h)
theorem get_marks {d : Int} {td : Tok} (F : Fr h₀ L s.heap m) (X : (hd.heap_1 P).In h₀) (h : ∀ t', Q (.int (if x.cps.toList ∈ mkc then numOf x.cps.toList else d) t') { s with toks := s.toks + 1 }) :
    wpAny (model prog w) A (call (.builtin "dict.get") [.ref 82, .str x t, .int d td]) Q E s := by
  have T := tab_here X F.keep
  refine call_meetsIn PySem.F.slot_dict_get T.typeIs PySem.F.entry_dict_get (PySem.F.args_dict_get_3 _ _ _) (KTD.meets_get2 (h₀ := h₀) (D := tabD)) ⟨T, fun d v ha hv => ?_, fun hn => ?_⟩
  · rw [datumAt_D] at ha
    split at ha
    · rename_i hm
      cases ha
      have hv' : PyProof.V.Flat v (.int (numOf x.cps.toList)) := hv
      obtain ⟨t', rfl⟩ := hv'.int_inv
      have := h
      simp only [hm, if_true] at this
      exact this _
    · cases ha
  · rw [datumAt_D] at hn
    split at hn
    · cases hn
    · rename_i hm
      have := h td
      simp only [hm, if_false] at this
      exact this
end

/-- how many signs the longest piece ahead has been asked with -/
def best (c : List Nat) : Nat := if c.take 3 ∈ mkc then 3 else if c.take 2 ∈ mkc then 2 else 1
def symN (c : List Nat) : Int := if c.take (best c) ∈ mkc then numOf (c.take (best c)) else 256 + (c.getD 0 0 : Nat)
def plen (c : List Nat) : Nat := (c.take (best c)).length
noncomputable def syms : Nat → List Nat → List (Int × Int)
  | 0, _ => []
  | _ + 1, [] => []
  | n + 1, c :: r => (symN (c :: r), (plen (c :: r) : Nat)) :: syms n ((c :: r).drop (plen (c :: r)))
theorem best_pos (c : List Nat) : 1 ≤ best c ∧ best c ≤ 3 := by unfold best; split <;> (try split) <;> omega
theorem plen_pos {c : List Nat} (h : c ≠ []) : 1 ≤ plen c ∧ plen c ≤ 3 := by
  have := best_pos c
  have h2 : 1 ≤ c.length := by cases c with | nil => exact absurd rfl h | cons _ _ => simp
  unfold plen
  rw [List.length_take]
  omega
theorem syms_nil : ∀ n, syms n [] = []
  | 0 => rfl
  | _ + 1 => rfl
theorem syms_step {f : Nat} {l : List Nat} (h : l ≠ []) (hf : l.length ≤ f) : ∃ f', syms f l = (symN l, ((plen l : Nat) : Int)) :: syms f' (l.drop (plen l)) ∧ (l.drop (plen l)).length ≤ f' := by
  cases l with
  | nil => exact absurd rfl h
  | cons c r =>
    cases f with
    | zero => exact absurd hf (by simp)
    | succ f =>
      have := plen_pos h
      exact ⟨f, rfl, by rw [List.length_drop]; simp at hf ⊢; omega⟩
/-- what holds between the turns of the search for the longest piece -/
def PW (l : List Nat) (w : Int) : Prop := 1 ≤ w ∧ w ≤ 3 ∧ (w < 3 → l.take 3 ∉ mkc) ∧ (w < 2 → l.take 2 ∉ mkc)
theorem pw_start (l : List Nat) : PW l 3 := ⟨by decide, by decide, fun h => absurd h (by decide), fun h => absurd h (by decide)⟩
theorem pw_on {l : List Nat} {w : Int} (h : PW l w) (h1 : 1 < w) (h2 : l.take w.toNat ∉ mkc) : PW l (w - 1) := by
  obtain ⟨a, b, c, d⟩ := h
  refine ⟨by omega, by omega, fun h3 => ?_, fun h3 => ?_⟩
  · by_cases hw : w = 3
    · subst hw; exact h2
    · exact c (by omega)
  · have hw : w = 2 := by omega
    subst hw; exact h2
theorem pw_end1 {l : List Nat} {w : Int} (h : PW l w) (h1 : ¬ 1 < w) : best l = w.toNat := by
  obtain ⟨a, b, c, d⟩ := h
  have hw : w = 1 := by omega
  subst hw
  unfold best
  rw [if_neg (c (by decide)), if_neg (d (by decide))]; rfl
theorem pw_end2 {l : List Nat} {w : Int} (h : PW l w) (h1 : 1 < w) (h2 : l.take w.toNat ∈ mkc) : best l = w.toNat := by
  obtain ⟨a, b, c, d⟩ := h
  unfold best
  by_cases hw : w = 3
  · subst hw; rw [if_pos (show l.take 3 ∈ mkc from h2)]; rfl
  · have hw : w = 2 := by omega
    subst hw
    rw [if_neg (c (by decide)), if_pos (show l.take 2 ∈ mkc from h2)]; rfl
end Mine
theorem Mine.part7 : True := by
  k_with_none
  w_top off
  exact True.intro
end
section
open PySem PySem.W PyProof.Rows PySem.Spec PySem.Calls
set_option maxRecDepth 100000
set_option maxHeartbeats 8000000
set_option pp.deepTerms.threshold 4
namespace Mine
def alpha : List Nat := [34,42,61,46,60,47,62,40,41,91,93,58,44,59,43,45,124,38,37,123,125,126,94,64,33]
def Al (x : Str) : Prop := ∀ c ∈ x.cps.toList, c ∈ alpha

theorem cells_start : ([1,1,2,0,3] : List Int).length = 5 ∧ ∀ c ∈ ([1,1,2,0,3] : List Int), 0 ≤ c := by decide
theorem text_start : (Str.ofString "").length = ([] : List Int).length ∧ Al (Str.ofString "") := ⟨rfl, fun c h => nomatch h⟩
theorem cells_turn {cells : List Int} {i j : Nat} {x : Int} (h : cells.length = 5) (hc : ∀ c ∈ cells, 0 ≤ c) :
    (cells.set i (cells.getD j 0 + x.fmod 1000000)).length = 5 ∧ ∀ c ∈ cells.set i (cells.getD j 0 + x.fmod 1000000), 0 ≤ c := by
  refine ⟨by rw [List.length_set]; exact h, fun c hm => ?_⟩
  rcases List.mem_or_eq_of_mem_set hm with h1 | h1
  · exact hc c h1
  · subst h1
    have h2 : 0 ≤ cells.getD j 0 := by
      rw [List.getD_eq_getElem?_getD]
      cases hj : cells[j]? with
      | none => exact Int.le_refl _
      | some v => exact hc v (List.mem_of_getElem? hj)
    have h3 : 0 ≤ x.fmod 1000000 := Int.fmod_nonneg_of_pos _ (by decide)
    omega
theorem charAt_in {x : Str} {i : Int} (h0 : 0 ≤ i) (h1 : i < x.length) (hi : i.toNat < x.cps.size) : Txt.charAt x i = some x.cps[i.toNat] := by
  have e : x.length = x.cps.size := rfl
  have h2 : ¬ (i < 0) := by omega
  have : seqIndex? i x.length = some i.toNat := by
    unfold seqIndex?
    simp only [h2, if_false]
    rw [if_pos (by rw [Bool.and_eq_true]; exact ⟨decide_eq_true h0, decide_eq_true h1⟩)]
  unfold Txt.charAt
  rw [this]
  simp [hi]
theorem item_in {x : Str} (hx : Al x) {i : Int} (h0 : 0 ≤ i) (h1 : i < x.length) : Al (Txt.item x i) ∧ (Txt.item x i).length = 1 := by
  refine ⟨fun c hc => ?_, rfl⟩
  simp only [Txt.item, List.mem_singleton] at hc
  subst hc
  have hi : i.toNat < x.cps.size := by have : x.length = x.cps.size := rfl; omega
  rw [charAt_in h0 h1 hi]
  exact hx _ (by simp)
theorem text_turn {x y : Str} {n : Nat} (h : x.length = n) (hx : Al x) (hy : Al y ∧ y.length = 1) : (x ++ y).length = n + 1 ∧ Al (x ++ y) := by
  refine ⟨?_, fun c hc => ?_⟩
  · rw [Str.length_append, h, hy.2]
  · rw [Str.cps_append] at hc
    simp only [Array.toList_append, List.mem_append] at hc
    exact hc.elim (hx c) (hy.1 c)
theorem al_1 : Al (Str.ofString "()[]:,;+-|&%{}~^@!") := by unfold Al alpha; decide +kernel
theorem al_2 : Al (Str.ofString "\"*=.<>/") := by unfold Al alpha; decide +kernel
theorem turn_1 {x : Str} {pre : List Int} {n k : Int} (h : x.length = pre.length ∧ Al x) : (x ++ Txt.item (Str.ofString "()[]:,;+-|&%{}~^@!") (k.fmod 18)).length = (pre ++ [n]).length ∧ Al (x ++ Txt.item (Str.ofString "()[]:,;+-|&%{}~^@!") (k.fmod 18)) := by
  have := text_turn h.1 h.2 (item_in al_1 (i := k.fmod 18) (Int.fmod_nonneg_of_pos _ (by decide)) (by have := Int.fmod_lt_of_pos k (b := 18) (by decide); have e : (Str.ofString "()[]:,;+-|&%{}~^@!").length = 18 := by decide +kernel
                                                                                                      omega))
  rw [List.length_append]; exact this
theorem turn_2 {x : Str} {pre : List Int} {n k : Int} (h : x.length = pre.length ∧ Al x) (hk : ¬ k.fmod 8 = 7) : (x ++ Txt.item (Str.ofString "\"*=.<>/") (k.fmod 8)).length = (pre ++ [n]).length ∧ Al (x ++ Txt.item (Str.ofString "\"*=.<>/") (k.fmod 8)) := by
  have := text_turn h.1 h.2 (item_in al_2 (i := k.fmod 8) (Int.fmod_nonneg_of_pos _ (by decide)) (by have := Int.fmod_lt_of_pos k (b := 8) (by decide); have e : (Str.ofString "\"*=.<>/").length = 7 := by decide +kernel
                                                                                                     omega))
  rw [List.length_append]; exact this

theorem c_law_text (w : World) (dp un : Nat) (gd : Option (List Code)) (cn : Str) (cs : Scope) (a : Addr) (ccd : Value) (cl : List (Str × Addr)) (outer : List Env) (A₀ : Around) (base h₀ : Heap) (L : Addr) (m : Str → Option Value) (news : List (Addr × Obj)) (s : Shared) (Q E : Value → Shared → Prop) (p : Program) (loose : List Str) (mean : ExcName → Option Value) (mg mb : Str → Option Value)
  (l : Addr) (vs : List Value) (ns : List Int)
  (B : Below A₀ base outer h₀) (F : Fr h₀ L s.heap m) (X : (hd.heap_1 w.params).In h₀) (N : News h₀ L s.heap news) (T : Top p loose mean mg mb h₀) (hk : cs.kind = .function)
  (hl : base.IsList l vs.toArray) (hi : IntsAre vs ns) (hlen : ns.length ≤ 63)
  (hd : dp + 40 < recursionLimit) (hu : un + 400 < cLine)
  (ret : ∀ x t h' tk', x.length = 5 → Al x → Fr h₀ L h' m → News h₀ L h' news → Q (.str x t) {s with heap := h', toks := tk'}) :
  wpAny (model PySem.Challenge.rw_un0023_01.prog w) (ktrTop dp un gd cn cs L a ccd cl outer) (call (.ref 112) [.ref l]) Q E s := by
  revert X; k_fill; intro X
  k_with "pyIter ref" => (k_of "k" => k_state (fun _ cells => cells.length = 5 ∧ ∀ c ∈ cells, 0 ≤ c) "cells")
  k_with "pyIter ref" => (k_of "cell" => k_state (fun pre text => text.length = pre.length ∧ Al text) "text")
  k_with "state" => (first | with_reducible exact cells_turn (by assumption) (by assumption) | with_reducible exact cells_start | with_reducible exact text_start | with_reducible exact turn_1 ⟨by assumption, by assumption⟩ | with_reducible exact turn_2 ⟨by assumption, by assumption⟩ (by assumption))
  refine wpAny_call ?_
  k_dflt cell_enter
  k_steps
  exact ret _ _ _ _ (by omega) (by assumption) (by assumption) (cb_drop (by assumption) (fun p hp => List.mem_cons_of_mem _ hp))
end Mine
theorem Mine.part8 : True := by
  k_with_none
  w_top off
  exact True.intro
end
section
open PySem PySem.W PyProof.Rows PySem.Spec PySem.Calls
set_option maxRecDepth 100000
set_option maxHeartbeats 8000000
set_option pp.deepTerms.threshold 4
namespace Mine
local macro_rules | `(tactic| k_all) => `(tactic| with_reducible assumption)
local macro_rules | `(tactic| walk_at "binaryOp LShift int int") => `(tactic| (k_here; refine' lshift_int ?a ?b ?_; (case a => assumption); (case b => assumption)))
theorem c_digits2int {w : World} {dp un : Nat} {gd : Option (List Code)} {cn : Str} {cs : Scope} {a : Addr} {ccd : Value} {cl : List (Str × Addr)} {outer : List Env} {A₀ : Around} {base h₀ : Heap} {L : Addr} {m : Str → Option Value} {news : List (Addr × Obj)} {s : Shared} {Q E : Value → Shared → Prop} {p : Program} {loose : List Str} {mean : ExcName → Option Value} {mg mb : Str → Option Value} {T37 : List (Addr × Obj)} {l : Addr} {vs : List Value} {ns : List Int} {k : Nat} {n : Int} {tn : Tok}
  (B : Below A₀ base outer h₀) (F : Fr h₀ L s.heap m) (X : (hd.heap_1 w.params).In h₀) (T : Top p loose mean mg mb h₀) (hk : cs.kind = .function) (C37 : CodeHd h₀ 41 37) (G37 : TabG 37 47 4 (Str.ofString "_digits2int.<locals>.inner") T37) (hne : ∀ q ∈ news, q.1 ≠ 37) (hnl : @Ne Nat l 37)
  (N : News h₀ L s.heap (T37 ++ (l, W.listOf vs.toArray k) :: news)) (hi : IntsAre vs ns) (hb : ∀ x ∈ ns, 0 ≤ x ∧ x < 2 ^ n.toNat) (hpos : 0 < ns.length) (hlen : ns.length ≤ 20) (hn0 : 0 < n) (hn1 : n ≤ 100)
  (hdp : dp + 40 < recursionLimit) (hup : un + 400 < cLine)
  (ret : ∀ t h' tk' T37', TabG 37 47 4 (Str.ofString "_digits2int.<locals>.inner") T37' → Fr h₀ L h' m → News h₀ L h' (T37' ++ (l, W.listOf vs.toArray k) :: news) → Q (.int (dval n.toNat ns) t) {s with heap := h', toks := tk'}) :
  wpAny (model PySem.Challenge.rw_un0023_01.prog w) (ktrTop dp un gd cn cs L a ccd cl outer) (call (.ref 42) [.ref l, .int n tn]) Q E s := by
  revert X; k_fill; intro X
  refine wpAny_call ?_
  k_dflt (refine' code_defC ?k1 ?k2 ?k3 ?k4 ?k5 ?kA ?kF ?kK ?k6 ?k7 ?k8 ?k9 ?kB ?kD ?_ ?c2 ?c3 ?c4; (case kA => exact rfl); (case kF => exact rfl); (case kK => assumption); (case k1 => k_asm); (case k2 => k_asm); (case k3 => k_asm); (case k4 => k_asm); (case k5 => k_asm); (case k6 => k_is); (case k7 => k_is); (case k8 => ktr_room); (case k9 => exact BindsTo.of_eq rfl); (case kB => exact rfl); (case kD => decide +kernel); (case c2 => exact rfl); (case c3 => exact rfl); (case c4 => exact rfl); k_whole; intro g' L' h' tk' cells' FG' F' N' Y' B' X' T' l1; k_cells Y'; (try simp only [List.cons_append, List.nil_append] at N'); (try dsimp only); (try k_lift B'); (try k_fold))
  k_steps
  rename_i oI oN oD dI dN dD
  have h37 : @LT.lt Nat _ 37 L' := by
    rcases G37 with rfl | ⟨_, _, _, _, rfl, _⟩
    · exact l1 _ (.head _)
    · exact l1 _ (.head _)
  have hT : ∀ p ∈ T37, p.1 < L' := fun p hp => l1 p (List.mem_append_left _ hp)
  have hl : ∀ p ∈ news, p.1 < L' := fun p hp => l1 p (List.mem_append_right _ (List.mem_cons_of_mem _ hp))
  have hll : @LT.lt Nat _ l L' := l1 _ (List.mem_append_right _ (.head _))
  k_dflt (refine' nestDef_K ?d0 ?k0 ?a0 ?_; (case d0 => exact rfl); (case k0 => exact rfl); (case a0 => exact rfl))
  have N2 : News g' L' h' (T37 ++ ([(L' + 1 + 1 + 1, oI), (L' + 1 + 1, oN), (L' + 1, oD)] ++ (l, W.listOf vs.toArray k) :: news)) := cb_drop N' (by
    intro p hp
    simp only [List.mem_append, List.mem_cons, List.not_mem_nil, or_false] at hp ⊢
    grind)
  clear N'
  k_dflt (refine nest_any F' N2 T' (C37.keeps FG'.keep) rfl G37 ?_ ?_ rfl ?_)
  · intro q hq
    simp only [List.mem_append, List.mem_cons, List.not_mem_nil, or_false] at hq
    rcases hq with (rfl | rfl | rfl) | rfl | hq
    · refine neN ?_; (try dsimp only); omega
    · refine neN ?_; (try dsimp only); omega
    · refine neN ?_; (try dsimp only); omega
    · exact hnl
    · exact hne q hq
  · intro q hq p hp
    have := ltN (hT p hp)
    simp only [List.mem_cons, List.not_mem_nil, or_false] at hq
    rcases hq with rfl | rfl | rfl
    · refine ltN ?_; (try dsimp only); omega
    · refine ltN ?_; (try dsimp only); omega
    · refine ltN ?_; (try dsimp only); omega
  intro f1 c1 oc vs1 t1 ctv doc h2 tk2 F2 N3 hd2 hv2 hpc hlt hlt2 hlt3 hoc
  clear N2 F'
  have e1 : @LT.lt Nat _ (L' + 1 + 1 + 1) f1 := hlt _ (.head _)
  have e2 : @Ne Nat (L' + 1 + 1 + 1) c1 := hoc _ (.head _)
  have e3 : @Ne Nat (L' + 1 + 1) c1 := hoc _ (.tail _ (.head _))
  have e4 : @Ne Nat (L' + 1) c1 := hoc _ (.tail _ (.tail _ (.head _)))
  have e5 : ∀ p ∈ news, p.1 ≠ L' + 1 + 1 + 1 := fun p hp => by
    have := ltN (hl p hp)
    refine neN ?_; omega
  simp only [List.cons_append, List.nil_append] at N3
  have kMark : KstMark := kstMark
  have hvl : vs.length = ns.length := hi.length
  (try dsimp only)
  k_steps
  rename News _ _ _ _ => N4
  rename Fr _ _ _ _ => F4
  rename_i _ oI2 dI2 tk4
  refine tellsR_use (σ := Unit) (D := Nat × Nat) (Led := Function.const Unit _) (args := fun d as => ∃ t u, as = [.int (d.1 : Int) t, .int (d.2 : Int) u]) (Pre := fun d _ => d.1 < d.2 ∧ d.2 ≤ ns.length) (Post := fun d _ r _ => ∃ t, r = .int (dval n.toNat (cut ns d.1 d.2)) t) (sz := fun d => d.2 - d.1) (d := (0, ns.length)) (c := ()) (tellsR_of (K := hd.heap_1 w.params) ?step _) B' F4 X' N4 T' rfl ⟨_, _, rfl⟩ ⟨hpos, Nat.le_refl _⟩ ?room ?units ?fin
  case room => show dp + 1 + (ns.length - 0) < recursionLimit; omega
  case units => show un + 3 + 8 * (ns.length - 0) < cLine; omega
  case step =>
    clear F4 N4
    intro d IH
    unfold TellsR
    intro dp un gd cn cs a ccd cl outer A₀ base h₀ L m s as c Q E B F X N T hk ha hp hd1 hu1 ret
    obtain ⟨lo, up⟩ := d
    obtain ⟨t, u, rfl⟩ := ha
    dsimp only at hp hd1 hu1 ret
    dsimp only [Function.const] at N
    (try dsimp only)
    refine wpAny_call ?_
    k_dflt (refine' code_nest ?k1 ?k2 ?k3 ?k4 ?k5 ?kA ?kF ?kK ?k6 ?k7 ?k8 ?k9 ?kB ?_ ?c2 ?c3 ?c4 ?c5; (case kA => exact rfl); (case kF => exact rfl); (case kK => assumption); (case k1 => k_asm); (case k2 => k_asm); (case k3 => k_asm); (case k4 => k_asm); (case k5 => k_asm); (case k6 => k_mem); (case k7 => exact codeRec_news (by k_asm) (by k_mem) (by assumption) (by assumption)); (case k8 => ktr_room); (case k9 => exact BindsTo.of_eq rfl); (case c5 => decide); (case kB => exact locs rfl); (case c2 => exact rfl); (case c3 => exact rfl); (case c4 => exact rfl); k_whole; intro g' L' h' FG' F' N' B' X' T'; (try dsimp only); (try k_fold))
    k_steps
    · rename (_ : Int) = _ => hq
      have e9 : up = lo + 1 := by omega
      subst e9
      refine ret _ () _ _ (by assumption) (by assumption) ⟨_, congrArg (fun z => Value.int z _) ?_⟩
      rw [cut_one (by omega)]
      simp [dval]
    · rename (_ : Int) ≠ _ => hq
      rename News _ _ _ _ => N5
      rename Fr _ _ _ _ => F5
      have e1 : lo + 1 < up := by omega
      refine tellsR_use (d := ((lo + up) / 2, up)) (c := ()) (IH ((lo + up) / 2, up) (by show up - (lo + up) / 2 < up - lo; omega)) B' F5 X' N5 T' rfl ⟨_, _, congrArg (fun z => [Value.int z _, Value.int _ _]) (mid_eq lo up)⟩ ⟨by show (lo + up) / 2 < up; omega, hp.2⟩ ?room2 ?units2 ?fin2
      case room2 => show dp + 1 + (up - (lo + up) / 2) < recursionLimit; omega
      case units2 => show un + 3 + 8 * (up - (lo + up) / 2) < cLine; omega
      case fin2 =>
      clear F5 N5
      intro r c9 h9 tk9 F9 N9 hr
      obtain ⟨t9, rfl⟩ := hr
      dsimp only [Function.const] at N9
      dsimp only
      have hb1 : Builtin.Int.intBits (dval n.toNat (cut ns ((lo + up) / 2) up)) ≤ 3000 := by
        refine Nat.le_trans (dval_bits fun x hx => hb x (cut_mem hx)) ?_
        rw [cut_len hp.2]
        exact mul_le2 (by omega) (by omega)
      obtain ⟨hA, hB, hC⟩ := shift_facts (x := dval n.toNat (cut ns ((lo + up) / 2) up)) (Nat.le_of_lt hp.1) (Nat.le_trans hp.2 hlen) hn0 hn1 hb1
      k_steps
      rename News _ _ _ _ => N5
      rename Fr _ _ _ _ => F5
      refine tellsR_use (d := (lo, (lo + up) / 2)) (c := ()) (IH (lo, (lo + up) / 2) (by show (lo + up) / 2 - lo < up - lo; omega)) B' F5 X' N5 T' rfl ⟨_, _, congrArg (fun z => [Value.int _ _, Value.int z _]) (mid_eq lo up)⟩ ⟨by show lo < (lo + up) / 2; omega, by show (lo + up) / 2 ≤ ns.length; omega⟩ ?room3 ?units3 ?fin3
      case room3 => show dp + 1 + ((lo + up) / 2 - lo) < recursionLimit; omega
      case units3 => show un + 3 + 8 * ((lo + up) / 2 - lo) < cLine; omega
      case fin3 =>
      clear F5 N5
      intro r c10 h10 tk10 F10 N10 hr
      obtain ⟨t10, rfl⟩ := hr
      dsimp only [Function.const] at N10
      dsimp only
      k_steps
      refine ret _ () _ _ (by assumption) (by assumption) ⟨_, congrArg (fun z => Value.int z _) ?_⟩
      rw [hC]
      exact (dval_cut (n := n.toNat) (xs := ns) (lo := lo) (mid := (lo + up) / 2) (hi := up) (by omega) (by omega) hp.2).symm
  case fin =>
    clear F4 N4
    intro r c10 h10 tk10 F10 N10 hr
    obtain ⟨t10, rfl⟩ := hr
    dsimp only [Function.const] at N10
    dsimp only
    rw [cut_whole]
    k_steps
    rename News h₀ _ _ _ => N11
    refine ret _ _ _ [(37, tabObj #[rawInt 47, rawInt 4, .ref c1]), (c1, oc)] (.inr ⟨c1, oc, vs1, t1, rfl, hd2, hv2, hpc⟩) (by assumption) (cb_drop N11 ?_)
    intro p hp
    simp only [List.mem_append, List.mem_cons, List.not_mem_nil, or_false] at hp ⊢
    grind
end Mine
theorem Mine.part9 : True := by
  k_with_none
  w_top off
  exact True.intro
end
section
open PySem PySem.W PyProof.Rows PySem.Spec PySem.Calls
set_option maxRecDepth 100000
set_option maxHeartbeats 8000000
set_option pp.deepTerms.threshold 4
namespace Mine
local macro_rules | `(tactic| k_all) => `(tactic| with_reducible assumption)
local macro_rules | `(tactic| walk_at "binaryOp LShift int int") => `(tactic| (k_here; refine' lshift_int ?a ?b ?_; (case a => assumption); (case b => assumption)))
local macro_rules | `(tactic| walk_at "binaryOp RShift int int") => `(tactic| (k_here; refine' rshift_int ?a ?_; (case a => assumption)))
abbrev q30 : Str := Str.ofString "_int2digits.<locals>.inner"
def LedH (D : Addr) (e : List (Addr × Obj)) (c : List Value × List Int × Nat) : List (Addr × Obj) := (D, W.listOf c.1.toArray c.2.2) :: e
section
variable {g h : Heap} {L a1 a2 a3 a4 a5 a6 a7 : Addr} {o1 o2 o3 o4 o5 o6 o7 : Obj} {T news : List (Addr × Obj)}
theorem ord2 (N : News g L h ((a1,o1)::(a2,o2)::(a3,o3)::(a4,o4)::(a5,o5)::(T ++ news))) : News g L h (T ++ ([(a1,o1),(a3,o3),(a4,o4),(a5,o5)] ++ news)) := cb_drop N (by
  intro p hp
  simp only [List.mem_append, List.mem_cons, List.not_mem_nil, or_false] at hp ⊢
  grind)
theorem ord3 (N : News g L h ((a1,o1)::(a2,o2)::(a3,o3)::(a4,o4)::(a5,o5)::(a6,o6)::(a7,o7)::news)) : News g L h ((a4,o4)::(a1,o1)::(a2,o2)::(a3,o3)::(a5,o5)::(a6,o6)::(a7,o7)::news) := cb_drop N (by
  intro p hp
  simp only [List.mem_append, List.mem_cons, List.not_mem_nil, or_false] at hp ⊢
  grind)
end
theorem c_int2digits {w : World} {dp un : Nat} {gd : Option (List Code)} {cn : Str} {cs : Scope} {a : Addr} {ccd : Value} {cl : List (Str × Addr)} {outer : List Env} {A₀ : Around} {base h₀ : Heap} {L : Addr} {m : Str → Option Value} {news : List (Addr × Obj)} {s : Shared} {Q E : Value → Shared → Prop} {p : Program} {loose : List Str} {mean : ExcName → Option Value} {mg mb : Str → Option Value} {T30 : List (Addr × Obj)} {x n : Int} {tx tn : Tok}
  (B : Below A₀ base outer h₀) (F : Fr h₀ L s.heap m) (X : (hd.heap_1 w.params).In h₀) (T : Top p loose mean mg mb h₀) (hk : cs.kind = .function) (C30 : CodeHd h₀ 34 30) (G30 : TabG 30 32 4 q30 T30) (hne : ∀ q ∈ news, q.1 ≠ 30)
  (N : News h₀ L s.heap (T30 ++ news)) (hx0 : 0 < x) (hn0 : 0 < n) (hn1 : n ≤ 100) (hxb : Builtin.Int.intBits x ≤ n.toNat * 20)
  (hdp : dp + 40 < recursionLimit) (hup : un + 400 < cLine)
  (ret : ∀ l us ns k h' tk' T30', TabG 30 32 4 q30 T30' → IntsAre us ns → dval n.toNat ns = x → (∀ y ∈ ns, 0 ≤ y ∧ y < 2 ^ n.toNat) → ns.length = (Builtin.Int.intBits x + n.toNat - 1) / n.toNat →
    Fr h₀ L h' m → News h₀ L h' ((l, W.listOf us.toArray k) :: (T30' ++ news)) → (∀ q ∈ T30 ++ news, q.1 < l) → (∀ q ∈ T30', q.1 ≠ l) → Q (.ref l) {s with heap := h', toks := tk'}) :
  wpAny (model PySem.Challenge.rw_un0023_01.prog w) (ktrTop dp un gd cn cs L a ccd cl outer) (call (.ref 35) [.int x tx, .int n tn]) Q E s := by
  revert X; k_fill; intro X
  obtain ⟨hq0, hq1⟩ := count_facts hn0 hxb
  refine wpAny_call ?_
  k_dflt (refine' code_defC ?k1 ?k2 ?k3 ?k4 ?k5 ?kA ?kF ?kK ?k6 ?k7 ?k8 ?k9 ?kB ?kD ?_ ?c2 ?c3 ?c4; (case kA => exact rfl); (case kF => exact rfl); (case kK => assumption); (case k1 => k_asm); (case k2 => k_asm); (case k3 => k_asm); (case k4 => k_asm); (case k5 => k_asm); (case k6 => k_is); (case k7 => k_is); (case k8 => ktr_room); (case k9 => exact BindsTo.of_eq rfl); (case kB => exact rfl); (case kD => decide +kernel); (case c2 => exact rfl); (case c3 => exact rfl); (case c4 => exact rfl); k_whole; intro g' L' h' tk' cells' FG' F' N' Y' B' X' T' l1; k_cells Y'; (try simp only [List.cons_append, List.nil_append] at N'); (try dsimp only); (try k_lift B'); (try k_fold))
  have h30 : @LT.lt Nat _ 30 L' := by
    rcases G30 with rfl | ⟨_, _, _, _, rfl, _⟩
    · exact l1 _ (.head _)
    · exact l1 _ (.head _)
  have hT : ∀ p ∈ T30, p.1 < L' := fun p hp => l1 p (List.mem_append_left _ hp)
  have hl : ∀ p ∈ news, p.1 < L' := fun p hp => l1 p (List.mem_append_right _ hp)
  have e5 : ∀ p ∈ T30 ++ news, p.1 ≠ L' + 1 + 1 := fun p hp => by
    have := ltN (l1 p hp)
    refine neN ?_; omega
  have e6 : ∀ p ∈ news, p.1 ≠ L' + 1 + 1 + 1 := fun p hp => by
    have := ltN (hl p hp)
    refine neN ?_; omega
  have kMark : KstMark := kstMark
  rename_i oI oA oN dI dA dN
  k_steps
  rename News _ _ _ _ => N2
  rename Fr _ _ _ _ => F2
  rename IntsAre _ _ => i2
  rename_i lz _ olz D9 _ n1 s1 ec1 ec2 ec3 oD h2 oA2 dA2
  have N3 := ord2 N2
  have oD1 : @LT.lt Nat _ L' D9 := by omega
  clear N2
  k_dflt (refine' nestDef_K ?d0 ?k0 ?a0 ?_; (case d0 => exact rfl); (case k0 => exact rfl); (case a0 => exact rfl))
  k_dflt (refine nest_any F2 N3 T' (C30.keeps FG'.keep) rfl G30 ?_ ?_ rfl ?_)
  · intro q hq
    simp only [List.mem_append, List.mem_cons, List.not_mem_nil, or_false] at hq
    rcases hq with (rfl | rfl | rfl | rfl) | hq
    · refine neN ?_; (try dsimp only); omega
    · refine neN ?_; (try dsimp only); omega
    · refine neN ?_; (try dsimp only); omega
    · refine neN ?_; (try dsimp only); omega
    · exact hne q hq
  · intro q hq p hp
    have := ltN (hT p hp)
    simp only [List.mem_cons, List.not_mem_nil, or_false] at hq
    rcases hq with rfl | rfl | rfl | rfl
    · refine ltN ?_; (try dsimp only); omega
    · refine ltN ?_; (try dsimp only); omega
    · refine ltN ?_; (try dsimp only); omega
    · refine ltN ?_; (try dsimp only); omega
  intro f1 c1 oc vs1 t1 ctv doc h3 tk3 F3 N4 hd2 hv2 hpc hlt hlt2 hlt3 hoc
  clear N3 F2
  have p1 : @LT.lt Nat _ D9 f1 := hlt _ (.head _)
  have p2 : @Ne Nat D9 c1 := hoc _ (.head _)
  have p3 : @Ne Nat (L' + 1 + 1 + 1) c1 := hoc _ (.tail _ (.head _))
  have p4 : @Ne Nat (L' + 1 + 1) c1 := hoc _ (.tail _ (.tail _ (.head _)))
  have p5 : @Ne Nat (L' + 1) c1 := hoc _ (.tail _ (.tail _ (.tail _ (.head _))))
  have e7 : ∀ p ∈ news, p.1 ≠ D9 := fun p hp => by
    have := ltN (hl p hp)
    refine neN ?_; omega
  simp only [List.cons_append, List.nil_append] at N4
  have hxn : x ≠ 0 := by omega
  (try dsimp only)
  k_steps
  all_goals try (exfalso; omega)
  rename News _ _ _ _ => N5
  rename Fr _ _ _ _ => F5
  have N6 := ord3 N5
  have hc1 : (n1 : Int) = (((Builtin.Int.intBits x + n.toNat - 1) / n.toNat : Nat) : Int) := by
    have := ec3 hq0
    rw [count_eq hn0] at this
    simpa using this
  have hc2 : n1 = (Builtin.Int.intBits x + n.toNat - 1) / n.toNat := Int.ofNat_inj.mp hc1
  have hc3 : 0 < n1 := hc2 ▸ count_pos hn0 hx0
  have hc4 : n1 ≤ 20 := by
    rw [count_eq hn0, ← hc1] at hq1
    omega
  have hc5 : x < 2 ^ (n.toNat * n1) := hc2 ▸ lt_count hn0 hx0
  refine tellsR_use (σ := List Value × List Int × Nat) (D := Int × Nat × Nat) (Led := LedH D9 _) (args := fun d as => ∃ t u v, as = [.int d.1 t, .int (d.2.1 : Int) u, .int (d.2.2 : Int) v])
    (Pre := fun d c => IntsAre c.1 c.2.1 ∧ c.2.1.length = n1 ∧ d.2.1 < d.2.2 ∧ d.2.2 ≤ n1 ∧ 0 ≤ d.1 ∧ d.1 < 2 ^ (n.toNat * (d.2.2 - d.2.1)))
    (Post := fun d c r c' => r = .none ∧ IntsAre c'.1 c'.2.1 ∧ ∃ ys, c'.2.1 = put c.2.1 d.2.1 ys ∧ ys.length = d.2.2 - d.2.1 ∧ dval n.toNat ys = d.1 ∧ ∀ y ∈ ys, 0 ≤ y ∧ y < 2 ^ n.toNat)
    (sz := fun d => d.2.2 - d.2.1) (d := (x, 0, n1)) (c := (_, _, 0)) (tellsR_of (K := hd.heap_1 w.params) ?step _) B' F5 X' N6 T' rfl ⟨_, _, _, congrArg (fun z => [Value.int _ _, Value.int _ _, Value.int ((z : Nat) : Int) _]) ec1⟩ ⟨i2, ec1, hc3, Nat.le_refl _, Int.le_of_lt hx0, hc5⟩ ?room ?units ?fin
  case room => show dp + 1 + (n1 - 0) < recursionLimit; omega
  case units => show un + 3 + 8 * (n1 - 0) < cLine; omega
  case step =>
    clear F5 N5 N6 i2
    intro d IH
    unfold TellsR
    intro dp un gd cn cs a ccd cl outer A₀ base h₀ L m s as c Q E B F X N T hk ha hp hd1 hu1 ret
    obtain ⟨y, lo, up⟩ := d
    obtain ⟨us, ds, kk⟩ := c
    obtain ⟨t, u, v, rfl⟩ := ha
    dsimp only at hp hd1 hu1 ret
    obtain ⟨hi1, hlen1, hlo, hhi, hy0, hy1⟩ := hp
    dsimp only [LedH] at N
    (try dsimp only)
    have hul : us.length = ds.length := hi1.length
    have hb1 : Builtin.Int.intBits (y.fdiv (2 ^ ((((lo : Int) + up).fdiv (2 ^ (1 : Int).toNat) - lo) * n).toNat)) ≤ 3000 := intBits_fdiv_le (Nat.le_trans (bits_of hy0 hy1) (mul_le2 (by omega) (by omega)))
    obtain ⟨hA, hB, hC⟩ := shift_facts (x := y.fdiv (2 ^ ((((lo : Int) + up).fdiv (2 ^ (1 : Int).toNat) - lo) * n).toNat)) (Nat.le_of_lt hlo) (Nat.le_trans hhi hc4) hn0 hn1 hb1
    refine wpAny_call ?_
    k_dflt (refine' code_nest ?k1 ?k2 ?k3 ?k4 ?k5 ?kA ?kF ?kK ?k6 ?k7 ?k8 ?k9 ?kB ?_ ?c2 ?c3 ?c4 ?c5; (case kA => exact rfl); (case kF => exact rfl); (case kK => assumption); (case k1 => k_asm); (case k2 => k_asm); (case k3 => k_asm); (case k4 => k_asm); (case k5 => k_asm); (case k6 => k_mem); (case k7 => exact codeRec_news (by k_asm) (by k_mem) (by assumption) (by assumption)); (case k8 => ktr_room); (case k9 => exact BindsTo.of_eq rfl); (case c5 => decide); (case kB => exact locs rfl); (case c2 => exact rfl); (case c3 => exact rfl); (case c4 => exact rfl); k_whole; intro g' L' h' FG' F' N' B' X' T'; (try dsimp only); (try k_fold))
    k_steps
    · rename (_ : Int) = _ => hq
      have e9 : up = lo + 1 := by omega
      subst e9
      have en : lo + 1 - lo = 1 := by omega
      rw [en, Nat.mul_one] at hy1
      refine ret .none (_, ds.set lo y, kk) _ _ (by assumption) (by assumption) ⟨rfl, by assumption, [y], put_one (by omega), en.symm, by simp [dval], ?_⟩
      intro z hz
      rw [List.mem_singleton.mp hz]
      exact ⟨hy0, hy1⟩
    · rename (_ : Int) ≠ _ => hq
      rename News _ _ _ _ => N5
      rename Fr _ _ _ _ => F5
      have g1 : lo + 1 < up := by omega
      have g2 : lo < (lo + up) / 2 := by omega
      have g3 : (lo + up) / 2 < up := by omega
      have gx : Builtin.bitXor y (y.fdiv (2 ^ ((((lo : Int) + up).fdiv (2 ^ (1 : Int).toNat) - lo) * n).toNat) * 2 ^ ((((lo : Int) + up).fdiv (2 ^ (1 : Int).toNat) - lo) * n).toNat) = y % 2 ^ (n.toNat * ((lo + up) / 2 - lo)) := by
        rw [hC]; exact xor_low hy0 _
      have gl := low_bounds (x := y) (n.toNat * ((lo + up) / 2 - lo))
      rw [← gx] at gl
      have gs : up - lo = ((lo + up) / 2 - lo) + (up - (lo + up) / 2) := by omega
      have gy : y < 2 ^ (n.toNat * ((lo + up) / 2 - lo) + n.toNat * (up - (lo + up) / 2)) := by
        rw [← Nat.mul_add, ← gs]
        exact hy1
      have gu := high_bounds hy0 gy
      rw [← hC] at gu
      refine tellsR_use (c := (us, ds, kk)) (d := ((Builtin.bitXor y ((y.fdiv (2 ^ ((((lo : Int) + up).fdiv (2 ^ (1 : Int).toNat) - lo) * n).toNat)) * 2 ^ ((((lo : Int) + up).fdiv (2 ^ (1 : Int).toNat) - lo) * n).toNat)), lo, (lo + up) / 2)) (IH ((Builtin.bitXor y ((y.fdiv (2 ^ ((((lo : Int) + up).fdiv (2 ^ (1 : Int).toNat) - lo) * n).toNat)) * 2 ^ ((((lo : Int) + up).fdiv (2 ^ (1 : Int).toNat) - lo) * n).toNat)), lo, (lo + up) / 2) (by show (lo + up) / 2 - lo < up - lo; omega)) B' F5 X' N5 T' rfl ⟨_, _, _, congrArg (fun z => [Value.int _ _, Value.int _ _, Value.int z _]) (mid_eq lo up)⟩
        ⟨hi1, hlen1, g2, by show (lo + up) / 2 ≤ n1; omega, gl.1, gl.2⟩ ?room2 ?units2 ?fin2
      case room2 => show dp + 1 + ((lo + up) / 2 - lo) < recursionLimit; omega
      case units2 => show un + 3 + 8 * ((lo + up) / 2 - lo) < cLine; omega
      case fin2 =>
      clear F5 N5
      intro r c9 h9 tk9 F9 N9 hr
      obtain ⟨us9, ds9, kk9⟩ := c9
      obtain ⟨rfl, hi9, ys, he9, hy9, hv9, hb9⟩ := hr
      dsimp only [LedH] at N9
      dsimp only at he9 hy9 hv9 hi9
      dsimp only
      k_steps
      rename News _ _ _ _ => N5
      rename Fr _ _ _ _ => F5
      have hlen9 : ds9.length = n1 := by
        rw [he9, put_length (by rw [hy9]; omega)]
        exact hlen1
      refine tellsR_use (c := (us9, ds9, kk9)) (d := ((y.fdiv (2 ^ ((((lo : Int) + up).fdiv (2 ^ (1 : Int).toNat) - lo) * n).toNat)), (lo + up) / 2, up)) (IH ((y.fdiv (2 ^ ((((lo : Int) + up).fdiv (2 ^ (1 : Int).toNat) - lo) * n).toNat)), (lo + up) / 2, up) (by show up - (lo + up) / 2 < up - lo; omega)) B' F5 X' N5 T' rfl ⟨_, _, _, congrArg (fun z => [Value.int _ _, Value.int z _, Value.int _ _]) (mid_eq lo up)⟩
        ⟨hi9, hlen9, g3, hhi, gu.1, gu.2⟩ ?room3 ?units3 ?fin3
      case room3 => show dp + 1 + (up - (lo + up) / 2) < recursionLimit; omega
      case units3 => show un + 3 + 8 * (up - (lo + up) / 2) < cLine; omega
      case fin3 =>
      clear F5 N5
      intro r c10 h10 tk10 F10 N10 hr
      obtain ⟨us10, ds10, kk10⟩ := c10
      obtain ⟨rfl, hi10, ys2, he10, hy10, hv10, hb10⟩ := hr
      dsimp only [LedH] at N10
      dsimp only at he10 hy10 hv10 hi10
      dsimp only
      k_steps
      refine ret .none (us10, ds10, kk10) _ _ (by assumption) (by assumption) ⟨rfl, hi10, ys ++ ys2, ?_, ?_, ?_, ?_⟩
      · show ds10 = _
        rw [he10, he9]
        exact put_put (by rw [hy9]; omega) (by rw [hy10]; omega)
      · rw [List.length_append, hy9, hy10]
        show _ = up - lo
        omega
      · rw [dval_append, hv9, hv10, hy9, gx, hC]
        exact low_high _
      · intro z hz
        exact (List.mem_append.mp hz).elim (hb9 z) (hb10 z)
  case fin =>
    clear F5 N5 N6
    intro r c9 h9 tk9 F9 N9 hr
    obtain ⟨us9, ds9, kk9⟩ := c9
    obtain ⟨rfl, hi9, ys, he9, hy9, hv9, hb9⟩ := hr
    dsimp only [LedH] at N9
    dsimp only at he9 hy9 hv9 hi9
    dsimp only
    k_steps
    rename News h₀ _ _ _ => N11
    have e9 : ds9 = ys := by
      rw [he9]
      exact put_whole (by rw [hy9, ec1]; omega)
    subst e9
    refine ret D9 us9 ds9 kk9 _ _ [(30, tabObj #[rawInt 32, rawInt 4, .ref c1]), (c1, oc)] (.inr ⟨c1, oc, vs1, t1, rfl, hd2, hv2, hpc⟩) hi9 hv9 hb9 (by rw [hy9, ← hc2]; omega) (by assumption) (cb_drop N11 ?_) ?_ ?_
    · intro p hp
      simp only [List.mem_append, List.mem_cons, List.not_mem_nil, or_false] at hp ⊢
      grind
    · intro q hq
      have := ltN (l1 q hq)
      refine ltN ?_; omega
    · intro q hq
      simp only [List.mem_cons, List.not_mem_nil, or_false] at hq
      rcases hq with rfl | rfl
      · refine neN ?_; (try dsimp only); omega
      · refine neN ?_; (try dsimp only); omega
end Mine
theorem Mine.part10 : True := by
  k_with_none
  w_top off
  exact True.intro
end
section
open PySem PySem.W PyProof.Rows PySem.Spec PySem.Calls
set_option maxRecDepth 100000
set_option maxHeartbeats 8000000
set_option pp.deepTerms.threshold 4
namespace Mine
local macro_rules | `(tactic| k_all) => `(tactic| with_reducible assumption)
theorem c_div2n1n {w : World} {dp un : Nat} {gd : Option (List Code)} {cn : Str} {cs : Scope} {a : Addr} {ccd : Value} {cl : List (Str × Addr)} {outer : List Env} {A₀ : Around} {base h₀ : Heap} {L : Addr} {m : Str → Option Value} {news : List (Addr × Obj)} {s : Shared} {Q E : Value → Shared → Prop} {p : Program} {loose : List Str} {mean : ExcName → Option Value} {mg mb : Str → Option Value} {x y n : Int} {tx ty tn : Tok}
  (B : Below A₀ base outer h₀) (F : Fr h₀ L s.heap m) (X : (hd.heap_1 w.params).In h₀) (T : Top p loose mean mg mb h₀) (hk : cs.kind = .function) (N : News h₀ L s.heap news) (hy0 : 0 < y) (hyb : y.natAbs.log2 < 9000) (hxb : (Builtin.Int.intBits x : Int) - n ≤ 4000)
  (hdp : dp + 40 < recursionLimit) (hup : un + 400 < cLine)
  (ret : ∀ l t1 t2 k h' tk', Fr h₀ L h' m → News h₀ L h' ((l, { cls := .type "tuple", data := .seq #[.int (x.fdiv y) t1, .int (x.fmod y) t2] k }) :: news) → (∀ q ∈ news, q.1 < l) → Q (.ref l) {s with heap := h', toks := tk'}) :
  wpAny (model PySem.Challenge.rw_un0023_01.prog w) (ktrTop dp un gd cn cs L a ccd cl outer) (call (.ref 21) [.int x tx, .int y ty, .int n tn]) Q E s := by
  revert X; k_fill; intro X
  have hy1 : y ≠ 0 := by omega
  refine wpAny_call ?_
  k_dflt cell_enter
  k_steps
  rename News _ _ _ _ => N2
  rename Fr _ _ _ _ => F2
  have hlt := fun (p : Addr × Obj) (hp : p ∈ news) => Heap.lt_size (N2 p hp).1
  refine divmod_N F2 N2 hy1 (fun h' F3 N3 => ?_) (Or.inl (PyProof.noPylong_of_log2 hyb))
  k_steps
  exact ret _ _ _ _ _ _ (by assumption) (by assumption) hlt
end Mine
theorem Mine.part11 : True := by
  k_with_none
  w_top off
  exact True.intro
end
section
open PySem PySem.W PyProof.Rows PySem.Spec PySem.Calls
set_option maxRecDepth 100000
set_option maxHeartbeats 8000000
set_option pp.deepTerms.threshold 4
namespace Mine
local macro_rules | `(tactic| k_all) => `(tactic| with_reducible assumption)
local macro_rules | `(tactic| walk_at "binaryOp LShift int int") => `(tactic| (k_here; refine' lshift_int ?a ?b ?_; (case a => assumption); (case b => assumption)))
abbrev q37 : Str := Str.ofString "_digits2int.<locals>.inner"
theorem ord4 {g h : Heap} {L a1 a2 : Addr} {o1 o2 : Obj} {T T' news : List (Addr × Obj)} (N : News g L h ((a1,o1)::(a2,o2)::(T' ++ (T ++ news)))) : News g L h (T ++ (a1,o1) :: (T' ++ news)) := cb_drop N (by
  intro p hp
  simp only [List.mem_append, List.mem_cons] at hp ⊢
  grind)
theorem ord5 {g h : Heap} {L a1 a2 : Addr} {o1 o2 : Obj} {T T' news : List (Addr × Obj)} (N : News g L h ((a1,o1)::(T ++ (a2,o2)::(T' ++ news)))) : News g L h ((a1,o1)::(T' ++ (T ++ news))) := cb_drop N (by
  intro p hp
  simp only [List.mem_append, List.mem_cons] at hp ⊢
  grind)
theorem c_divmod_pos {w : World} {dp un : Nat} {gd : Option (List Code)} {cn : Str} {cs : Scope} {a : Addr} {ccd : Value} {cl : List (Str × Addr)} {outer : List Env} {A₀ : Around} {base h₀ : Heap} {L : Addr} {m : Str → Option Value} {news : List (Addr × Obj)} {s : Shared} {Q E : Value → Shared → Prop} {p : Program} {loose : List Str} {mean : ExcName → Option Value} {mg mb : Str → Option Value} {T30 T37 : List (Addr × Obj)} {x y : Int} {tx ty : Tok}
  (B : Below A₀ base outer h₀) (F : Fr h₀ L s.heap m) (X : (hd.heap_1 w.params).In h₀) (T : Top p loose mean mg mb h₀) (hk : cs.kind = .function) (C30 : CodeHd h₀ 34 30) (C37 : CodeHd h₀ 41 37) (G30 : TabG 30 32 4 q30 T30) (G37 : TabG 37 47 4 q37 T37) (hne30 : ∀ q ∈ news, q.1 ≠ 30) (hne37 : ∀ q ∈ news, q.1 ≠ 37)
  (N : News h₀ L s.heap (T30 ++ (T37 ++ news))) (hx0 : 0 < x) (hy0 : 0 < y) (hyb : Builtin.Int.intBits y ≤ 100) (hxb : Builtin.Int.intBits x ≤ Builtin.Int.intBits y * 20)
  (hdp : dp + 45 < recursionLimit) (hup : un + 440 < cLine)
  (ret : ∀ l q r t1 t2 k h' tk' T30' T37', TabG 30 32 4 q30 T30' → TabG 37 47 4 q37 T37' → x = q * y + r → 0 ≤ r → r < y →
    Fr h₀ L h' m → News h₀ L h' ((l, { cls := .type "tuple", data := .seq #[.int q t1, .int r t2] k }) :: (T30' ++ (T37' ++ news))) → (∀ q ∈ T30' ++ (T37' ++ news), q.1 < l) → Q (.ref l) {s with heap := h', toks := tk'}) :
  wpAny (model PySem.Challenge.rw_un0023_01.prog w) (ktrTop dp un gd cn cs L a ccd cl outer) (call (.ref 49) [.int x tx, .int y ty]) Q E s := by
  revert X; k_fill; intro X
  refine wpAny_call ?_
  k_dflt cell_enter
  k_steps
  rename_i g' L' hL' FG' F' N' B' X' T' _
  rename News _ _ _ _ => N2
  rename Fr h₀ _ _ _ => FG
  rename Fr _ _ _ _ => F2
  rename Below _ _ _ _ => B2
  rename Top _ _ _ _ _ _ => T2
  rename Frag.In _ _ => X2
  have hn0 : 0 < (Builtin.Int.intBits y : Int) := by have := bits_pos hy0; omega
  have hn1 : (Builtin.Int.intBits y : Int) ≤ 100 := by omega
  have hnt : (Builtin.Int.intBits y : Int).toNat = Builtin.Int.intBits y := rfl
  have hne30' : ∀ q ∈ T37 ++ news, q.1 ≠ 30 := fun q hq => by
    rcases List.mem_append.mp hq with hq | hq
    · exact tab_ne N2 (fun p hp => List.mem_append_left _ hp) (fun p hp => List.mem_append_right _ (List.mem_append_left _ hp)) G30 G37 (by decide) q hq
    · exact hne30 q hq
  refine c_int2digits B2 F2 X2 T2 rfl (C30.keeps FG.keep) G30 hne30' N2 hx0 hn0 hn1 hxb (by show dp + 1 + 40 < _; omega) (by show un + 3 + 400 < _; omega) ?_
  intro dl us ds k h3 tk3 T30' G30' i1 hv1 hb1 hlen1 F3 N3 hlt1 hne1
  clear F2 N2
  dsimp only
  have kMark : KstMark := kstMark
  k_steps
  rename_i ha tka hb lq hc olq hd D he F4 N4 oD
  rw [hnt] at hv1 hb1 hlen1
  have hyl : y.natAbs.log2 < 9000 := by
    have : Builtin.Int.intBits y = y.natAbs.log2 + 1 := by
      unfold Builtin.Int.intBits
      have : (y == 0) = false := by simp; omega
      rw [this]; rfl
    omega
  have hds20 : ds.length ≤ 20 := by
    have h1 := (count_facts hn0 hxb).2
    rw [count_eq hn0] at h1
    rw [hlen1]
    exact Int.ofNat_le.mp h1
  have hds0 : 0 < ds.length := by
    rw [hlen1]
    exact count_pos hn0 hx0
  have hy2 : y < 2 ^ Builtin.Int.intBits y := by
    have h4 := intBits_le_iff.mp (Nat.le_refl (Builtin.Int.intBits y))
    have h5 := toNat_pow2 (Builtin.Int.intBits y)
    omega
  refine' rev_state (σ := List Value × List Int × Nat × Int × Tok) (ds := ds) (k := k) (fun c => (lq, W.listOf c.1.toArray c.2.2.1) :: (dl, W.listOf us.toArray k) :: (T30' ++ (T37 ++ news))) (fun c => [(Str.ofString "r", .int c.2.2.2.1 c.2.2.2.2)]) [Str.ofString "q_digit"]
    (fun pre c => IntsAre c.1 c.2.1 ∧ 0 ≤ c.2.2.2.1 ∧ c.2.2.2.1 < y ∧ mval (Builtin.Int.intBits y) pre = mval (Builtin.Int.intBits y) c.2.1 * y + c.2.2.2.1 ∧ c.2.1.length = pre.length ∧ ∀ z ∈ c.2.1, 0 ≤ z ∧ z < 2 ^ Builtin.Int.intBits y)
    ([], [], 0, 0, _) rfl i1 F4 N4 (fun c => .tail _ (.head _)) ?hoff ?hk ?hp ?turn ?done
  case hk => kst_all
  case hp => exact ⟨.nil, Int.le_refl _, hy0, by simp [mval], rfl, fun z hz => nomatch hz⟩
  case hoff =>
    intro c q hq
    rcases List.mem_cons.mp hq with rfl | hq
    · refine neN ?_; (try dsimp only); omega
    rcases List.mem_cons.mp hq with rfl | hq
    · refine neN ?_; (try dsimp only); omega
    exact Nat.ne_of_lt (ktn_ltOf oD.2.2 q hq)
  case turn =>
    intro c pre d post t u it h tk he hP F5 N5
    obtain ⟨qs, qi, cn9, r9, tr9⟩ := c
    obtain ⟨hq1, hr0, hr1, hmv, hql, hqb⟩ := hP
    dsimp only at hq1 hr0 hr1 hmv hql hqb
    dsimp only [kstB] at F5
    dsimp only at N5
    have hpl : pre.length < ds.length := by
      have := congrArg List.length he
      simp at this
      omega
    have hqs : qs.length ≤ 20 := by
      have := hq1.length
      omega
    have hdm : d ∈ ds := by
      rw [← List.mem_reverse, he]
      simp
    obtain ⟨hd0, hd1⟩ := hb1 d hdm
    have hA : 0 ≤ (Builtin.Int.intBits y : Int) := Int.natCast_nonneg _
    have hB : (Builtin.Int.intBits r9 : Int) + (Builtin.Int.intBits y : Int) ≤ 2 ^ 27 := by
      have h1 := bits_of hr0 (Int.lt_trans hr1 hy2)
      have e27 : (2 : Int) ^ 27 = 134217728 := by decide
      omega
    k_steps
    obtain ⟨z0, z1, z2, z3, z4⟩ := step_div (n := (Builtin.Int.intBits y : Int).toNat) hr0 hr1 hd0 hd1
    have hzb : (Builtin.Int.intBits (r9 * 2 ^ (Builtin.Int.intBits y : Int).toNat + d) : Int) - (Builtin.Int.intBits y : Int) ≤ 4000 := by
      have hp := pow2_pos (Builtin.Int.intBits y : Int).toNat
      have h1 : r9 * 2 ^ (Builtin.Int.intBits y : Int).toNat + d < 2 ^ (Builtin.Int.intBits y + Builtin.Int.intBits y) := by
        have h2 : (r9 + 1) * 2 ^ (Builtin.Int.intBits y : Int).toNat ≤ 2 ^ Builtin.Int.intBits y * 2 ^ (Builtin.Int.intBits y : Int).toNat := Int.mul_le_mul_of_nonneg_right (by omega) (Int.le_of_lt hp)
        rw [Int.add_mul, Int.one_mul] at h2
        rw [Int.pow_add]
        have h3 : d < 2 ^ (Builtin.Int.intBits y : Int).toNat := hd1
        exact Int.lt_of_lt_of_le (by omega) h2
      have h4 : 0 ≤ r9 * 2 ^ (Builtin.Int.intBits y : Int).toNat + d := by
        have := Int.mul_nonneg hr0 (Int.le_of_lt hp)
        omega
      have := bits_of h4 h1
      omega
    refine c_div2n1n B2 F5 X2 T2 rfl N5 hy0 hyl hzb (by show dp + 1 + 40 < _; omega) (by show un + 3 + 400 < _; omega) ?_
    intro l9 t1 t2 k9 h9 tk9 F6 N6 hlt9
    clear F5 N5
    have olD : @LT.lt Nat _ D l9 := hlt9 _ (.head _)
    have olq9 : @LT.lt Nat _ lq l9 := hlt9 _ (.tail _ (.head _))
    have old9 : @LT.lt Nat _ dl l9 := hlt9 _ (.tail _ (.tail _ (.head _)))
    have onq : ∀ p ∈ T30' ++ (T37 ++ news), p.1 ≠ lq := fun p hp => Nat.ne_of_lt (ktn_ltOf olq.2 p hp)
    dsimp only
    k_steps
    rename News _ _ _ _ => N7
    rename Fr _ _ _ _ => F7
    simp only [List.push_toArray] at N7
    refine' ⟨(qs ++ [.int ((r9 * 2 ^ (Builtin.Int.intBits y : Int).toNat + d).fdiv y) t1], qi ++ [(r9 * 2 ^ (Builtin.Int.intBits y : Int).toNat + d).fdiv y], _, (r9 * 2 ^ (Builtin.Int.intBits y : Int).toNat + d).fmod y, t2), _, _, _, rfl, F7, cb_drop N7 (fun p hp => List.mem_cons_of_mem _ hp), ?_, ?_, ?_⟩
    · kst_all
    · kst_same
    · refine ⟨hq1.append (.cons _ _ .nil), z2, z3, step_mval hmv z4, by simp [hql], fun z hz => ?_⟩
      rcases List.mem_append.mp hz with hz | hz
      · exact hqb z hz
      · rw [List.mem_singleton.mp hz]
        exact ⟨z0, z1⟩
  case done =>
    intro c u h tk hP F5 N5
    obtain ⟨qs, qi, cn9, r9, tr9⟩ := c
    obtain ⟨hq1, hr0, hr1, hmv, hql, hqb⟩ := hP
    dsimp only at hq1 hr0 hr1 hmv hql hqb
    dsimp only [kstB] at F5
    dsimp only at N5
    rw [List.length_reverse] at hql
    have hqs : qs.length ≤ 20 := by
      have := hq1.length
      omega
    have onq : ∀ p ∈ T30' ++ (T37 ++ news), p.1 ≠ lq := fun p hp => Nat.ne_of_lt (ktn_ltOf olq.2 p hp)
    dsimp only
    k_steps
    dsimp only
    refine kl_reverse (l := qs.reverse) F5 N5 (by simp) (.head ?_) (by rw [List.toList_toArray, sizeLine_eq]; omega) ?_
    · intro q hq
      rcases List.mem_cons.mp hq with rfl | hq
      · refine neN ?_; (try dsimp only); omega
      · exact onq q hq
    clear F5 N5
    intro h6 F6 N6
    k_steps
    rename News _ _ _ _ => N7
    rename Fr _ _ _ _ => F7
    obtain ⟨ps, hps, _⟩ := tab_at G37
    have N8 := ord4 N7
    refine c_digits2int B2 F7 X2 T2 rfl (C37.keeps FG.keep) G37 ?_ ?_ N8 hq1.reverse ?_ ?_ ?_ hn0 hn1 (by show dp + 1 + 40 < _; omega) (by show un + 3 + 400 < _; omega) ?_
    · intro q hq
      rcases List.mem_append.mp hq with hq | hq
      · exact tab_ne N7 (fun p hp => .tail _ (.tail _ (List.mem_append_right _ (List.mem_append_left _ hp)))) (fun p hp => .tail _ (.tail _ (List.mem_append_left _ hp))) G37 G30' (by decide) q hq
      · exact hne37 q hq
    · exact Ne.symm (onq _ (List.mem_append_right _ (List.mem_append_left _ hps)))
    · intro z hz
      exact hqb z (List.mem_reverse.mp hz)
    · rw [List.length_reverse]; omega
    · rw [List.length_reverse]; omega
    clear F7 N7 N8
    intro t9 h9 tk9 T37' G37' F9 N9
    dsimp only
    k_steps
    rename_i l11 _ _ _ o11 _ N11 _ _
    refine ret _ _ r9 _ _ _ _ _ T30' T37' G30' G37' ?_ hr0 hr1 (by assumption) (ord5 N11) ?_
    · rw [← hv1, dval_reverse, dval_reverse, List.reverse_reverse]
      exact hmv
    · intro q hq
      refine o11 q ?_
      simp only [List.mem_append, List.mem_cons] at hq ⊢
      grind
end Mine
theorem Mine.part12 : True := by
  k_with_none
  w_top off
  exact True.intro
end
section
open PySem PySem.W PyProof.Rows PySem.Spec PySem.Calls
set_option maxRecDepth 100000
set_option maxHeartbeats 8000000
set_option pp.deepTerms.threshold 4
namespace Mine
local macro_rules | `(tactic| walk_at "no such place") => `(tactic| fail)
local macro_rules | `(tactic| k_all) => `(tactic| with_reducible assumption)
local macro_rules | `(tactic| walk_at "setItem ref int") => `(tactic| refine hold_on ?_)
def stBody : Stmt → List Stmt
  | .FunctionDef _ _ b _ _ _ _ _ _ _ => b
  | .While _ b _ _ => b
  | .For _ _ b _ _ => b
  | _ => []
def stScope : Stmt → PySem.Scope
  | .FunctionDef _ _ _ _ _ _ s _ _ _ => s
  | _ => default
noncomputable def stAt : List Stmt → Nat → Stmt
  | s :: _, 0 => s
  | _ :: r, i + 1 => stAt r i
  | [], _ => .Pass ⟨0, 0, 0, 0⟩
noncomputable def topSt (i : Nat) : Stmt := stAt PySem.Challenge.rw_un0023_01.prog.main.body i
theorem fr_as {h₀ h : Heap} {L : Addr} {m : Str → Option Value} {ps : List (Str × Value)} (F : Fr h₀ L h m) (hp : ∀ p ∈ ps, m p.1 = some p.2) : Fr h₀ L h (kstB m ps) := by
  have e : kstB m ps = m := by
    funext z
    exact kstB_eq hp fun _ => rfl
  rw [e]; exact F
theorem sub5 {α : Type} {a b c d e : α} {rest own : List α} : ∀ p ∈ a :: b :: c :: d :: rest, p ∈ e :: a :: b :: c :: d :: (rest ++ own) := by
  intro p hp
  simp only [List.mem_cons, List.mem_append] at hp ⊢
  grind
theorem sub5o {α : Type} {a b c d e : α} {rest own : List α} : ∀ p ∈ own, p ∈ e :: a :: b :: c :: d :: (rest ++ own) := by
  intro p hp
  simp only [List.mem_cons, List.mem_append]
  grind
theorem struck_for {w : World} {dp un : Nat} {gd : Option (List Code)} {cn : Str} {cs : Scope} {L a : Addr} {ccd : Value} {cl : List (Str × Addr)} {outer : List Env} {g : Heap} {L' : Addr} {m : Str → Option Value} {s : Shared} {Q : Flow → Shared → Prop} {E : Value → Shared → Prop}
  {lr lu fa lg R : Addr} {sv fv gv : List Value} {sums fins gps : List Int} {c1 c2 c3 : Nat} {tk0 t₀ u₀ v₀ : Tok} {rest : List (Addr × Obj)} {c0 : Nat}
  (X : (hd.heap_1 w.params).In g)
  (F : Fr g L' s.heap (kstB m [(Str.ofString "k", .int 0 tk0), (Str.ofString "row", .ref lr), (Str.ofString "sums", .ref lu), (Str.ofString "finals", .ref fa), (Str.ofString "gaps", .ref lg)]))
  (N : News g L' s.heap ((lr, W.listOf (List.toArray []) c0) :: (lu, W.listOf sv.toArray c1) :: (fa, W.listOf fv.toArray c2) :: (lg, W.listOf gv.toArray c3) :: rest))
  (si : IntsAre sv sums) (fi : IntsAre fv fins) (gi : IntsAre gv gps) (h1 : sums.length ≤ 19) (h2 : gps.length ≤ 5) (h3 : fins.length = gps.length) (h4 : ∀ g ∈ gps, 0 ≤ g) (h5 : gps.sum ≤ sums.length)
  (n1 : @Ne Nat lr lu) (n2 : @Ne Nat lr fa) (n3 : @Ne Nat lr lg) (n4 : @Ne Nat lu fa) (n5 : @Ne Nat lu lg) (n6 : @Ne Nat fa lg)
  (r1 : ∀ q ∈ rest, q.1 ≠ lr) (r2 : ∀ q ∈ rest, q.1 ≠ fa) (r3 : ∀ q ∈ rest, q.1 ≠ lg)
  (rg : IsRange s.heap R 0 (gps.length : Int) 1 t₀ u₀ v₀)
  (done : ∀ (m' : Str → Option Value) rv fv' gv' k0 k2 k3 h tk, IntsAre rv (strike sums gps 0 fins).1 → IntsAre gv' (strike sums gps 0 fins).2.1 → IntsAre fv' (strike sums gps 0 fins).2.2 → Fr g L' h m' →
    (∀ z, z ≠ Str.ofString "k" → z ≠ Str.ofString "n" → m' z = kstB m [(Str.ofString "k", .int 0 tk0), (Str.ofString "row", .ref lr), (Str.ofString "sums", .ref lu), (Str.ofString "finals", .ref fa), (Str.ofString "gaps", .ref lg)] z) →
    News g L' h ((lr, W.listOf rv.toArray k0) :: (lu, W.listOf sv.toArray c1) :: (fa, W.listOf fv'.toArray k2) :: (lg, W.listOf gv'.toArray k3) :: rest) → Q .next { s with heap := h, toks := tk }) :
  wpAny (model PySem.Challenge.rw_un0023_01.prog w) ((ktrTop dp un gd cn cs L a ccd cl outer).deeper (envOf (Str.ofString "_law_struck") (stScope (topSt 71)) L' 140 (.ref 139))) (pyIter (.ref R))
    (fun it s₂ => LoopAtV PySem.Challenge.rw_un0023_01.prog w ((ktrTop dp un gd cn cs L a ccd cl outer).deeper (envOf (Str.ofString "_law_struck") (stScope (topSt 71)) L' 140 (.ref 139))) g (envOf (Str.ofString "_law_struck") (stScope (topSt 71)) L' 140 (.ref 139)) (Str.ofString "n") (stBody (stAt (stBody (stAt (stBody (topSt 71)) 2)) 6)) Q E it s₂) E s := by
  revert X; k_fill; intro X
  have kMark : KstMark := kstMark
  have hst := SInv.start (sums := sums) (row0 := []) h4 h5 h3
  conv => arg 4; ext it s₂; arg 7; whnf
  conv => arg 4; ext it s₂; arg 5; arg 2; whnf
  conv => arg 4; ext it s₂; arg 3; arg 2; arg 2; whnf
  conv => arg 2; arg 2; arg 2; whnf
  dsimp only [kstB] at F
  k_with_none
  k_with "state" => (exact ⟨Nat.zero_le _, Int.le_refl _, by decide, rfl, h3, hst⟩)
  k_state (fun pre rw' fn gp kk => rw'.length ≤ 19 ∧ 0 ≤ kk ∧ kk ≤ 19 ∧ gp.length = gps.length ∧ fn.length = gps.length ∧ SInv sums (strike sums gps 0 fins).1 (strike sums gps 0 fins).2.1 (strike sums gps 0 fins).2.2 gps.length pre.length rw' fn gp kk) "row" "finals" "gaps" "k"
  · k_with_none
    k_with "call builtin:list.extend" => ((with_reducible show wpAny _ _ (call (Value.builtin _) [Value.ref _, Value.ref _]) _ _ _); k_dflt (refine' ext_any ?F ?N ?b ?U ?i1 ?i2 ?z ?_; (case F => k_asm); (case N => k_asm); (case b => k_mem); (case U => k_updF); (case i1 => assumption); (case i2 => assumption); (case z => omega)); intro h' n' F' N' i'; (try dsimp only at N'); (rename _ = min _ _ => hb1); (rename List.length (List.take _ _) ≤ _ => hb2); clear hb1 hb2)
    rename_i rv9 rw9 rk9 fv9 fn9 fk9 gv9 gp9 gk9 kk9 tk9 iR iF iG bR bk0 bk1 bG bF hS l1 l2 l3 l4 l5
    have hkn : kN.toNat = kPre.length := by omega
    rw [← hkn] at hS
    have hkl : kN.toNat < gps.length := by omega
    have hbd := hS.bound hkl
    have hlen1 : (kPre ++ [kN]).length = kN.toNat + 1 := by rw [List.length_append, hkn]; rfl
    k_with "state" => (first | exact hS.small6 h1 hlen1 hkl (by omega) | exact hS.big6 h1 hlen1 hkl (by assumption))
    clear done hst
    k_steps
    rename OwnOff _ _ => hOff
    have x1 : kN < (gps.length : Int) := by omega
    have x2 : 0 ≤ kN := by omega
    rename _ ∧ _ ∧ _ ∧ _ ∧ AllLt _ _ => hAl
    have x3 : ∀ p ∈ rest ++ kOwn, p.1 ≠ fa := fun p hp => (List.mem_append.mp hp).elim (r2 p) (fun h => hOff p h _ (.tail _ (.tail _ (.head _))))
    have x4 : ∀ p ∈ rest ++ kOwn, p.1 ≠ lg := fun p hp => (List.mem_append.mp hp).elim (r3 p) (fun h => hOff p h _ (.tail _ (.tail _ (.tail _ (.head _)))))
    have x5 : ∀ p ∈ (lg, W.listOf gv9.toArray gk9) :: (rest ++ kOwn), p.1 ≠ fa := fun p hp => by
      rcases List.mem_cons.mp hp with rfl | hp
      · exact Ne.symm n6
      · exact x3 p hp
    dsimp only [hold]
    refine ksa_set F' N' (.tail (Nat.ne_of_gt hAl.2.2.1) (.tail n2 (.tail n4 (.head x5)))) iF x2 (by rw [bF]; exact x1) (by omega) ?_
    clear F' N'
    intro h7 F7 N7 iF7 lF7 _
    have iF7' := lF7.trans bF
    k_steps
    dsimp only [hold]
    rename News _ _ _ _ => N8
    rename Fr _ _ _ _ => F8
    refine ksa_set F8 N8 (.tail (Nat.ne_of_gt hAl.2.2.2.1) (.tail n3 (.tail n5 (.tail n6 (.head x4))))) iG x2 (by rw [bG]; exact x1) (by omega) ?_
    clear F8 N8
    intro h8 F8 N8 iG8 lG8 _
    refine wpAny_pure ?_
    dsimp only
    refine wpAny_pure ?_
    refine' kst_end (_, _, _, _, _, _, _, _, _, _, _) F8 N8 sub5 sub5o rfl ⟨i', iF7, iG8⟩ ?hk ?hr ?hp
    case hk => kst_all
    case hr => kst_same
    case hp => exact hS.big6 h1 hlen1 hkl (by assumption)
  · rename_i rv9 rw9 rk9 fv9 fn9 fk9 gv9 gp9 gk9 kk9 tk9 iR iF iG bR bk0 bk1 bG bF hS l1 l2 l3 l4 l5
    have e9 : (rangeKs 0 ((gps.length : Int) - 0).toNat).length = gps.length := by
      rw [rangeKs_length]; omega
    rw [e9] at hS
    obtain ⟨z1, z2, z3⟩ := hS.done
    refine done _ rv9 fv9 gv9 rk9 fk9 gk9 _ _ (z1 ▸ iR) (z2 ▸ iG) (z3 ▸ iF) kFr ?_ kNews
    intro z hz1 hz2
    dsimp only [kstB]
    rw [if_neg hz2, if_neg hz1]
    simp [hz1]
end Mine
theorem Mine.part13 : True := by
  k_with_none
  w_top off
  exact True.intro
end
section
open PySem PySem.W PyProof.Rows PySem.Spec PySem.Calls
set_option maxRecDepth 100000
set_option maxHeartbeats 8000000
set_option pp.deepTerms.threshold 4
namespace Mine
local macro_rules | `(tactic| k_all) => `(tactic| with_reducible assumption)
local macro_rules | `(tactic| walk_at "exec While Compare cons nil") => `(tactic| (k_here; refine hold_on ?_))
structure SK where
  T30 : List (Addr × Obj)
  T37 : List (Addr × Obj)
  ra : Addr
  rv : List Value
  row : List Int
  rk : Nat
  gv : List Value
  gaps : List Int
  gk : Nat
  fv : List Value
  fins : List Int
  fk : Nat
  f : Nat
def SKLed (fa lg : Addr) (news : List (Addr × Obj)) (c : SK) : List (Addr × Obj) := (c.ra, W.listOf c.rv.toArray c.rk) :: (fa, W.listOf c.fv.toArray c.fk) :: (lg, W.listOf c.gv.toArray c.gk) :: (c.T30 ++ (c.T37 ++ news))
structure SKOk (fa lg : Addr) (news : List (Addr × Obj)) (len : Nat) (out : List Int) (c : SK) : Prop where
  ri : IntsAre c.rv c.row
  gi : IntsAre c.gv c.gaps
  fi : IntsAre c.fv c.fins
  t30 : TabG 30 32 4 q30 c.T30
  t37 : TabG 37 47 4 q37 c.T37
  hrun : run c.f c.row c.gaps c.fins = some out
  gl : c.gaps.length = len
  fl : c.fins.length = len
  r1 : @Ne Nat c.ra fa
  r2 : @Ne Nat c.ra lg
  r3 : ∀ q ∈ news, q.1 ≠ c.ra
theorem rep_flat {α : Type} (x : α) : ∀ n, (List.replicate n [x]).flatten = List.replicate n x
  | 0 => rfl
  | n + 1 => by rw [List.replicate_succ, List.flatten_cons, rep_flat x n, List.replicate_succ]; rfl
theorem ord6 {g h : Heap} {L a1 a2 a3 a4 a5 a6 a7 : Addr} {o1 o2 o3 o4 o5 o6 o7 : Obj} {T : List (Addr × Obj)} (N : News g L h ((a1,o1)::(a2,o2)::(a3,o3)::(a4,o4)::(a5,o5)::(a6,o6)::(a7,o7)::T)) : News g L h ((a3,o3)::(a1,o1)::(a7,o7)::T) := cb_drop N (by
  intro p hp
  simp only [List.mem_cons] at hp ⊢
  grind)
section
variable {g h : Heap} {L a1 a2 a3 a4 a5 a6 a7 : Addr} {o1 o2 o3 o4 o5 o6 o7 : Obj} {T T' T'' news : List (Addr × Obj)}
theorem ord7 (N : News g L h ((a1,o1)::(a2,o2)::(a3,o3)::(a4,o4)::(a5,o5)::(a6,o6)::(a7,o7)::(T ++ (T' ++ news)))) : News g L h (T' ++ (a1,o1) :: ((a5,o5)::(a6,o6)::(a7,o7)::(T ++ news))) := cb_drop N (by
  intro p hp
  simp only [List.mem_append, List.mem_cons] at hp ⊢
  grind)
theorem ord8 (N : News g L h (T' ++ (a1,o1) :: ((a5,o5)::(a6,o6)::(a7,o7)::(T ++ news)))) : News g L h (T ++ (T' ++ ((a5,o5)::(a6,o6)::(a7,o7)::news))) := cb_drop N (by
  intro p hp
  simp only [List.mem_append, List.mem_cons] at hp ⊢
  grind)
theorem ord10 (N : News g L h ((a1,o1)::(T ++ (T' ++ (a5,o5)::(a6,o6)::(a7,o7)::news)))) : News g L h ((a1,o1)::(a5,o5)::(a6,o6)::(a7,o7)::(T ++ (T' ++ news))) := cb_drop N (by
  intro p hp
  simp only [List.mem_append, List.mem_cons] at hp ⊢
  grind)
theorem ord11 (N : News g L h ((a1,o1)::(a2,o2)::(a3,o3)::(a4,o4)::T)) : News g L h ((a1,o1)::(a2,o2)::T) := cb_drop N (by
  intro p hp
  simp only [List.mem_cons] at hp ⊢
  grind)
theorem ord12 (N : News g L h ((a1,o1)::(a2,o2)::(a3,o3)::(a4,o4)::T)) : News g L h ((a3,o3)::T) := cb_drop N (by
  intro p hp
  simp only [List.mem_cons] at hp ⊢
  grind)
theorem ord9 (N : News g L h ((a1,o1)::T)) : News g L h T := cb_drop N (fun p hp => List.mem_cons_of_mem _ hp)
end
theorem c_struck {w : World} {dp un : Nat} {gd : Option (List Code)} {cn : Str} {cs : Scope} {a : Addr} {ccd : Value} {cl : List (Str × Addr)} {outer : List Env} {A₀ : Around} {base h₀ : Heap} {L : Addr} {m : Str → Option Value} {news : List (Addr × Obj)} {s : Shared} {Q E : Value → Shared → Prop} {p : Program} {loose : List Str} {mean : ExcName → Option Value} {mg mb : Str → Option Value} {T30 T37 : List (Addr × Obj)} {lg : Addr} {gus : List Value} {gaps : List Int} {gk : Nat} {start rise wide : Int} {ts tr tw : Tok} {fuel : Nat} {out : List Int}
  (B : Below A₀ base outer h₀) (F : Fr h₀ L s.heap m) (X : (hd.heap_1 w.params).In h₀) (T : Top p loose mean mg mb h₀) (hk : cs.kind = .function) (C30 : CodeHd h₀ 34 30) (C37 : CodeHd h₀ 41 37) (G30 : TabG 30 32 4 q30 T30) (G37 : TabG 37 47 4 q37 T37) (hne30 : ∀ q ∈ news, q.1 ≠ 30) (hne37 : ∀ q ∈ news, q.1 ≠ 37)
  (N : News h₀ L s.heap ((lg, W.listOf gus.toArray gk) :: (T30 ++ (T37 ++ news)))) (hneg : ∀ q ∈ T30 ++ (T37 ++ news), q.1 ≠ lg) (hgi : IntsAre gus gaps)
  (hw0 : 25 ≤ wide) (hw1 : wide ≤ 88) (hgl : gaps.length ≤ 5) (hgs0 : 0 ≤ gaps.sum) (hgs : gaps.sum ≤ 15) (hrun : run fuel (start :: List.replicate (gaps.sum - 1).toNat rise) gaps (List.replicate gaps.length 0) = some out)
  (hdp : dp + 60 < recursionLimit) (hup : un + 460 < cLine)
  (ret : ∀ l us k h' tk' T30' T37', IntsAre us out → TabG 30 32 4 q30 T30' → TabG 37 47 4 q37 T37' →
    Fr h₀ L h' m → News h₀ L h' ((l, W.listOf us.toArray k) :: (T30' ++ (T37' ++ news))) → Q (.ref l) {s with heap := h', toks := tk'}) :
  wpAny (model PySem.Challenge.rw_un0023_01.prog w) (ktrTop dp un gd cn cs L a ccd cl outer) (call (.ref 140) [.int start ts, .int rise tr, .ref lg, .int wide tw]) Q E s := by
  revert X; k_fill; intro X
  have kMark : KstMark := kstMark
  refine wpAny_call ?_
  k_dflt cell_enter
  k_steps
  rename_i D1 wr _ ir o1 _ _ lz _ oz fa _ iz _ _ _ _ _ ofa hh F2 N2
  rename Below _ _ _ _ => B2
  rename Top _ _ _ _ _ _ => T2
  rename Frag.In _ _ => X2
  rename Fr h₀ _ _ _ => FG
  have hrun0 : run fuel ([start] ++ (List.replicate (gaps.sum - 1).toNat [rise]).flatten) gaps (List.replicate (gaps.length : Int).toNat [0]).flatten = some out := by
    rw [rep_flat, rep_flat]; exact hrun
  have hfl0 : (List.replicate (gaps.length : Int).toNat [(0 : Int)]).flatten.length = gaps.length := by
    rw [rep_flat, List.length_replicate]; rfl
  have oDl : @Ne Nat D1 lg := by omega
  have oDf : @Ne Nat D1 fa := by omega
  have olf : @LT.lt Nat _ lg fa := by omega
  have n1f : ∀ q ∈ T30 ++ (T37 ++ news), q.1 ≠ fa := fun q hq => Nat.ne_of_lt (ktn_ltOf ofa.2.2.2.2.2.2 q hq)
  have n1D : ∀ q ∈ T30 ++ (T37 ++ news), q.1 ≠ D1 := fun q hq => Nat.ne_of_lt (ktn_ltOf o1.2.2.2.2 q hq)
  have nnf : ∀ q ∈ news, q.1 ≠ fa := fun q hq => n1f q (List.mem_append_right _ (List.mem_append_right _ hq))
  have nng : ∀ q ∈ news, q.1 ≠ lg := fun q hq => hneg q (List.mem_append_right _ (List.mem_append_right _ hq))
  have N3 := ord6 N2
  clear N2
  dsimp only [hold]
  refine' ksw_while (SKLed fa lg news) (fun c => [(Str.ofString "row", .ref c.ra)]) (fun _ => True) [Str.ofString "whole", Str.ofString "quotient", Str.ofString "rest", Str.ofString "sums", Str.ofString "k", Str.ofString "n"] (SKOk fa lg news gaps.length out) (fun c => c.f)
    ⟨T30, T37, D1, wr, _, _, gus, gaps, gk, _, _, _, fuel⟩ F2 N3 trivial ?hk ⟨ir, hgi, iz, G30, G37, hrun0, rfl, hfl0, oDf, oDl, fun q hq => n1D q (List.mem_append_right _ (List.mem_append_right _ hq))⟩ ?turn
  case hk => kst_all
  case turn =>
    clear F2 N3 ir iz hrun0 hfl0 oDl oDf n1D n1f oz o1 wr hgi hrun G30 G37 N F hneg
    intro c u h tk _ hc F3 N3
    obtain ⟨T30, T37, ra, rv, row, rk, gv, gps, gk, fv, fins, fk, f⟩ := c
    obtain ⟨ri, gi, fi, t30, t37, hrn, hgl9, hfl9, r1, r2, r3⟩ := hc
    dsimp only at ri gi fi t30 t37 hrn hgl9 hfl9 r1 r2 r3
    dsimp only [kstB] at F3
    dsimp only [SKLed] at N3
    rcases run_cases hrn with ⟨rfl, rfl⟩ | ⟨f', x, r, rfl, rfl, hx, h0, hsum, hlen, hg0, hgsum, hrn'⟩
    · cases ri
      k_steps
      rename News h₀ _ _ _ => N11
      refine ret fa fv fk _ _ T30 T37 fi t30 t37 (by assumption) (ord12 N11)
    · have hrl : rv.length ≤ 19 := by
        have := ri.length
        omega
      have hwn : wide = ((wide.toNat : Nat) : Int) := by omega
      k_steps
      all_goals try (exfalso; rename decide (_ :: _ = []) = true => hbad; simp at hbad; done)
      rename_i D2 ws _ F4 N4 iw oD2
      obtain ⟨w1, w2, w3, w4⟩ := row_step (w := wide.toNat) (by omega) hx h0 hsum hlen
      have N5 := ord7 N4
      have s37 : ∀ (q : Addr × Obj), q ∈ T30 ++ news → q.1 ≠ 37 := fun q hq => by
        rcases List.mem_append.mp hq with hq | hq
        · exact tab_ne N5 (fun p hp => List.mem_append_left _ hp) (fun p hp => List.mem_append_right _ (.tail _ (.tail _ (.tail _ (.tail _ (List.mem_append_left _ hp)))))) t37 t30 (by decide) q hq
        · exact hne37 q hq
      obtain ⟨ps37, hps37, _⟩ := tab_at t37
      have q1 : 37 ≠ D2 := tab_seq N5 (fun p hp => List.mem_append_left _ hp) t37 (List.mem_append_right _ (.head _)) rfl _ hps37
      have q2 : 37 ≠ ra := tab_seq N5 (fun p hp => List.mem_append_left _ hp) t37 (List.mem_append_right _ (.tail _ (.head _))) rfl _ hps37
      have q3 : 37 ≠ fa := tab_seq N5 (fun p hp => List.mem_append_left _ hp) t37 (List.mem_append_right _ (.tail _ (.tail _ (.head _)))) rfl _ hps37
      have q4 : 37 ≠ lg := tab_seq N5 (fun p hp => List.mem_append_left _ hp) t37 (List.mem_append_right _ (.tail _ (.tail _ (.tail _ (.head _))))) rfl _ hps37
      refine c_digits2int (ns := 0 :: (x :: r).reverse) B2 F4 X2 T2 rfl (C37.keeps FG.keep) t37 ?_ (Ne.symm q1) N5 iw w3 (by simp) ?_ (by omega) (by omega) (by show dp + 1 + 40 < _; omega) (by show un + 3 + 400 < _; omega) ?_
      · intro q hq
        rcases List.mem_cons.mp hq with rfl | hq
        · exact Ne.symm q2
        rcases List.mem_cons.mp hq with rfl | hq
        · exact Ne.symm q3
        rcases List.mem_cons.mp hq with rfl | hq
        · exact Ne.symm q4
        exact s37 q hq
      · simp at hlen ⊢; omega
      clear F4 N4 N5
      intro t9 h9 tk9 T37a G37a F5 N6
      dsimp only
      k_steps
      rename News _ _ _ _ => N6
      rename Fr _ _ _ _ => F5
      have hbm := bits_mask (w := wide.toNat) (by omega)
      have hmp : 0 < (2 : Int) ^ wide.toNat - 1 := by
        have h25 : (2 : Int) ^ 25 ≤ 2 ^ wide.toNat := pow_le (by omega)
        have e25 : (2 : Int) ^ 25 = 33554432 := by decide
        omega
      have N7 := ord8 N6
      have n30 : ∀ (q : Addr × Obj), q ∈ (ra, W.listOf rv.toArray rk) :: (fa, W.listOf fv.toArray fk) :: (lg, W.listOf gv.toArray gk) :: news → q.1 ≠ 30 := by
        obtain ⟨ps30, hps30, _⟩ := tab_at t30
        intro q hq
        rcases List.mem_cons.mp hq with rfl | hq
        · exact Ne.symm (tab_seq N7 (fun p hp => List.mem_append_left _ hp) t30 (List.mem_append_right _ (List.mem_append_right _ (.head _))) rfl _ hps30)
        rcases List.mem_cons.mp hq with rfl | hq
        · exact Ne.symm (tab_seq N7 (fun p hp => List.mem_append_left _ hp) t30 (List.mem_append_right _ (List.mem_append_right _ (.tail _ (.head _)))) rfl _ hps30)
        rcases List.mem_cons.mp hq with rfl | hq
        · exact Ne.symm (tab_seq N7 (fun p hp => List.mem_append_left _ hp) t30 (List.mem_append_right _ (List.mem_append_right _ (.tail _ (.tail _ (.head _))))) rfl _ hps30)
        exact hne30 q hq
      have n37 : ∀ (q : Addr × Obj), q ∈ (ra, W.listOf rv.toArray rk) :: (fa, W.listOf fv.toArray fk) :: (lg, W.listOf gv.toArray gk) :: news → q.1 ≠ 37 := by
        intro q hq
        rcases List.mem_cons.mp hq with rfl | hq
        · exact Ne.symm q2
        rcases List.mem_cons.mp hq with rfl | hq
        · exact Ne.symm q3
        rcases List.mem_cons.mp hq with rfl | hq
        · exact Ne.symm q4
        exact hne37 q hq
      refine c_divmod_pos B2 F5 X2 T2 rfl (C30.keeps FG.keep) (C37.keeps FG.keep) t30 G37a n30 n37 N7 w1 hmp (by rw [hbm]; omega) (by rw [hbm]; exact w2) (by show dp + 1 + 45 < _; omega) (by show un + 3 + 440 < _; omega) ?_
      clear F5 N6 N7
      intro lt qq tt u1 u2 k9 h9 tk9 T30b T37b G30b G37b e0 e1 e2 F5 N6 olt
      obtain ⟨v1, v2, v3, v4⟩ := w4 qq tt e0 e1 e2
      subst v1
      dsimp only
      k_steps
      rename News _ _ _ _ => N7
      rename Fr _ _ _ _ => F6
      have N8 := ord9 N7
      refine c_int2digits B2 F6 X2 T2 rfl (C30.keeps FG.keep) G30b ?_ N8 v2 (by omega) (by omega) v3 (by show dp + 1 + 40 < _; omega) (by show un + 3 + 400 < _; omega) ?_
      · intro q hq
        rcases List.mem_append.mp hq with hq | hq
        · exact tab_ne N8 (fun p hp => List.mem_append_left _ hp) (fun p hp => List.mem_append_right _ (List.mem_append_left _ hp)) G30b G37b (by decide) q hq
        · exact n30 q hq
      clear F6 N7 N8
      intro ls us ds k10 h10 tk10 T30c G30c i10 d1 d2 d3 F6 N7 ols ols2
      have d4 := v4 ds d1 d2 d3
      have d5 : ds.length = (x :: r).length := by
        rw [← List.length_reverse, d4, psum_length]
      have hul : us.length ≤ 19 := by
        have := i10.length
        omega
      have N8 := ord10 N7
      clear N7
      have b1 : @LT.lt Nat _ ra ls := ols _ (List.mem_append_right _ (List.mem_append_right _ (.head _)))
      have b2 : @LT.lt Nat _ fa ls := ols _ (List.mem_append_right _ (List.mem_append_right _ (.tail _ (.head _))))
      have b3 : @LT.lt Nat _ lg ls := ols _ (List.mem_append_right _ (List.mem_append_right _ (.tail _ (.tail _ (.head _)))))
      have hd0 : gps.length ≤ 5 := by omega
      rw [← d4] at hrn'
      k_with "pyIter ref" => (refine hold_on ?_)
      k_with "call builtin:list.extend" => (k_here; (with_reducible show wpAny _ _ (call (Value.builtin _) [Value.ref _, Value.ref _]) _ _ _); k_dflt (refine' ext_any ?F ?N ?b ?U ?i1 ?i2 ?z ?_; (case F => k_asm); (case N => k_asm); (case b => k_mem); (case U => k_updF); (case i1 => l_ints); (case i2 => l_ints); (case z => omega)); intro h' n' F' N' i'; (try dsimp only at N'))
      dsimp only
      k_steps
      all_goals try (exfalso; rename (_ : Int) ≠ _ => hbad; first | exact hbad rfl | exact hbad (by rw [List.length_reverse, d5]))
      k_with_none
      clear w1 w2 w3 w4 s37 q1 q2 q3 q4 hps37 iw oD2 G37a hbm hmp n30 n37 olt v2 v3 v4 e0 e1 e2 i10 d1 d2 d3 ols ols2 ri
      rename News _ _ _ _ => N9
      have N10 := ord11 N9
      clear N9
      have a30f : ∀ q ∈ T30c, q.1 ≠ fa := tab_seq N10 (fun p hp => .tail _ (.tail _ (.tail _ (.tail _ (List.mem_append_left _ hp))))) G30c (.tail _ (.tail _ (.head _))) rfl
      have a30g : ∀ q ∈ T30c, q.1 ≠ lg := tab_seq N10 (fun p hp => .tail _ (.tail _ (.tail _ (.tail _ (List.mem_append_left _ hp))))) G30c (.tail _ (.tail _ (.tail _ (.head _)))) rfl
      have a37f : ∀ q ∈ T37b, q.1 ≠ fa := tab_seq N10 (fun p hp => .tail _ (.tail _ (.tail _ (.tail _ (List.mem_append_right _ (List.mem_append_left _ hp)))))) G37b (.tail _ (.tail _ (.head _))) rfl
      have a37g : ∀ q ∈ T37b, q.1 ≠ lg := tab_seq N10 (fun p hp => .tail _ (.tail _ (.tail _ (.tail _ (List.mem_append_right _ (List.mem_append_left _ hp)))))) G37b (.tail _ (.tail _ (.tail _ (.head _)))) rfl
      have hsl : ds.reverse.length = (x :: r).length := by rw [d4, psum_length]
      have hsl9 : ds.reverse.length ≤ 19 := by omega
      have hst := SInv.start (sums := ds.reverse) (row0 := []) hg0 (by rw [hsl]; exact hgsum) (hfl9.trans hgl9.symm)
      clear d4 hsl
      dsimp only [hold]
      rename Fr _ _ _ _ => F9
      rename IsRange _ _ _ _ _ _ _ _ => rg9
      rename IntsAre _ (List.reverse _) => i8
      rename _ ∧ _ ∧ _ ∧ _ ∧ _ ∧ AllLt _ _ => o8
      rename _ ∧ _ ∧ _ ∧ _ ∧ AllLt _ _ => oD8
      clear hst
      refine' struck_for X2 (fr_as F9 ?hm) N10 i8 fi gi hsl9 hd0 (hfl9.trans hgl9.symm) hg0 ?hs (Nat.ne_of_gt o8.1) (Nat.ne_of_gt o8.2.2.2.1) (Nat.ne_of_gt o8.2.2.2.2.1) (Nat.ne_of_gt oD8.2.2.1) (Nat.ne_of_gt oD8.2.2.2.1) (Nat.ne_of_gt olf)
        (fun q hq => Nat.ne_of_lt (ktn_ltOf o8.2.2.2.2.2 q hq)) ?r2 ?r3 rg9 ?done
      case hm => kst_all
      case hs => rw [List.length_reverse, d5]; exact hgsum
      case r2 => exact fun q hq => (List.mem_append.mp hq).elim (a30f q) fun hq => (List.mem_append.mp hq).elim (a37f q) (nnf q)
      case r3 => exact fun q hq => (List.mem_append.mp hq).elim (a30g q) fun hq => (List.mem_append.mp hq).elim (a37g q) (nng q)
      case done =>
        clear F9 N10
        intro m' rv' fv' gv' k0 k2 k3 h' tk' iR iG iF F9 same N10
        dsimp only
        refine wpAny_pure ?_
        refine' ksw_end ⟨T30c, T37b, _, rv', _, k0, gv', _, k3, fv', _, k2, f'⟩ F9 (cb_drop N10 ?hn) (fun p hp => hp) trivial ?hk ?hr ⟨iR, iG, iF, G30c, G37b, hrn', ?gl, ?fl, Nat.ne_of_gt o8.2.2.2.1, Nat.ne_of_gt o8.2.2.2.2.1, ?rn⟩ (Nat.lt_succ_self _)
        case hn =>
          intro p hp
          simp only [SKLed, List.mem_cons] at hp ⊢
          grind
        case hk =>
          intro p hp
          rw [List.mem_singleton.mp hp]
          exact same (Str.ofString "row") (by decide) (by decide)
        case hr =>
          intro z h2 h3
          have h2' : z ≠ Str.ofString "row" := h2 _ (.head _)
          simp only [List.contains_cons, List.contains_nil, Bool.or_false, Bool.or_eq_false_iff, beq_eq_false_iff_ne, ne_eq] at h3
          rw [same z (by simp [h3]) (by simp [h3])]
          by_cases hz : z = Str.ofString "gaps"
          · subst hz
            rfl
          · by_cases hf : z = Str.ofString "finals"
            · subst hf
              rfl
            · simp [kstB, h2', h3, hz, hf]
        case gl => exact (strike_length _ _ _ _ (hfl9.trans hgl9.symm)).1.trans hgl9
        case fl => exact (strike_length _ _ _ _ (hfl9.trans hgl9.symm)).2.trans hgl9
        case rn => exact fun q hq => Nat.ne_of_lt (ktn_ltOf o8.2.2.2.2.2 q (List.mem_append_right _ (List.mem_append_right _ hq)))
end Mine
theorem Mine.part14 : True := by
  k_with_none
  w_top off
  exact True.intro
end
section
open PySem PySem.W PyProof.Rows PySem.Spec PySem.Calls
set_option maxRecDepth 100000
set_option maxHeartbeats 8000000
set_option pp.deepTerms.threshold 4
namespace Mine
theorem c_parse257 {w : World} {dp un : Nat} {gd : Option (List Code)} {cn : Str} {cs : Scope} {a : Addr} {ccd : Value} {cl : List (Str × Addr)} {outer : List Env} {A₀ : Around} {base h₀ : Heap} {L : Addr} {m : Str → Option Value} {news : List (Addr × Obj)} {s : Shared} {Q E : Value → Shared → Prop} {p : Program} {loose : List Str} {mean : ExcName → Option Value} {mg mb : Str → Option Value} {x : Str} {tx : Tok} {cds tl : List Nat}
  (B : Below A₀ base outer h₀) (F : Fr h₀ L s.heap m) (X : (hd.heap_1 w.params).In h₀) (T : Top p loose mean mg mb h₀) (hk : cs.kind = .function) (N : News h₀ L s.heap news) (hx : x.cps.toList = [50,53,55,32,34] ++ StrLaws.dbl 34 cds ++ 34 :: tl) (htl : tl = [] ∨ ∃ k r, tl = k :: r ∧ k ≠ 34) (hcl : cds.length ≤ 40) (hxl : x.length ≤ 200)
  (hdp : dp + 40 < recursionLimit) (hup : un + 400 < cLine)
  (ret : ∀ r t h' tk', r.cps.toList = cds → Fr h₀ L h' m → News h₀ L h' news → Q (.str r t) {s with heap := h', toks := tk'}) :
  wpAny (model PySem.Challenge.rw_un0023_01.prog w) (ktrTop dp un gd cn cs L a ccd cl outer) (call (.ref 81) [.str x tx]) Q E s := by
  revert X; k_fill; intro X
  have kMark : KstMark := kstMark
  k_with "exec While Compare cons nil" => k_while (fun _ i dirname => 0 ≤ i ∧ dirname.length ≤ 40 ∧ PInv cds i dirname) (fun _ i _ => (x.length - i).toNat) "i" "dirname"
  k_with "state" => (first | with_reducible exact pinv_start | with_reducible exact p_one_on (by assumption) (by assumption) (by assumption) (by assumption) (by assumption) (by assumption) | with_reducible exact p_two_on (by assumption) (by assumption) (by assumption) (by assumption) (by assumption) (by assumption) (by assumption) (by assumption))
  refine wpAny_call ?_
  k_dflt cell_enter
  k_steps
  all_goals first
    | exact (p_none (by assumption) (by assumption)).elim
    | exact (p_two (by assumption) (by assumption)).elim
    | exact absurd (p_in (by assumption) (by assumption)) (by assumption)
    | exact ret _ _ _ _ (p_brk (by assumption) (by assumption) (by assumption) (by assumption) (.inl (by assumption))) (by assumption) (by assumption)
    | exact ret _ _ _ _ (p_brk (by assumption) (by assumption) (by assumption) (by assumption) (.inr (by assumption))) (by assumption) (by assumption)
end Mine
theorem Mine.part15 : True := by
  k_with_none
  w_top off
  exact True.intro
end
section
open PySem PySem.W PyProof.Rows PySem.Spec PySem.Calls
set_option maxRecDepth 100000
set_option maxHeartbeats 8000000
set_option pp.deepTerms.threshold 8
namespace Mine
theorem c_iseof {w : World} {dp un : Nat} {gd : Option (List Code)} {cn : Str} {cs : Scope} {a : Addr} {ccd : Value} {cl : List (Str × Addr)} {outer : List Env} {A₀ : Around} {base h₀ : Heap} {L : Addr} {m : Str → Option Value} {news : List (Addr × Obj)} {s : Shared} {Q E : Value → Shared → Prop} {p : Program} {loose : List Str} {mean : ExcName → Option Value} {mg mb : Str → Option Value} {x : Int} {tx : Tok}
  (B : Below A₀ base outer h₀) (F : Fr h₀ L s.heap m) (X : (hd.heap_1 w.params).In h₀) (T : Top p loose mean mg mb h₀) (hk : cs.kind = .function) (N : News h₀ L s.heap news) (hdp : dp + 30 < recursionLimit) (hup : un + 300 < cLine)
  (ret : ∀ h' tk', Fr h₀ L h' m → News h₀ L h' news → Q (.bool (decide (x = 0))) {s with heap := h', toks := tk'}) :
  wpAny (model PySem.Challenge.rw_un0023_01.prog w) (ktrTop dp un gd cn cs L a ccd cl outer) (call (.ref 105) [.int x tx]) Q E s := by
  revert X; k_fill; intro X
  refine wpAny_call ?_
  k_dflt cell_enter
  k_steps
  exact ret _ _ (by assumption) (by assumption)
theorem c_isnon {w : World} {dp un : Nat} {gd : Option (List Code)} {cn : Str} {cs : Scope} {a : Addr} {ccd : Value} {cl : List (Str × Addr)} {outer : List Env} {A₀ : Around} {base h₀ : Heap} {L : Addr} {m : Str → Option Value} {news : List (Addr × Obj)} {s : Shared} {Q E : Value → Shared → Prop} {p : Program} {loose : List Str} {mean : ExcName → Option Value} {mg mb : Str → Option Value} {x : Int} {tx : Tok}
  (B : Below A₀ base outer h₀) (F : Fr h₀ L s.heap m) (X : (hd.heap_1 w.params).In h₀) (T : Top p loose mean mg mb h₀) (hk : cs.kind = .function) (N : News h₀ L s.heap news) (hdp : dp + 30 < recursionLimit) (hup : un + 300 < cLine)
  (ret : ∀ h' tk', Fr h₀ L h' m → News h₀ L h' news → Q (.bool (decide (256 ≤ x))) {s with heap := h', toks := tk'}) :
  wpAny (model PySem.Challenge.rw_un0023_01.prog w) (ktrTop dp un gd cn cs L a ccd cl outer) (call (.ref 98) [.int x tx]) Q E s := by
  revert X; k_fill; intro X
  refine wpAny_call ?_
  k_dflt cell_enter
  k_steps
  exact ret _ _ (by assumption) (by assumption)
theorem c_ister {w : World} {dp un : Nat} {gd : Option (List Code)} {cn : Str} {cs : Scope} {a : Addr} {ccd : Value} {cl : List (Str × Addr)} {outer : List Env} {A₀ : Around} {base h₀ : Heap} {L : Addr} {m : Str → Option Value} {news : List (Addr × Obj)} {s : Shared} {Q E : Value → Shared → Prop} {p : Program} {loose : List Str} {mean : ExcName → Option Value} {mg mb : Str → Option Value} {x : Int} {tx : Tok}
  (B : Below A₀ base outer h₀) (F : Fr h₀ L s.heap m) (X : (hd.heap_1 w.params).In h₀) (T : Top p loose mean mg mb h₀) (hk : cs.kind = .function) (N : News h₀ L s.heap news) (hdp : dp + 30 < recursionLimit) (hup : un + 300 < cLine)
  (ret : ∀ h' tk', Fr h₀ L h' m → News h₀ L h' news → Q (.bool (decide (x < 256))) {s with heap := h', toks := tk'}) :
  wpAny (model PySem.Challenge.rw_un0023_01.prog w) (ktrTop dp un gd cn cs L a ccd cl outer) (call (.ref 91) [.int x tx]) Q E s := by
  revert X; k_fill; intro X
  refine wpAny_call ?_
  k_dflt cell_enter
  k_steps
  exact ret _ _ (by assumption) (by assumption)
end Mine
theorem Mine.part16 : True := by
  k_with_none
  w_top off
  exact True.intro
end
section
open PySem PySem.W PyProof.Rows PySem.Spec PySem.Calls
set_option maxRecDepth 100000
set_option maxHeartbeats 8000000
set_option pp.deepTerms.threshold 4
namespace Mine
local macro_rules | `(tactic| k_all) => `(tactic| with_reducible assumption)
local macro_rules | `(tactic| walk_at "compareOp NotIn str ref") => `(tactic| (k_here; (with_reducible show wpAny _ _ (compareOp .NotIn (Value.str _ _) (Value.ref _)) _ _ _); refine notin_marks (by assumption) (by assumption) ?_))
local macro_rules | `(tactic| walk_at "call builtin:dict.get") => `(tactic| (k_here; (with_reducible show wpAny _ _ (call (Value.builtin _) [Value.ref _, Value.str _ _, Value.int _ _]) _ _ _); refine get_marks (by assumption) (by assumption) ?_; intro _))
local macro_rules | `(tactic| walk_at "exec While BoolOp cons nil") => `(tactic| (k_here; refine hold_on ?_))
local macro_rules | `(tactic| walk_at "exec While Compare cons nil") => `(tactic| (k_here; refine hold_on ?_))
def tupD (p : Int × Int) : Dat := .tuple [.int p.1, .int p.2]
structure SS where
  k : Nat
  t : Tok
  T : List (Addr × Obj)
  vs : List Value
  n : Nat
  ds : List (Int × Int)
def SLed (la : Addr) (news : List (Addr × Obj)) (c : SS) : List (Addr × Obj) := (la, W.listOf c.vs.toArray c.n) :: (c.T ++ news)
structure SOk (la : Addr) (xs : List Nat) (c : SS) : Prop where
  hk : c.k ≤ xs.length
  hd : DatAll c.T c.vs (c.ds.map tupD)
  hs : ∃ f, (xs.drop c.k).length ≤ f ∧ syms xs.length xs = c.ds ++ syms f (xs.drop c.k)
  hn : ∀ q ∈ c.T, q.1 ≠ la
  hl : c.ds.length ≤ c.k
section
variable {x : Str} {k : Nat} {wd : Int}
theorem sl_at (h0 : 0 ≤ wd) : (Txt.slice x (some (k : Int)) (some ((k : Int) + wd))).cps.toList = (x.cps.toList.drop k).take wd.toNat := by
  rw [slice_int x (by omega) (by omega)]
  congr 1
  omega
theorem sym_num (hk : (k : Int) < x.length) (h0 : 0 ≤ wd) (hw : best (x.cps.toList.drop k) = wd.toNat) :
    (if (Txt.slice x (some (k : Int)) (some ((k : Int) + wd))).cps.toList ∈ mkc then numOf (Txt.slice x (some (k : Int)) (some ((k : Int) + wd))).cps.toList else 256 + (((Txt.item x (k : Int)).cps.getD 0 0 : Nat) : Int)) = symN (x.cps.toList.drop k) := by
  rw [sl_at h0]
  unfold symN
  rw [hw]
  have e : (Txt.item x (k : Int)).cps.getD 0 0 = (x.cps.toList.drop k).getD 0 0 := by
    have := item_cps x (i := (k : Int)) (by omega) hk
    have e2 : (Txt.item x (k : Int)).cps = #[x.cps.toList.getD k 0] := by
      rw [← Array.toList_inj]; exact this
    rw [e2]
    simp [List.getD_eq_getElem?_getD]
  rw [e]
theorem sym_len (h0 : 0 ≤ wd) (hw : best (x.cps.toList.drop k) = wd.toNat) : (Txt.slice x (some (k : Int)) (some ((k : Int) + wd))).length = plen (x.cps.toList.drop k) := by
  rw [len_of (sl_at h0)]
  unfold plen
  rw [hw]
end
theorem ordF {D la : Addr} {o1 o2 : Obj} {T news : List (Addr × Obj)} : ∀ p ∈ (la, o2) :: (((D, o1) :: T) ++ news), p ∈ (D, o1) :: (la, o2) :: (T ++ news) := by
  intro p hp
  simp only [List.mem_cons, List.mem_append, List.cons_append] at hp ⊢
  grind
theorem sok_step {la : Addr} {xs : List Nat} {k : Nat} {t t' t1 t2 : Tok} {T9 : List (Addr × Obj)} {vs : List Value} {n q : Nat} {ds : List (Int × Int)} {D : Addr}
    (h : SOk la xs ⟨k, t, T9, vs, n, ds⟩) (hk : k < xs.length) (hD : D ≠ la) :
    SOk la xs ⟨k + plen (xs.drop k), t', (D, { cls := Value.type "tuple", data := Data.seq #[.int (symN (xs.drop k)) t1, .int ((plen (xs.drop k) : Nat) : Int) t2] q }) :: T9, vs ++ [.ref D], n + 1, ds ++ [(symN (xs.drop k), ((plen (xs.drop k) : Nat) : Int))]⟩ := by
  obtain ⟨h1, h2, ⟨f, h3, h4⟩, h5, h6⟩ := h
  dsimp only at h1 h2 h3 h4 h5 h6
  have hne : xs.drop k ≠ [] := fun e => by
    have := congrArg List.length e
    rw [List.length_drop] at this
    simp at this
    omega
  have hp := plen_pos hne
  have hpl : plen (xs.drop k) ≤ (xs.drop k).length := by unfold plen; rw [List.length_take]; omega
  rw [List.length_drop] at hpl
  obtain ⟨f', e1, e2⟩ := syms_step hne h3
  refine ⟨?_, ?_, ⟨f', ?_, ?_⟩, ?_, ?_⟩
  · dsimp only; omega
  · dsimp only
    rw [List.map_append]
    refine (DatAll.mono (fun p hp => .tail _ hp) h2).append (.one ?_)
    exact .tuple (vs := [_, _]) (n := q) (.head _) (.cons (.int _ _) (.cons (.int _ _) .nil))
  · dsimp only
    rw [List.drop_drop] at e2
    exact e2
  · dsimp only
    rw [h4, e1, List.drop_drop, List.append_assoc]; rfl
  · intro q hq
    rcases List.mem_cons.mp hq with rfl | hq
    · exact hD
    · exact h5 q hq
  · dsimp only
    rw [List.length_append]
    simp
    omega
theorem c_symbols {w : World} {dp un : Nat} {gd : Option (List Code)} {cn : Str} {cs : Scope} {a : Addr} {ccd : Value} {cl : List (Str × Addr)} {outer : List Env} {A₀ : Around} {base h₀ : Heap} {L : Addr} {m : Str → Option Value} {news : List (Addr × Obj)} {s : Shared} {Q E : Value → Shared → Prop} {p : Program} {loose : List Str} {mean : ExcName → Option Value} {mg mb : Str → Option Value} {x : Str} {tx : Tok}
  (B : Below A₀ base outer h₀) (F : Fr h₀ L s.heap m) (X : (hd.heap_1 w.params).In h₀) (T : Top p loose mean mg mb h₀) (hk : cs.kind = .function) (N : News h₀ L s.heap news) (hxl : x.length = 5)
  (hdp : dp + 40 < recursionLimit) (hup : un + 400 < cLine)
  (ret : ∀ l vs k h' tk' T', DatAll T' vs ((syms 5 x.cps.toList ++ [(0, 0)]).map tupD) → (∀ q ∈ T' ++ news, q.1 ≠ l) → Fr h₀ L h' m → News h₀ L h' ((l, W.listOf vs.toArray k) :: (T' ++ news)) → Q (.ref l) {s with heap := h', toks := tk'}) :
  wpAny (model PySem.Challenge.rw_un0023_01.prog w) (ktrTop dp un gd cn cs L a ccd cl outer) (call (.ref 126) [.str x tx]) Q E s := by
  revert X; k_fill; intro X
  have kMark : KstMark := kstMark
  refine wpAny_call ?_
  k_dflt cell_enter
  k_steps
  rename_i la _ l1 _ _ F2 N2
  dsimp only [hold]
  have n1 : ∀ q ∈ news, q.1 ≠ la := fun q hq => Nat.ne_of_lt (l1 q hq)
  refine' ksw_while (SLed la news) (fun c => [(Str.ofString "k", .int (c.k : Nat) c.t)]) (fun _ => True) [Str.ofString "wide", Str.ofString "piece"] (SOk la x.cps.toList) (fun c => 5 - c.k)
    ⟨0, _, [], [], 0, []⟩ F2 N2 trivial ?hk ⟨Nat.zero_le _, .nil, ⟨_, Nat.le_refl _, rfl⟩, fun _ h => (nomatch h), Nat.le_refl _⟩ ?turn
  case hk => kst_all
  case turn =>
    clear F2 N2 N F l1
    intro c u h tk _ hc F3 N3
    obtain ⟨k, t, T9, vs, n, ds⟩ := c
    obtain ⟨hk9, hd9, ⟨f, hf, hs⟩, hn, hl⟩ := hc
    dsimp only at hk9 hd9 hf hs hn hl F3
    dsimp only [kstB] at F3
    dsimp only [SLed] at N3
    have hxc := cl_of x
    have hk5 : k ≤ 5 := by omega
    have hdn := hd9.length
    rw [List.length_map] at hdn
    have hvl : vs.length ≤ 5 := by omega
    have hne9 : k < x.length → x.cps.toList.drop k ≠ [] := fun hlt e => by
      have := congrArg List.length e
      rw [List.length_drop, hxc, List.length_nil] at this
      omega
    have hnn : ∀ q ∈ T9 ++ news, q.1 ≠ la := fun q hq => (List.mem_append.mp hq).elim (hn q) (n1 q)
    k_steps
    · rename News _ _ _ _ => N4
      rename Fr _ _ _ _ => F4
      dsimp only [hold]
      refine' ksw_while (fun _ => (la, W.listOf vs.toArray n) :: (T9 ++ news)) (fun c : Int × Tok => [(Str.ofString "wide", .int c.1 c.2)]) (fun _ => True) [] (fun c => PW (x.cps.toList.drop k) c.1) (fun c => c.1.toNat) (3, _) F4 N4 trivial ?ik (pw_start _) ?iturn
      case ik => kst_all
      case iturn =>
        clear F4 N4
        intro c u h tk _ hc F5 N5
        obtain ⟨wd, wt⟩ := c
        dsimp only at hc F5
        dsimp only [kstB] at F5
        have hw1 : 1 ≤ wd := hc.1
        have hw2 : wd ≤ 3 := hc.2.1
        k_steps
        · rename (1 : Int) < wd => hw3
          rename _ ∈ mkc => hw4
          rename _ ∧ AllLt _ _ => o4
          rename News _ _ _ _ => N6
          rename Fr _ _ _ _ => F6
          have hb := pw_end2 hc hw3 (by rw [← sl_at (by omega)]; exact hw4)
          have e1 := sym_num (by assumption) (by omega) hb
          have e2 := sym_len (by omega) hb
          have hpp := plen_pos (hne9 (by omega))
          rw [e1, e2] at N6
          rw [e2, ← Int.natCast_add] at F6
          simp only [List.push_toArray] at N6
          refine' ksw_end ⟨k + plen (x.cps.toList.drop k), _, (_, _) :: T9, vs ++ [_], n + 1, ds ++ [(symN (x.cps.toList.drop k), ((plen (x.cps.toList.drop k) : Nat) : Int))]⟩ F6 N6 ?hn trivial ?hk ?hr (sok_step (t := t) ⟨hk9, hd9, ⟨f, hf, hs⟩, hn, hl⟩ (by omega) (Nat.ne_of_gt o4.1)) ?hm
          case hn =>
            exact ordF
          case hk => kst_all
          case hr => ksw_same
          case hm => dsimp only; omega
        · rename (1 : Int) < wd => hw3
          rename ¬ (_ ∈ mkc) => hw4
          rename News _ _ _ _ => N6
          rename Fr _ _ _ _ => F6
          refine' ksw_end (wd - 1, _) F6 N6 (fun p hp => hp) trivial ?hk ?hr (pw_on hc hw3 (by rw [← sl_at (by omega)]; exact hw4)) ?hm
          case hk => kst_all
          case hr => ksw_same
          case hm => dsimp only; omega
        · rename ¬ (1 : Int) < wd => hw3
          rename _ ∧ AllLt _ _ => o4
          rename News _ _ _ _ => N6
          rename Fr _ _ _ _ => F6
          have hb := pw_end1 hc hw3
          have e1 := sym_num (by assumption) (by omega) hb
          have e2 := sym_len (by omega) hb
          have hpp := plen_pos (hne9 (by omega))
          rw [e1, e2] at N6
          rw [e2, ← Int.natCast_add] at F6
          simp only [List.push_toArray] at N6
          refine' ksw_end ⟨k + plen (x.cps.toList.drop k), _, (_, _) :: T9, vs ++ [_], n + 1, ds ++ [(symN (x.cps.toList.drop k), ((plen (x.cps.toList.drop k) : Nat) : Int))]⟩ F6 N6 ?hn trivial ?hk ?hr (sok_step (t := t) ⟨hk9, hd9, ⟨f, hf, hs⟩, hn, hl⟩ (by omega) (Nat.ne_of_gt o4.1)) ?hm
          case hn =>
            exact ordF
          case hk => kst_all
          case hr => ksw_same
          case hm => dsimp only; omega
    · rename ¬ _ => hge
      have hnil : x.cps.toList.drop k = [] := List.drop_of_length_le (by omega)
      rw [hnil, syms_nil, List.append_nil, hxc, hxl] at hs
      rename _ ∧ AllLt _ _ => o4
      rename Fr h₀ _ _ _ => F7
      rename News h₀ _ _ _ => N7
      simp only [List.push_toArray] at N7
      refine ret _ _ _ _ _ ((_, _) :: T9) ?_ ?_ F7 (cb_drop N7 ordF)
      · rw [hs, List.map_append]
        exact (DatAll.mono (fun p hp => .tail _ hp) hd9).append (.one (.tuple (vs := [_, _]) (.head _) (.cons (.int _ _) (.cons (.int _ _) .nil))))
      · intro q hq
        rcases List.mem_cons.mp hq with rfl | hq
        · exact Nat.ne_of_gt o4.1
        · exact hnn q hq
end Mine
theorem Mine.part17 : True := by
  k_with_none
  w_top off
  exact True.intro
end
section
open PySem PySem.W PyProof.Rows PySem.Spec PySem.Calls
set_option maxRecDepth 100000
set_option maxHeartbeats 8000000
set_option pp.deepTerms.threshold 8
namespace Mine
local macro_rules | `(tactic| k_all) => `(tactic| with_reducible assumption)
local macro_rules | `(tactic| walk_at "exec For Tuple Name cons nil") => `(tactic| (k_here; (rename Fr _ _ _ _ => lF'); (with_unfolding_all refine' For_turns lF' ?_; k_whole)))
def stp (p : Int × Int) : Int := if 256 ≤ p.1 then 0 else p.2
theorem st_item {sy : List (Int × Int)} {pre post : List Dat} {d : Dat} (h : (sy ++ [(0, 0)]).map tupD = pre ++ d :: post) (hl : pre.length ≤ sy.length) :
    (pre.length < sy.length ∧ ∃ p ∈ sy, d = tupD p ∧ sy.take (pre.length + 1) = sy.take pre.length ++ [p]) ∨ (sy.take pre.length = sy ∧ d = tupD (0, 0)) := by
  have e : ((sy ++ [((0 : Int), (0 : Int))]).map tupD)[pre.length]? = some d := by rw [h]; simp
  by_cases hlt : pre.length < sy.length
  · refine .inl ⟨hlt, sy[pre.length], List.getElem_mem hlt, ?_, ?_⟩
    · rw [List.getElem?_map, List.getElem?_append_left hlt, List.getElem?_eq_getElem hlt] at e
      exact (Option.some.inj e).symm
    · rw [List.take_add_one, List.getElem?_eq_getElem hlt]; rfl
  · have he : pre.length = sy.length := by omega
    refine .inr ⟨by rw [he, List.take_length], ?_⟩
    rw [he] at e
    simp at e
    exact e.symm
theorem dat_tup {T : List (Addr × Obj)} {v : Value} {p : Int × Int} (h : DatIn T v (tupD p)) : ∃ a n t1 t2, v = .ref a ∧ (a, ({ cls := .type "tuple", data := .seq #[.int p.1 t1, .int p.2 t2] n } : Obj)) ∈ T := by
  unfold tupD at h
  cases h with
  | tuple hm ha =>
    cases ha with
    | cons h1 ha =>
      cases ha with
      | cons h2 ha =>
        cases ha
        cases h1
        cases h2
        exact ⟨_, _, _, _, rfl, hm⟩
structure ST where
  us1 : List Value
  us2 : List Value
  k1 : Nat
  k2 : Nat
def STLed (a b l : Addr) (vs : List Value) (k : Nat) (T9 news : List (Addr × Obj)) (c : ST) : List (Addr × Obj) := (b, W.listOf c.us2.toArray c.k2) :: (a, W.listOf c.us1.toArray c.k1) :: (l, W.listOf vs.toArray k) :: (T9 ++ news)
structure STOk (sy : List (Int × Int)) (pre : List Dat) (c : ST) : Prop where
  i1 : IntsAre c.us1 ((sy.take pre.length).map (·.1))
  i2 : IntsAre c.us2 ((sy.take pre.length).map stp)
  hl : pre.length ≤ sy.length
theorem st_step {sy : List (Int × Int)} {pre : List Dat} {us1 us2 : List Value} {k1 k2 j1 j2 : Nat} {x y z : Int} {t1 t2 : Tok} (h : STOk sy pre ⟨us1, us2, k1, k2⟩) (hl : pre.length < sy.length)
    (ht : sy.take (pre.length + 1) = sy.take pre.length ++ [(x, y)]) (hz : stp (x, y) = z) : STOk sy (pre ++ [tupD (x, y)]) ⟨us1 ++ [.int x t1], us2 ++ [.int z t2], j1, j2⟩ := by
  obtain ⟨i1, i2, _⟩ := h
  dsimp only at i1 i2
  subst hz
  refine ⟨?_, ?_, ?_⟩
  · rw [List.length_append, show [tupD (x, y)].length = 1 from rfl, ht, List.map_append]
    exact i1.append (.cons _ _ .nil)
  · rw [List.length_append, show [tupD (x, y)].length = 1 from rfl, ht, List.map_append]
    exact i2.append (.cons _ _ .nil)
  · rw [List.length_append]; exact hl
theorem ordT {t I a b l : Addr} {o1 o2 o3 o4 o5 : Obj} {T : List (Addr × Obj)} : ∀ p ∈ (t, o1) :: (a, o2) :: (b, o3) :: (l, o4) :: T, p ∈ (t, o1) :: (I, o5) :: (b, o3) :: (a, o2) :: (l, o4) :: T := by
  intro p hp
  simp only [List.mem_cons] at hp ⊢
  grind
theorem c_steps {w : World} {dp un : Nat} {gd : Option (List Code)} {cn : Str} {cs : Scope} {a : Addr} {ccd : Value} {cl : List (Str × Addr)} {outer : List Env} {A₀ : Around} {base h₀ : Heap} {L : Addr} {m : Str → Option Value} {news : List (Addr × Obj)} {s : Shared} {Q E : Value → Shared → Prop} {p : Program} {loose : List Str} {mean : ExcName → Option Value} {mg mb : Str → Option Value} {l : Addr} {vs : List Value} {k : Nat} {T9 : List (Addr × Obj)} {sy : List (Int × Int)}
  (B : Below A₀ base outer h₀) (F : Fr h₀ L s.heap m) (X : (hd.heap_1 w.params).In h₀) (T : Top p loose mean mg mb h₀) (hk : cs.kind = .function) (N : News h₀ L s.heap ((l, W.listOf vs.toArray k) :: (T9 ++ news))) (hd9 : DatAll T9 vs ((sy ++ [(0, 0)]).map tupD)) (hnl : ∀ q ∈ T9 ++ news, q.1 ≠ l) (hsy : ∀ p ∈ sy, 0 < p.1) (hsl : sy.length ≤ 5)
  (hdp : dp + 40 < recursionLimit) (hup : un + 400 < cLine)
  (ret : ∀ t a b us1 us2 k1 k2 h' tk', IntsAre us1 (sy.map (·.1)) → IntsAre us2 (sy.map stp) → Fr h₀ L h' m → News h₀ L h' ((t, { cls := Value.type "tuple", data := Data.seq #[.ref a, .ref b] }) :: (a, W.listOf us1.toArray k1) :: (b, W.listOf us2.toArray k2) :: (l, W.listOf vs.toArray k) :: (T9 ++ news)) → Q (.ref t) {s with heap := h', toks := tk'}) :
  wpAny (model PySem.Challenge.rw_un0023_01.prog w) (ktrTop dp un gd cn cs L a ccd cl outer) (call (.ref 133) [.ref l]) Q E s := by
  revert X; k_fill; intro X
  have kMark : KstMark := kstMark
  k_with "pyIter ref" => (refine hold_on ?_)
  k_with "call ref" => ((rename News _ _ _ _ => cN); (rename Fr _ _ _ _ => cF); (rename Below _ _ _ _ => cB); (rename Top _ _ _ _ _ _ => cT); (rename Frag.In _ _ => cX); (first | (refine c_iseof cB cF cX cT rfl cN (by show dp + 1 + 30 < _; omega) (by show un + 3 + 300 < _; omega) ?_) | (refine c_isnon cB cF cX cT rfl cN (by show dp + 1 + 30 < _; omega) (by show un + 3 + 300 < _; omega) ?_) | (refine c_ister cB cF cX cT rfl cN (by show dp + 1 + 30 < _; omega) (by show un + 3 + 300 < _; omega) ?_)); clear cF cN; intro h9 tk9 F9 N9; (try dsimp only))
  refine wpAny_call ?_
  k_dflt cell_enter
  k_steps
  rename_i a _ o1 _ b _ o2 _ F2 N2
  dsimp only [hold]
  have n1 : ∀ q ∈ T9 ++ news, q.1 ≠ a := fun q hq => Nat.ne_of_lt (ktn_ltOf o1.2 q hq)
  have n2 : ∀ q ∈ T9 ++ news, q.1 ≠ b := fun q hq => Nat.ne_of_lt (ktn_ltOf o2.2.2 q hq)
  refine' tur_state (T := T9) (adr := b :: a :: l :: (T9 ++ news).map (·.1)) (STLed a b l vs k T9 news) (fun _ => []) [Str.ofString "number", Str.ofString "wide"] (STOk sy) ⟨[], [], 0, 0⟩ ?hh hd9 F2 N2 (fun c => .tail _ (.tail _ (.head _))) (fun c => rfl) ?hk ⟨.nil, .nil, Nat.zero_le _⟩ ?turn ?done
  case hh => exact rfl
  case hk => kst_all
  case turn =>
    clear F2 N2 N
    intro c pre d post v u I it h tk hds hd ⟨i1, i2, hl⟩ hI F3 N3
    obtain ⟨us1, us2, k1, k2⟩ := c
    dsimp only at i1 i2
    dsimp only [kstB] at F3
    dsimp only [STLed] at N3 hI
    have hu1 := i1.length
    have hu2 := i2.length
    rw [List.length_map, List.length_take] at hu1 hu2
    have hz1 : us1.length ≤ 5 := by omega
    have hz2 : us2.length ≤ 5 := by omega
    clear hu1 hu2
    have hIb : @LT.lt Nat _ b I := hI _ (.head _)
    have hIa : @LT.lt Nat _ a I := hI _ (.tail _ (.head _))
    have hIl : @LT.lt Nat _ l I := hI _ (.tail _ (.tail _ (.head _)))
    rcases st_item hds hl with ⟨h1, ⟨x, y⟩, hm, rfl, ht⟩ | ⟨ht, rfl⟩
    · obtain ⟨ta, nt, t1, t2, rfl, hin⟩ := dat_tup hd
      have hT : IsTup h ta #[.int x t1, .int y t2] := ⟨_, (N3 _ (.tail _ (.tail _ (.tail _ (.tail _ (List.mem_append_left _ hin)))))).1, rfl, nt, rfl⟩
      have hx0 : 0 < x := hsy _ hm
      clear hds hd
      k_steps
      all_goals rename News _ _ _ _ => N8
      all_goals rename Fr _ _ _ _ => F8
      all_goals simp only [List.push_toArray] at N8
      · refine' tur_end ⟨us1 ++ [_], us2 ++ [_], _, _⟩ F8 N8 (fun p hp => hp) ?hk ?hr (st_step (k1 := k1) (k2 := k2) ⟨i1, i2, hl⟩ h1 ht (by unfold stp; rw [if_pos (by assumption)]))
        case hk => kst_all
        case hr => ksw_same
      · refine' tur_end ⟨us1 ++ [_], us2 ++ [_], _, _⟩ F8 N8 (fun p hp => hp) ?hk ?hr (st_step (k1 := k1) (k2 := k2) ⟨i1, i2, hl⟩ h1 ht (by unfold stp; rw [if_neg (by assumption)]))
        case hk => kst_all
        case hr => ksw_same
    · obtain ⟨ta, nt, t1, t2, rfl, hin⟩ := dat_tup hd
      have hT : IsTup h ta #[.int 0 t1, .int 0 t2] := ⟨_, (N3 _ (.tail _ (.tail _ (.tail _ (.tail _ (List.mem_append_left _ hin)))))).1, rfl, nt, rfl⟩
      clear hds hd
      k_steps
      dsimp only [TurPost]
      k_steps
      rename Fr h₀ _ _ _ => F8
      rename News h₀ _ _ _ => N8
      rw [ht] at i1 i2
      refine ret _ _ _ _ _ _ _ _ _ i1 i2 F8 (cb_drop N8 ordT)
  case done =>
    intro c u h tk ⟨i1, i2, hl⟩ F3 N3
    exfalso
    rw [List.length_map, List.length_append] at hl
    simp at hl
    omega
end Mine
theorem Mine.part18 : True := by
  k_with_none
  w_top off
  exact True.intro
end
section
open PySem PySem.W PyProof.Rows PySem.Spec PySem.Calls
set_option maxRecDepth 100000
set_option maxHeartbeats 4000000
namespace Mine
def mkStrs : List Str := mkc.map fun c => ⟨c.toArray⟩
theorem mk_split : Txt.split (Str.ofString "( ) [ ] : , ; + - * / | & < > = . % { } == != <= >= ~ ^ << >> ** += -= *= /= %= &= |= ^= <<= >>= **= // //= @ @= -> ... := !") (Str.ofString " ") = mkStrs := by decide +kernel
theorem any_mk (x : Str) : mkStrs.any (· == x) = decide (x.cps.toList ∈ mkc) := by
  unfold mkStrs
  induction mkc with
  | nil => rfl
  | cons c r ih =>
    rw [List.map_cons, List.any_cons, ih]
    by_cases h : x.cps.toList = c
    · subst h; simp
    · have h2 : ((⟨c.toArray⟩ : Str) == x) = false := by
        rw [beq_eq_false_iff_ne]
        exact fun e => h (by rw [← e])
      simp [h, h2]
theorem idx_mk (x : Str) : mkStrs.idxOf x = mkc.idxOf x.cps.toList := by
  unfold mkStrs
  induction mkc with
  | nil => rfl
  | cons c r ih =>
    rw [List.map_cons, List.idxOf_cons, List.idxOf_cons, ih]
    by_cases h : x.cps.toList = c
    · subst h; simp
    · have h2 : ((⟨c.toArray⟩ : Str) == x) = false := by
        rw [beq_eq_false_iff_ne]
        exact fun e => h (by rw [← e])
      have h3 : (c == x.cps.toList) = false := by
        rw [beq_eq_false_iff_ne]
        exact fun e => h e.symm
      simp [h2, h3]
theorem idx_ne {α : Type} [BEq α] [LawfulBEq α] {k : α} : ∀ {l : List α} {j : Nat}, j < l.idxOf k → ∀ (h : j < l.length), l[j] ≠ k
  | [], j, h, h2 => absurd h2 (Nat.not_lt_zero _)
  | a :: r, 0, h, h2 => by
    intro e
    have e' : a = k := e
    rw [List.idxOf_cons, e'] at h
    simp at h
  | a :: r, j + 1, h, h2 => by
    rw [List.idxOf_cons] at h
    have h3 : j < r.idxOf k := by
      cases hb : (a == k) <;> rw [hb] at h <;> simp at h
      exact h
    have := idx_ne (k := k) (l := r) (j := j) h3 (by simpa using h2)
    simpa using this
theorem mk_head : ∀ c ∈ mkc, c.head? ≠ some 34 := by decide +kernel
theorem mk_one : ∀ c ∈ alpha, c ≠ 34 → [c] ∈ mkc := by decide +kernel
theorem q_take (r : List Nat) (n : Nat) : (34 :: r).take (n + 1) ∉ mkc := fun h => mk_head _ h rfl
theorem q_best (r : List Nat) : best (34 :: r) = 1 := by
  unfold best
  rw [if_neg (q_take r 2), if_neg (q_take r 1)]
theorem q_sym (r : List Nat) : symN (34 :: r) = 290 ∧ plen (34 :: r) = 1 := by
  unfold symN plen
  rw [q_best, if_neg (q_take r 0)]
  exact ⟨rfl, rfl⟩
theorem c_best {c : Nat} {r : List Nat} (hc : c ∈ alpha) (h34 : c ≠ 34) : (c :: r).take (best (c :: r)) ∈ mkc := by
  unfold best
  split
  · assumption
  · split
    · assumption
    · exact mk_one c hc h34
theorem num_lt {p : List Nat} (h : p ∈ mkc) : 7 ≤ numOf p ∧ numOf p < 55 := by
  have h1 : mkc.idxOf p < mkc.length := List.idxOf_lt_length_iff.mpr h
  have h2 : mkc.length = 48 := by decide
  unfold numOf
  omega
theorem c_sym {c : Nat} {r : List Nat} (hc : c ∈ alpha) (h34 : c ≠ 34) : symN (c :: r) = 7 + (mkc.idxOf ((c :: r).take (best (c :: r))) : Nat) ∧ 7 ≤ symN (c :: r) ∧ symN (c :: r) < 55 := by
  have h := c_best (r := r) hc h34
  have e : symN (c :: r) = numOf ((c :: r).take (best (c :: r))) := by unfold symN; rw [if_pos h]
  rw [e]
  exact ⟨rfl, num_lt h⟩
theorem pw_end3 {l : List Nat} {w : Int} (h : PW l w) (h2 : l.take w.toNat ∈ mkc) : best l = w.toNat := by
  by_cases h1 : 1 < w
  · exact pw_end2 h h1 h2
  · exact pw_end1 h h1
theorem pw_on3 {c : Nat} {r : List Nat} {w : Int} (h : PW (c :: r) w) (hc : c ∈ alpha) (h34 : c ≠ 34) (h2 : (c :: r).take w.toNat ∉ mkc) : 1 < w ∧ PW (c :: r) (w - 1) := by
  have h1 : 1 < w := by
    obtain ⟨a, b, _⟩ := h
    have : w ≠ 1 := fun e => by subst e; exact h2 (mk_one c hc h34)
    omega
  exact ⟨h1, pw_on h h1 h2⟩
theorem stp_q {n : Int} : stp (290, n) = 0 := by unfold stp; rw [if_pos (show (256 : Int) ≤ 290 by decide)]
theorem stp_c {x n : Int} (h : x < 55) : stp (x, n) = n := by unfold stp; rw [if_neg (by omega)]
section
variable {prog : Program} {w : World} {A : Around} {E : Value → Shared → Prop} {s : Shared} {h₀ : Heap} {L : Addr} {m : Str → Option Value} {news : List (Addr × Obj)} {x : Str} {t : Tok} {Q : Value → Shared → Prop} {l : Addr} {vs : List Value} {n : Nat}
theorem notin_mk (N : News h₀ L s.heap news) (hm : (l, W.listOf vs.toArray n) ∈ news) (hi : StrsAre vs mkStrs) (h : Q (.bool (!decide (x.cps.toList ∈ mkc))) s) : wpAny (model prog w) A (compareOp .NotIn (.str x t) (.ref l)) Q E s :=
  notin_list_strs (PySem.IsL.isList (n := n) (N _ hm).1) hi (by rw [any_mk]; exact h)
theorem index_mk (N : News h₀ L s.heap news) (hm : (l, W.listOf vs.toArray n) ∈ news) (hi : StrsAre vs mkStrs) (hx : x.cps.toList ∈ mkc) (h : Q (.int (mkc.idxOf x.cps.toList : Nat) s.toks) { s with toks := s.toks + 1 }) :
    wpAny (model prog w) A (call (.builtin "list.index") [.ref l, .str x t]) Q E s := by
  have hlen := hi.length
  have hxm : x ∈ mkStrs := List.mem_map.mpr ⟨_, hx, rfl⟩
  have hj : mkStrs.idxOf x < mkStrs.length := List.idxOf_lt_length_iff.mpr hxm
  have hL : mkStrs.length = 48 := by decide
  rw [← idx_mk] at h
  have hat : ∀ j (hv : j < vs.length) (hs : j < mkStrs.length), isStrOf x vs[j] = (mkStrs[j] == x) := by
    intro j hv hs
    obtain ⟨t', e⟩ := hi.get j mkStrs[j] (List.getElem?_eq_getElem hs)
    rw [List.getElem?_eq_getElem hv] at e
    rw [Option.some.inj e]
    rfl
  refine call_meets PySem.F.slot_list_index ⟨_, (N _ hm).1, rfl⟩ PySem.F.entry_list_index (PySem.F.args_list_index_2 _ _)
    (MeetsSeq.list_index l vs.toArray n (.str x t) (isStrOf x) (fun y hy => eq_isStrOf x t hi y (by simpa using hy)) (mkStrs.idxOf x) (by simpa [hlen] using hj) (by omega) ?_ ?_) ⟨(N _ hm).1, h⟩
  · show isStrOf x vs[mkStrs.idxOf x] = true
    rw [hat _ (by omega) hj]
    simpa using List.getElem_idxOf hj
  · intro j hjs hlt
    show isStrOf x vs[j] = false
    have hv : j < vs.length := by simpa using hjs
    rw [hat _ hv (by omega)]
    exact beq_eq_false_iff_ne.mpr (idx_ne hlt (by omega))
end
end Mine
theorem Mine.part19 : True := by
  k_with_none
  w_top off
  exact True.intro
end
section
open PySem PySem.W PyProof.Rows PySem.Spec PySem.Calls
set_option maxRecDepth 100000
set_option maxHeartbeats 8000000
set_option pp.deepTerms.threshold 8
namespace Mine
local macro_rules | `(tactic| k_all) => `(tactic| with_reducible assumption)
local macro_rules | `(tactic| walk_at "exec While Compare cons nil") => `(tactic| (k_here; refine hold_on ?_))
local macro_rules | `(tactic| walk_at "compareOp NotIn str ref") => `(tactic| (k_here; (with_reducible show wpAny _ _ (compareOp .NotIn (Value.str _ _) (Value.ref _)) _ _ _); refine notin_mk (by assumption) (by k_mem) (by assumption) ?_))
local macro_rules | `(tactic| walk_at "call builtin:list.index") => `(tactic| (k_here; (with_reducible show wpAny _ _ (call (Value.builtin _) [Value.ref _, Value.str _ _]) _ _ _); refine index_mk (by assumption) (by k_mem) (by assumption) (by first | assumption | (apply of_decide_eq_true; rw [← any_mk]; assumption)) ?_))
structure SP where
  y : Str
  t : Tok
  us1 : List Value
  us2 : List Value
  k1 : Nat
  k2 : Nat
  q : List (Int × Int)
def SPLed (a b d : Addr) (mv : List Value) (news : List (Addr × Obj)) (c : SP) : List (Addr × Obj) := (b, W.listOf c.us2.toArray c.k2) :: (a, W.listOf c.us1.toArray c.k1) :: (d, W.listOf mv.toArray 0) :: news
structure SPOk (xs : List Nat) (c : SP) : Prop where
  i1 : IntsAre c.us1 (c.q.map (·.1))
  i2 : IntsAre c.us2 (c.q.map stp)
  hs : ∃ k f, k ≤ xs.length ∧ c.y.cps.toList = xs.drop k ∧ (xs.drop k).length ≤ f ∧ syms xs.length xs = c.q ++ syms f (xs.drop k) ∧ c.q.length ≤ k
theorem sp_step {xs : List Nat} {y' : Str} {t' t1 t2 : Tok} {us1 us2 : List Value} {j1 j2 : Nat} {q : List (Int × Int)} {k f c : Nat} {r : List Nat} {z1 z2 : Int}
    (i1 : IntsAre us1 (q.map (·.1))) (i2 : IntsAre us2 (q.map stp)) (hk : k < xs.length) (hf : (c :: r).length ≤ f) (hs : syms xs.length xs = q ++ syms f (c :: r)) (hq : q.length ≤ k) (hcr : xs.drop k = c :: r)
    (hy : y'.cps.toList = (c :: r).drop (plen (c :: r))) (e1 : symN (c :: r) = z1) (e2 : stp (symN (c :: r), ((plen (c :: r) : Nat) : Int)) = z2) :
    SPOk xs ⟨y', t', us1 ++ [.int z1 t1], us2 ++ [.int z2 t2], j1, j2, q ++ [(symN (c :: r), ((plen (c :: r) : Nat) : Int))]⟩ := by
  subst e1 e2
  have hp := plen_pos (c := c :: r) (by simp)
  have hpl : plen (c :: r) ≤ (c :: r).length := by unfold plen; rw [List.length_take]; omega
  have hl := congrArg List.length hcr
  rw [List.length_drop] at hl
  obtain ⟨f', e1, e2⟩ := syms_step (by simp) hf
  refine ⟨?_, ?_, k + plen (c :: r), f', by omega, ?_, ?_, ?_, ?_⟩
  · dsimp only
    rw [List.map_append]
    exact i1.append (.cons _ _ .nil)
  · dsimp only
    rw [List.map_append]
    exact i2.append (.cons _ _ .nil)
  · dsimp only
    rw [hy, ← List.drop_drop, hcr]
  · rw [← List.drop_drop, hcr]; exact e2
  · dsimp only
    rw [hs, e1, ← List.drop_drop, hcr, List.append_assoc]; rfl
  · dsimp only
    rw [List.length_append]
    simp
    omega
theorem ordP {t a b : Addr} {o1 o2 o3 : Obj} {T : List (Addr × Obj)} : ∀ p ∈ (t, o1) :: (a, o2) :: (b, o3) :: T, p ∈ (t, o1) :: (b, o3) :: (a, o2) :: T := by
  intro p hp
  simp only [List.mem_cons] at hp ⊢
  grind
theorem c_plain {w : World} {dp un : Nat} {gd : Option (List Code)} {cn : Str} {cs : Scope} {a : Addr} {ccd : Value} {cl : List (Str × Addr)} {outer : List Env} {A₀ : Around} {base h₀ : Heap} {L : Addr} {m : Str → Option Value} {news : List (Addr × Obj)} {s : Shared} {Q E : Value → Shared → Prop} {p : Program} {loose : List Str} {mean : ExcName → Option Value} {mg mb : Str → Option Value} {x : Str} {tx : Tok}
  (B : Below A₀ base outer h₀) (F : Fr h₀ L s.heap m) (X : (hd.heap_1 w.params).In h₀) (T : Top p loose mean mg mb h₀) (hk : cs.kind = .function) (N : News h₀ L s.heap news) (hxl : x.length = 5)
  (hdp : dp + 40 < recursionLimit) (hup : un + 400 < cLine)
  (hal : ∀ c ∈ x.cps.toList, c ∈ alpha)
  (ret : ∀ t a b d us1 us2 mv k1 k2 h' tk', IntsAre us1 ((syms 5 x.cps.toList).map (·.1)) → IntsAre us2 ((syms 5 x.cps.toList).map stp) → Fr h₀ L h' m → News h₀ L h' ((t, { cls := Value.type "tuple", data := Data.seq #[.ref a, .ref b] }) :: (a, W.listOf us1.toArray k1) :: (b, W.listOf us2.toArray k2) :: (d, W.listOf mv 0) :: news) → Q (.ref t) {s with heap := h', toks := tk'}) :
  wpAny (model PySem.Challenge.rw_un0023_01.prog w) (ktrTop dp un gd cn cs L a ccd cl outer) (call (.ref 119) [.str x tx]) Q E s := by
  revert X; k_fill; intro X
  have kMark : KstMark := kstMark
  refine wpAny_call ?_
  k_dflt cell_enter
  k_steps
  rename_i d ls _ _ hspl hmv0 o0 _ _ a _ o1 _ _ b _ o2 _ F2 N2
  have hmv : StrsAre (strValues ls) mkStrs := by rw [hspl, mk_split] at hmv0; exact hmv0
  clear hmv0 hspl
  generalize strValues ls = mv at N2 hmv
  clear ls
  dsimp only [hold]
  have hxc := cl_of x
  have n1 : ∀ q ∈ news, q.1 ≠ a := fun q hq => Nat.ne_of_lt (ktn_ltOf o1.2 q hq)
  have n2 : ∀ q ∈ news, q.1 ≠ b := fun q hq => Nat.ne_of_lt (ktn_ltOf o2.2.2 q hq)
  have ha : @LT.lt Nat _ d a := o1.1
  have hb1 : @LT.lt Nat _ a b := o2.1
  have hb2 : @LT.lt Nat _ d b := o2.2.1
  refine' ksw_while (SPLed a b d mv news) (fun c => [(Str.ofString "text", .str c.y c.t)]) (fun _ => True) [Str.ofString "wide"] (SPOk x.cps.toList) (fun c => c.y.length)
    ⟨x, _, [], [], 0, 0, []⟩ F2 N2 trivial ?hk ⟨.nil, .nil, 0, _, Nat.zero_le _, rfl, Nat.le_refl _, rfl, Nat.le_refl _⟩ ?turn
  case hk => kst_all
  case turn =>
    clear F2 N2 N F o0 o1 o2
    intro c u h tk _ hc F3 N3
    obtain ⟨y, t, us1, us2, k1, k2, q⟩ := c
    obtain ⟨i1, i2, k, f, hk9, hy, hf, hs, hq⟩ := hc
    dsimp only at hk9 hy hf hs hq i1 i2 F3
    dsimp only [kstB] at F3
    dsimp only [SPLed] at N3
    have hyc := cl_of y
    rw [hy, List.length_drop, hxc] at hyc
    have hu1 := i1.length
    have hu2 := i2.length
    rw [List.length_map] at hu1 hu2
    have hz1 : us1.length ≤ 5 := by omega
    have hz2 : us2.length ≤ 5 := by omega
    have hy5 : y.length ≤ 5 := by omega
    clear hu1 hu2
    by_cases hy0 : y.length = 0
    · obtain rfl : y = Str.ofString "" := str_eq (by
        have : y.cps.toList.length = 0 := by rw [cl_of]; exact hy0
        rw [List.eq_nil_of_length_eq_zero this]; rfl)
      have hnil : x.cps.toList.drop k = [] := by rw [← hy]; rfl
      rw [hnil, syms_nil, List.append_nil, hxc, hxl] at hs
      k_steps
      rename Fr h₀ _ _ _ => F8
      rename News h₀ _ _ _ => N8
      rw [← hs] at i1 i2
      exact ret _ _ _ _ _ _ _ _ _ _ _ i1 i2 F8 (cb_drop N8 ordP)
    · have hy1 : 0 < y.length := by omega
      obtain ⟨c, r, hcr⟩ : ∃ c r, x.cps.toList.drop k = c :: r := by
        cases hd : x.cps.toList.drop k with
        | nil => rw [hd] at hy; have := cl_of y; rw [hy] at this; simp at this; omega
        | cons c r => exact ⟨c, r, rfl⟩
      have hca : c ∈ alpha := hal c (List.mem_of_mem_drop (by rw [hcr]; exact .head _))
      have hit : Txt.item y 0 = ⟨#[c]⟩ := (item_is (Int.le_refl 0) (by show y.cps.toList.drop 0 = c :: r; rw [List.drop_zero, hy, hcr])).1
      have hkl : k < x.cps.toList.length := by omega
      rw [hcr] at hy hf hs
      
      k_steps
      · rename (Txt.item y 0 == _) = true => hq1
        have h34 : c = 34 := by
          rw [hit, q_is, one_eq] at hq1
          exact of_decide_eq_true hq1
        subst h34
        rename News _ _ _ _ => N8
        rename Fr _ _ _ _ => F8
        simp only [List.push_toArray] at N8
        obtain ⟨e1, e2⟩ := q_sym r
        refine' ksw_end ⟨_, _, us1 ++ [_], us2 ++ [_], k1 + 1, k2 + 1, q ++ [(symN (34 :: r), ((plen (34 :: r) : Nat) : Int))]⟩ F8 N8 (fun p hp => hp) trivial ?hk ?hr (sp_step i1 i2 hkl hf hs hq hcr ?hz e1 ?h2) ?hm
        case hk => kst_all
        case hr => ksw_same
        case hz => rw [slice_from y (by decide), hy, e2]; rfl
        case h2 => rw [e1]; exact stp_q
        case hm =>
          show (Txt.slice y (some 1) none).length < y.length
          have hw := len_of (slice_from y (i := 1) (by decide))
          rw [List.length_drop, cl_of] at hw
          rw [hw]
          show y.length - 1 < y.length
          omega
      · rename (Txt.item y 0 == _) = false => hq1
        have h34 : c ≠ 34 := by
          rw [hit, q_is, one_eq] at hq1
          exact of_decide_eq_false hq1
        rename News _ _ _ _ => N4
        rename Fr _ _ _ _ => F4
        dsimp only [hold]
        refine' ksw_while (fun _ => (b, W.listOf us2.toArray k2) :: (a, W.listOf us1.toArray k1) :: (d, W.listOf mv.toArray 0) :: news) (fun c : Int × Tok => [(Str.ofString "wide", .int c.1 c.2)]) (fun _ => True) [] (fun z => PW (c :: r) z.1) (fun c => c.1.toNat) (3, _) F4 N4 trivial ?ik (pw_start _) ?iturn
        case ik => kst_all
        case iturn =>
          clear F4 N4
          intro z u h tk _ hc F5 N5
          obtain ⟨wd, wt⟩ := z
          dsimp only at hc F5
          dsimp only [kstB] at F5
          have hw1 : 1 ≤ wd := hc.1
          have hw2 : wd ≤ 3 := hc.2.1
          have hsl : (Txt.slice y none (some wd)).cps.toList = (c :: r).take wd.toNat := by rw [slice_to y (by omega), hy]
          k_steps
          · have hin : (c :: r).take wd.toNat ∈ mkc := by
              rw [← hsl]
              apply of_decide_eq_true
              rw [← any_mk]
              assumption
            rename News _ _ _ _ => N8
            rename Fr _ _ _ _ => F8
            have hb := pw_end3 hc hin
            obtain ⟨e1, e2, e3⟩ := c_sym (r := r) hca h34
            have e4 : (Txt.slice y none (some wd)).length = plen (c :: r) := by
              rw [len_of hsl]
              unfold plen
              rw [hb]
            have e5 : 7 + ((mkc.idxOf (Txt.slice y none (some wd)).cps.toList : Nat) : Int) = symN (c :: r) := by
              rw [hsl, e1, hb]
            rw [e4, e5] at N8
            simp only [List.push_toArray] at N8
            have e6 : (Txt.slice y (some wd) none).cps.toList = (c :: r).drop (plen (c :: r)) := by
              rw [slice_from y (by omega), hy]
              unfold plen
              rw [hb, List.length_take]
              by_cases hle : wd.toNat ≤ (c :: r).length
              · rw [Nat.min_eq_left hle]
              · rw [Nat.min_eq_right (by omega), List.drop_of_length_le (by omega), List.drop_of_length_le (Nat.le_refl _)]
            refine' ksw_end ⟨_, _, us1 ++ [_], us2 ++ [_], k1 + 1, k2 + 1, q ++ [(symN (c :: r), ((plen (c :: r) : Nat) : Int))]⟩ F8 N8 (fun p hp => hp) trivial ?hk ?hr (sp_step i1 i2 hkl hf hs hq hcr e6 rfl (stp_c e3)) ?hm
            case hk => kst_all
            case hr => ksw_same
            case hm =>
              show (Txt.slice y (some wd) none).length < y.length
              have hp := plen_pos (c := c :: r) (by simp)
              rw [len_of e6, len_of hy, List.length_drop, List.length_cons]
              omega
          · have hni : (c :: r).take wd.toNat ∉ mkc := by
              rw [← hsl]
              apply of_decide_eq_false
              rw [← any_mk]
              assumption
            rename News _ _ _ _ => N8
            rename Fr _ _ _ _ => F8
            obtain ⟨hw3, hw4⟩ := pw_on3 hc hca h34 hni
            refine' ksw_end (wd - 1, _) F8 N8 (fun p hp => hp) trivial ?hk ?hr hw4 ?hm
            case hk => kst_all
            case hr => ksw_same
            case hm => dsimp only; omega
      · rename (y != _) = false => hbad
        exfalso
        have e : y = Str.ofString "" := by simpa [bne] using hbad
        rw [e] at hy1
        exact absurd hy1 (by decide)
end Mine
theorem Mine.part20 : True := by
  k_with_none
  w_top off
  exact True.intro
end
section
open PySem PySem.W PyProof.Rows PySem.Spec PySem.Calls
set_option maxRecDepth 100000
set_option maxHeartbeats 8000000
set_option pp.deepTerms.threshold 8
namespace Mine
local macro_rules | `(tactic| k_all) => `(tactic| with_reducible assumption)
local macro_rules | `(tactic| walk_at "exec While BoolOp cons nil") => `(tactic| (k_here; refine hold_on ?_))
def Hid5 (n : Nat) : Prop := n ≤ 5
theorem Hid5.out {n : Nat} (h : Hid5 n) : n ≤ 5 := h
theorem pow_bits {b e : Int} (h0 : 0 ≤ b) (h5 : b ≤ 5) (e0 : 0 ≤ e) (e3 : e ≤ 3) : Builtin.Int.intBits (b ^ e.toNat) ≤ 64 := by
  have hb : b = 0 ∨ b = 1 ∨ b = 2 ∨ b = 3 ∨ b = 4 ∨ b = 5 := by omega
  have he : e = 0 ∨ e = 1 ∨ e = 2 ∨ e = 3 := by omega
  rcases hb with rfl | rfl | rfl | rfl | rfl | rfl <;> rcases he with rfl | rfl | rfl | rfl <;> decide
section
variable {prog : Program} {w : World} {A : Around} {E : Value → Shared → Prop} {s : Shared} {Q : Value → Shared → Prop} {a b e : Int} {t u : Tok}
theorem pow_me (h0 : 0 ≤ b) (h5 : b ≤ 5) (e0 : 0 ≤ e) (e3 : e ≤ 3) (h : Q (.int (b ^ e.toNat) s.toks) { s with toks := s.toks + 1 }) : wpAny (model prog w) A (binaryOp .Pow (.int b t) (.int e u)) Q E s :=
  pow_int_small e0 (by omega) (by omega) h
theorem imul_me (h0 : 0 ≤ b) (h5 : b ≤ 5) (e0 : 0 ≤ e) (e3 : e ≤ 3) (h : Q (.int (a * b ^ e.toNat) s.toks) { s with toks := s.toks + 1 }) : wpAny (model prog w) A (inplaceOp .Mult (.int a t) (.int (b ^ e.toNat) u)) Q E s :=
  PyProof.Rows.imul_int h (IntMulOk.of_right (pow_bits h0 h5 e0 e3))
theorem mul_me (h0 : 0 ≤ a) (h5 : a ≤ 5) (h : Q (.int (a * b) s.toks) { s with toks := s.toks + 1 }) : wpAny (model prog w) A (binaryOp .Mult (.int a t) (.int b u)) Q E s :=
  PyProof.Rows.mul_int h (IntMulOk.of_left (intBits_le_64 (by omega) (by omega)))
end
local macro_rules | `(tactic| walk_at "binaryOp Mult int int") => `(tactic| (k_here; (with_reducible show wpAny _ _ (binaryOp .Mult (Value.int _ _) (Value.int _ _)) _ _ _); refine mul_me (by omega) (by first | omega | (have h9 := Hid5.out ‹Hid5 _›; omega)) ?_))
local macro_rules | `(tactic| walk_at "binaryOp Pow int int") => `(tactic| (k_here; (with_reducible show wpAny _ _ (binaryOp .Pow (Value.int _ _) (Value.int _ _)) _ _ _); refine pow_me (by omega) (by first | omega | (have h9 := Hid5.out ‹Hid5 _›; omega)) (by first | omega | exact (‹∀ i : Nat, (0 : Int) ≤ List.getD _ i 0 ∧ List.getD _ i 0 ≤ (3 : Int)› _).1) (by first | omega | exact (‹∀ i : Nat, (0 : Int) ≤ List.getD _ i 0 ∧ List.getD _ i 0 ≤ (3 : Int)› _).2) ?_))
local macro_rules | `(tactic| walk_at "inplaceOp Mult int int") => `(tactic| (k_here; (with_reducible show wpAny _ _ (inplaceOp .Mult (Value.int _ _) (Value.int (_ ^ _) _)) _ _ _); refine imul_me (by omega) (by first | omega | (have h9 := Hid5.out ‹Hid5 _›; omega)) (by first | omega | exact (‹∀ i : Nat, (0 : Int) ≤ List.getD _ i 0 ∧ List.getD _ i 0 ≤ (3 : Int)› _).1) (by first | omega | exact (‹∀ i : Nat, (0 : Int) ≤ List.getD _ i 0 ∧ List.getD _ i 0 ≤ (3 : Int)› _).2) ?_))
/-- the value of the n-th stretch after j of its factors -/
noncomputable def pvi (sts : List Int) (f n : Nat) (v0 : Int) : Nat → Int
  | 0 => v0
  | j + 1 => pvi sts f n v0 j * ((n : Int) - ((f : Int) + 1 + (j : Nat)) + 1) ^ (sts.getD ((f : Int) + 1 + (j : Nat)).toNat 0).toNat
def pv0 (nums sts : List Int) (f n : Nat) : Int :=
  (nums.getD (Int.toNat 0) 0 + ((n : Int) - (f : Int)) * nums.getD (-1 + (nums.length : Int)).toNat 0) * ((n : Int) - (f : Int) + 1) ^ (sts.getD ((f : Int)).toNat 0 - 1).toNat
noncomputable def dueV (nums sts : List Int) (f n : Nat) : Int := if n < f then 0 else pvi sts f n (pv0 nums sts f n) (n - f)
theorem due_nil {nums sts : List Int} {f : Nat} : ([] : List Int) = (List.range ([] : List Int).length).map (dueV nums sts f) := rfl
theorem due_step {nums sts : List Int} {f : Nat} {due pre : List Int} {k z : Int} (h : due = (List.range pre.length).map (dueV nums sts f)) (hz : z = dueV nums sts f pre.length) : due ++ [z] = (List.range (pre ++ [k]).length).map (dueV nums sts f) := by
  rw [List.length_append, show [k].length = 1 from rfl, List.range_succ, List.map_append, ← h, hz]; rfl
theorem due_lo {nums sts : List Int} {f : Nat} {pre : List Int} (h : (pre.length : Int) < (f : Int)) : 0 = dueV nums sts f pre.length := by
  unfold dueV
  rw [if_pos (by omega)]
theorem due_hi {nums sts : List Int} {f : Nat} {pre : List Int} {v : Int} (h : ¬ (pre.length : Int) < (f : Int)) {a : Int} {b : Int} (hb : b = (pre.length : Int) + 1) (ha : a = (f : Int) + 1) (hv : v = pvi sts f pre.length (pv0 nums sts f pre.length) (rangeKs a (b - a).toNat).length) : v = dueV nums sts f pre.length := by
  unfold dueV
  rw [if_neg (by omega), hv, rangeKs_length]
  congr 1
  omega
theorem pvi_step {sts : List Int} {f n : Nat} {v0 v k : Int} {pre : List Int} (h : v = pvi sts f n v0 pre.length) (hk : k = (f : Int) + 1 + (pre.length : Int)) :
    v * ((n : Int) - k + 1) ^ (sts.getD k.toNat 0).toNat = pvi sts f n v0 (pre ++ [k]).length := by
  rw [List.length_append, show [k].length = 1 from rfl]
  show _ = pvi sts f n v0 pre.length * _
  rw [h, hk]
noncomputable def fz : List Int → Nat
  | [] => 0
  | x :: r => if x = 0 then fz r + 1 else 0
theorem fz_le : ∀ l : List Int, fz l ≤ l.length
  | [] => Nat.le_refl _
  | x :: r => by
    unfold fz
    split
    · have := fz_le r; simp; omega
    · exact Nat.zero_le _
theorem fz_is : ∀ (l : List Int) (f : Nat), f ≤ l.length → (∀ i, i < f → l.getD i 0 = 0) → (f = l.length ∨ l.getD f 0 ≠ 0) → fz l = f
  | [], f, h1, _, _ => by simp at h1; subst h1; rfl
  | x :: r, 0, _, _, h3 => by
    rcases h3 with h3 | h3
    · simp at h3
    · have : ¬ x = 0 := h3
      unfold fz
      rw [if_neg this]
  | x :: r, f + 1, h1, h2, h3 => by
    have h0 : x = 0 := h2 0 (Nat.succ_pos _)
    unfold fz
    rw [if_pos h0, fz_is r f (by simpa using h1) (fun i hi => h2 (i + 1) (by omega)) (by simpa using h3)]
theorem c_due {w : World} {dp un : Nat} {gd : Option (List Code)} {cn : Str} {cs : Scope} {a : Addr} {ccd : Value} {cl : List (Str × Addr)} {outer : List Env} {A₀ : Around} {base h₀ : Heap} {L : Addr} {m : Str → Option Value} {news : List (Addr × Obj)} {s : Shared} {Q E : Value → Shared → Prop} {p : Program} {loose : List Str} {mean : ExcName → Option Value} {mg mb : Str → Option Value} {l1 l2 : Addr} {us1 us2 : List Value} {k1 k2 : Nat} {nums sts : List Int}
  (B : Below A₀ base outer h₀) (F : Fr h₀ L s.heap m) (X : (hd.heap_1 w.params).In h₀) (T : Top p loose mean mg mb h₀) (hk : cs.kind = .function) (N : News h₀ L s.heap ((l1, W.listOf us1.toArray k1) :: (l2, W.listOf us2.toArray k2) :: news)) (i1 : IntsAre us1 nums) (i2 : IntsAre us2 sts) (hl1 : nums.length = sts.length) (hl2 : sts.length ≤ 5) (hl3 : 1 ≤ sts.length)
  (hb1 : ∀ x ∈ nums, 0 < x ∧ x ≤ 290) (hb2 : ∀ x ∈ sts, 0 ≤ x ∧ x ≤ 3)
  (hdp : dp + 40 < recursionLimit) (hup : un + 400 < cLine)
  (ret : ∀ l us k h' tk', IntsAre us ((List.range sts.length).map (dueV nums sts (fz sts))) → Fr h₀ L h' m → News h₀ L h' ((l, W.listOf us.toArray k) :: (l1, W.listOf us1.toArray k1) :: (l2, W.listOf us2.toArray k2) :: news) → Q (.ref l) {s with heap := h', toks := tk'}) :
  wpAny (model PySem.Challenge.rw_un0023_01.prog w) (ktrTop dp un gd cn cs L a ccd cl outer) (call (.ref 147) [.ref l1, .ref l2]) Q E s := by
  revert X; k_fill; intro X
  have kMark : KstMark := kstMark
  refine wpAny_call ?_
  k_dflt cell_enter
  k_steps
  rename_i da _ o1 _ _ F2 N2
  dsimp only [hold]
  have hu1 := i1.length
  have hu2 := i2.length
  refine' ksw_while (fun _ => (da, W.listOf #[] 0) :: (l1, W.listOf us1.toArray k1) :: (l2, W.listOf us2.toArray k2) :: news) (fun c : Nat × Tok => [(Str.ofString "first", .int ((c.1 : Nat) : Int) c.2)]) (fun _ => True) [] (fun c => c.1 ≤ sts.length ∧ ∀ i, i < c.1 → sts.getD i 0 = 0) (fun c => sts.length - c.1) (0, _) F2 N2 trivial ?hk ⟨Nat.zero_le _, fun i h => absurd h (Nat.not_lt_zero _)⟩ ?turn
  case hk => kst_all
  case turn =>
    clear F2 N2 N F
    intro c u h tk _ hc F3 N3
    obtain ⟨f, ft⟩ := c
    obtain ⟨hf1, hf2⟩ := hc
    dsimp only at hf1 hf2 F3
    dsimp only [kstB] at F3
    k_with "exec For Name Call cons nil" => (refine hold_on ?_)
    have hb3 : ∀ i, 0 ≤ sts.getD i 0 ∧ sts.getD i 0 ≤ 3 := by
      intro i
      rw [List.getD_eq_getElem?_getD]
      cases hi : sts[i]? with
      | none => exact ⟨by decide, by decide⟩
      | some v => exact hb2 v (List.mem_of_getElem? hi)
    k_steps
    · rename News _ _ _ _ => N8
      rename Fr _ _ _ _ => F8
      rename List.getD _ _ _ = 0 => hz
      refine' ksw_end (f + 1, _) F8 N8 (fun p hp => hp) trivial ?hk ?hr ⟨by dsimp only; omega, ?hz⟩ ?hm
      case hk => kst_all
      case hr => ksw_same
      case hz =>
        intro i hi
        by_cases e : i = f
        · subst e; exact hz
        · exact hf2 i (by dsimp only at hi; omega)
      case hm => dsimp only; omega
    · rename List.getD _ _ _ ≠ 0 => hz
      have hf : fz sts = f := fz_is sts f hf1 hf2 (.inr hz)
      have hb4 : f < sts.length → 1 ≤ sts.getD ((f : Int)).toNat 0 ∧ sts.getD ((f : Int)).toNat 0 ≤ 3 := fun _ => by
        have := hb3 ((f : Int)).toNat
        omega
      clear hz hf2
      have hl9 : Hid5 sts.length := hl2
      have hl8 : sts.length ≤ 1000 := by omega
      clear hl2
      k_with_none
      k_with "pyIter ref" => (refine hold_on ?_)
      dsimp only [hold]
      k_steps
      dsimp only [hold]
      k_state (fun pre due => due = (List.range pre.length).map (dueV nums sts f)) "due"
      · have hn9 : kN = ((kPre.length : Nat) : Int) := by omega
        subst hn9
        have hlt9 : kPre.length < sts.length := by omega
        have hIl := congrArg List.length kInv
        rw [List.length_map, List.length_range] at hIl
        have hno : ∀ q ∈ news ++ kOwn, q.1 ≠ da := fun q hq => (List.mem_append.mp hq).elim (fun h => Nat.ne_of_lt (ktn_ltOf o1.2.2 q h)) (fun h => kOff q h da (.head _))
        k_with "state" => (first | with_reducible exact due_step (by assumption) (due_lo (by first | assumption | omega)) | with_reducible exact due_step (by assumption) (due_hi (by assumption) rfl rfl (by assumption)) | with_reducible exact pvi_step (by assumption) (by assumption) | exact (rfl : pv0 nums sts f kPre.length = _))
        k_steps
        dsimp only [hold]
        k_state (fun pre v => v = pvi sts f kPre.length (pv0 nums sts f kPre.length) pre.length) "value"
        all_goals k_steps
      · rw [kInv, rangeKs_length, show ((sts.length : Int) - 0).toNat = sts.length by omega] at kFacts
        (try dsimp only)
        k_steps
        rename Fr h₀ _ _ _ => F8
        rename News h₀ _ _ _ => N8
        rw [hf] at ret
        exact ret _ _ _ _ _ kFacts F8 N8
    · have hf : fz sts = f := fz_is sts f hf1 hf2 (.inl (by omega))
      have hb4 : f < sts.length → 1 ≤ sts.getD ((f : Int)).toNat 0 ∧ sts.getD ((f : Int)).toNat 0 ≤ 3 := fun h => absurd h (by omega)
      clear hf2
      have hl9 : Hid5 sts.length := hl2
      have hl8 : sts.length ≤ 1000 := by omega
      clear hl2
      k_with_none
      k_with "pyIter ref" => (refine hold_on ?_)
      dsimp only [hold]
      k_steps
      dsimp only [hold]
      k_state (fun pre due => due = (List.range pre.length).map (dueV nums sts f)) "due"
      · have hn9 : kN = ((kPre.length : Nat) : Int) := by omega
        subst hn9
        have hlt9 : kPre.length < sts.length := by omega
        have hIl := congrArg List.length kInv
        rw [List.length_map, List.length_range] at hIl
        have hno : ∀ q ∈ news ++ kOwn, q.1 ≠ da := fun q hq => (List.mem_append.mp hq).elim (fun h => Nat.ne_of_lt (ktn_ltOf o1.2.2 q h)) (fun h => kOff q h da (.head _))
        k_with "state" => (first | with_reducible exact due_step (by assumption) (due_lo (by first | assumption | omega)) | with_reducible exact due_step (by assumption) (due_hi (by assumption) rfl rfl (by assumption)) | with_reducible exact pvi_step (by assumption) (by assumption) | exact (rfl : pv0 nums sts f kPre.length = _))
        k_steps
      · rw [kInv, rangeKs_length, show ((sts.length : Int) - 0).toNat = sts.length by omega] at kFacts
        (try dsimp only)
        k_steps
        rename Fr h₀ _ _ _ => F8
        rename News h₀ _ _ _ => N8
        rw [hf] at ret
        exact ret _ _ _ _ _ kFacts F8 N8
end Mine
theorem Mine.part21 : True := by
  k_with_none
  w_top off
  exact True.intro
end
section
open PySem PySem.W PyProof.Rows PySem.Spec PySem.Calls
set_option maxRecDepth 100000
set_option maxHeartbeats 4000000
namespace Mine
/-! the plain law: the struck numbers are the due ones. A number is told by its two factors, of a and of d -/
def lev (a d : Int) (p : Int × Int) : Int := p.1 * a + p.2 * d
def ladd (p q : Int × Int) : Int × Int := (p.1 + q.1, p.2 + q.2)
theorem lev_add {a d : Int} {p q : Int × Int} : lev a d (ladd p q) = lev a d p + lev a d q := by
  unfold lev ladd
  rw [Int.add_mul, Int.add_mul]; omega
noncomputable def lsum : Int × Int → List (Int × Int) → List (Int × Int)
  | _, [] => []
  | s, x :: r => ladd s x :: lsum (ladd s x) r
theorem lsum_ev {a d : Int} : ∀ (s : Int × Int) (l : List (Int × Int)), psum (lev a d s) (l.map (lev a d)) = (lsum s l).map (lev a d)
  | _, [] => rfl
  | s, x :: r => by
    have ih := lsum_ev (a := a) (d := d) (ladd s x) r
    rw [lev_add] at ih
    show _ :: psum (lev a d s + lev a d x) _ = _ :: _
    rw [ih, lev_add]
noncomputable def lstrike (sums : List (Int × Int)) : List Int → Nat → List (Int × Int) → List (Int × Int) × List Int × List (Int × Int)
  | g :: gs, k, f :: fs =>
    if 0 < g then
      ((sums.drop k).take (g.toNat - 1) ++ (lstrike sums gs (k + g.toNat) fs).1, (g - 1) :: (lstrike sums gs (k + g.toNat) fs).2.1, sums.getD (k + g.toNat - 1) (0, 0) :: (lstrike sums gs (k + g.toNat) fs).2.2)
    else
      ((lstrike sums gs k fs).1, g :: (lstrike sums gs k fs).2.1, f :: (lstrike sums gs k fs).2.2)
  | gs, _, fs => ([], gs, fs)
theorem getD_ev {a d : Int} (l : List (Int × Int)) (i : Nat) : (l.map (lev a d)).getD i 0 = lev a d (l.getD i (0, 0)) := by
  rw [List.getD_eq_getElem?_getD, List.getD_eq_getElem?_getD, List.getElem?_map]
  cases l[i]? with
  | none => simp [lev]
  | some v => rfl
theorem lstrike_ev {a d : Int} (sums : List (Int × Int)) : ∀ (gs : List Int) (k : Nat) (fs : List (Int × Int)),
    strike (sums.map (lev a d)) gs k (fs.map (lev a d)) = ((lstrike sums gs k fs).1.map (lev a d), (lstrike sums gs k fs).2.1, (lstrike sums gs k fs).2.2.map (lev a d))
  | [], k, fs => by unfold strike lstrike; rfl
  | g :: gs, k, [] => by unfold strike lstrike; rfl
  | g :: gs, k, f :: fs => by
    have ih := lstrike_ev (a := a) (d := d) sums gs
    unfold lstrike
    show strike (sums.map (lev a d)) (g :: gs) k (lev a d f :: fs.map (lev a d)) = _
    unfold strike
    split
    · dsimp only
      rw [ih, getD_ev, List.map_append, ← List.map_drop, ← List.map_take]; rfl
    · dsimp only
      rw [ih]; rfl
def lok : List (Int × Int) → Bool
  | [] => true
  | x :: r => decide (0 < x.1) && (x :: r).all (fun y => decide (0 ≤ y.1) && decide (0 ≤ y.2)) && decide (290 * ((x :: r).map fun p => p.1 + p.2).sum < 33554431) && decide ((x :: r).length ≤ 19)
theorem lev_le {a d : Int} (ha : a ≤ 290) (hd : d ≤ 290) {p : Int × Int} (h1 : 0 ≤ p.1) (h2 : 0 ≤ p.2) : lev a d p ≤ 290 * (p.1 + p.2) := by
  unfold lev
  have e1 := Int.mul_le_mul_of_nonneg_left ha h1
  have e2 := Int.mul_le_mul_of_nonneg_left hd h2
  omega
theorem lev_nn {a d : Int} (ha : 0 ≤ a) (hd : 0 ≤ d) {p : Int × Int} (h1 : 0 ≤ p.1) (h2 : 0 ≤ p.2) : 0 ≤ lev a d p := by
  unfold lev
  have e1 := Int.mul_nonneg h1 ha
  have e2 := Int.mul_nonneg h2 hd
  omega
theorem sum_le {a d : Int} (ha : a ≤ 290) (hd : d ≤ 290) : ∀ l : List (Int × Int), (∀ y ∈ l, 0 ≤ y.1 ∧ 0 ≤ y.2) → (l.map (lev a d)).sum ≤ 290 * (l.map fun p => p.1 + p.2).sum
  | [], _ => by simp
  | x :: r, h => by
    have ih := sum_le ha hd r fun y hy => h y (List.mem_cons_of_mem _ hy)
    have hx := h x List.mem_cons_self
    have := lev_le ha hd hx.1 hx.2
    simp only [List.map_cons, List.sum_cons]
    omega
theorem lok_ev {a d : Int} (ha : 0 < a) (ha2 : a ≤ 290) (hd : 0 ≤ d) (hd2 : d ≤ 290) {l : List (Int × Int)} (h : lok l = true) : okRow (l.map (lev a d)) = true := by
  cases l with
  | nil => rfl
  | cons x r =>
    simp only [lok, Bool.and_eq_true, decide_eq_true_eq, List.all_eq_true] at h
    obtain ⟨⟨⟨h1, h2⟩, h3⟩, h4⟩ := h
    show okRow (lev a d x :: r.map (lev a d)) = true
    simp only [okRow, Bool.and_eq_true, decide_eq_true_eq, List.all_eq_true]
    refine ⟨⟨⟨?_, ?_⟩, ?_⟩, ?_⟩
    · have hx := h2 x List.mem_cons_self
      have e1 := Int.mul_pos h1 ha
      have e2 := Int.mul_nonneg hx.2 hd
      unfold lev; omega
    · intro y hy
      rw [← List.map_cons (f := lev a d)] at hy
      obtain ⟨p, hp, rfl⟩ := List.mem_map.mp hy
      have hx := h2 p hp
      exact lev_nn (Int.le_of_lt ha) hd hx.1 hx.2
    · rw [← List.map_cons (f := lev a d)]
      exact Int.lt_of_le_of_lt (sum_le ha2 hd2 (x :: r) h2) h3
    · rw [← List.map_cons (f := lev a d), List.length_map]; exact h4
noncomputable def lrun : Nat → List (Int × Int) → List Int → List (Int × Int) → Option (List (Int × Int))
  | 0, _, _, _ => none
  | f + 1, row, gaps, finals =>
    if row = [] then some finals
    else if lok row && gaps.all (fun g => decide (0 ≤ g)) && decide (gaps.sum ≤ row.length) then
      lrun f (lstrike (lsum (0, 0) row) gaps 0 finals).1 (lstrike (lsum (0, 0) row) gaps 0 finals).2.1 (lstrike (lsum (0, 0) row) gaps 0 finals).2.2
    else none
theorem lrun_ev {a d : Int} (ha : 0 < a) (ha2 : a ≤ 290) (hd : 0 ≤ d) (hd2 : d ≤ 290) : ∀ (f : Nat) (row : List (Int × Int)) (gaps : List Int) (fins out : List (Int × Int)),
    lrun f row gaps fins = some out → run f (row.map (lev a d)) gaps (fins.map (lev a d)) = some (out.map (lev a d))
  | 0, _, _, _, _, h => by cases h
  | f + 1, row, gaps, fins, out, h => by
    unfold lrun at h
    unfold run
    by_cases hr : row = []
    · rw [if_pos hr] at h
      rw [if_pos (by rw [hr]; rfl)]
      rw [Option.some.inj h]
    · rw [if_neg hr] at h
      rw [if_neg (by simpa using hr)]
      split at h
      · rename_i hc
        simp only [Bool.and_eq_true] at hc
        rw [if_pos (by
          rw [Bool.and_eq_true, Bool.and_eq_true, List.length_map]
          exact ⟨⟨lok_ev ha ha2 hd hd2 hc.1.1, hc.1.2⟩, hc.2⟩)]
        have e : (0 : Int) = lev a d (0, 0) := by simp [lev]
        have e2 := lsum_ev (a := a) (d := d) (0, 0) row
        rw [← e] at e2
        dsimp only
        rw [e2, lstrike_ev]
        exact lrun_ev ha ha2 hd hd2 f _ _ _ out h
      · cases h
/-! what is due, by its two factors -/
noncomputable def lpv (sts : List Int) (f n : Nat) (v0 : Int × Int) : Nat → Int × Int
  | 0 => v0
  | j + 1 => ((lpv sts f n v0 j).1 * ((n : Int) - ((f : Int) + 1 + (j : Nat)) + 1) ^ (sts.getD ((f : Int) + 1 + (j : Nat)).toNat 0).toNat, (lpv sts f n v0 j).2 * ((n : Int) - ((f : Int) + 1 + (j : Nat)) + 1) ^ (sts.getD ((f : Int) + 1 + (j : Nat)).toNat 0).toNat)
theorem lpv_ev {a d : Int} {sts : List Int} {f n : Nat} {v0 : Int × Int} : ∀ j, lev a d (lpv sts f n v0 j) = pvi sts f n (lev a d v0) j
  | 0 => rfl
  | j + 1 => by
    unfold pvi
    rw [← lpv_ev (a := a) (d := d) j]
    generalize hx : ((n : Int) - ((f : Int) + 1 + (j : Nat)) + 1) ^ (sts.getD ((f : Int) + 1 + (j : Nat)).toNat 0).toNat = x
    show (lpv sts f n v0 j).1 * ((n : Int) - ((f : Int) + 1 + (j : Nat)) + 1) ^ (sts.getD ((f : Int) + 1 + (j : Nat)).toNat 0).toNat * a + (lpv sts f n v0 j).2 * ((n : Int) - ((f : Int) + 1 + (j : Nat)) + 1) ^ (sts.getD ((f : Int) + 1 + (j : Nat)).toNat 0).toNat * d = ((lpv sts f n v0 j).1 * a + (lpv sts f n v0 j).2 * d) * x
    rw [hx, Int.add_mul, Int.mul_right_comm, Int.mul_right_comm (lpv sts f n v0 j).2]
noncomputable def ldue (sts : List Int) (f n : Nat) : Int × Int :=
  if n < f then (0, 0) else lpv sts f n (((n : Int) - (f : Int) + 1) ^ (sts.getD ((f : Int)).toNat 0 - 1).toNat, ((n : Int) - (f : Int)) * ((n : Int) - (f : Int) + 1) ^ (sts.getD ((f : Int)).toNat 0 - 1).toNat) (n - f)
theorem ldue_ev {nums sts : List Int} {f n : Nat} : lev (nums.getD (Int.toNat 0) 0) (nums.getD (-1 + (nums.length : Int)).toNat 0) (ldue sts f n) = dueV nums sts f n := by
  unfold ldue dueV
  split
  · simp [lev]
  · rw [lpv_ev]
    congr 1
    unfold lev pv0
    dsimp only
    rw [Int.add_mul, Int.mul_comm _ (nums.getD (Int.toNat 0) 0), Int.mul_right_comm]
/-! the steps that a text of so many signs may have -/
noncomputable def pats : Nat → Nat → List (List Int)
  | 0, 0 => [[]]
  | 0, _ + 1 => []
  | _ + 1, 0 => [[]]
  | f + 1, t + 1 => (pats f t).map (0 :: ·) ++ (pats f t).map (1 :: ·) ++ (if 1 ≤ t then (pats f (t - 1)).map (2 :: ·) else []) ++ (if 2 ≤ t then (pats f (t - 2)).map (3 :: ·) else [])
theorem syms_pats : ∀ (f : Nat) (l : List Nat), l.length ≤ f → (∀ c ∈ l, c ∈ alpha) → (syms f l).map stp ∈ pats f l.length
  | 0, [], _, _ => by decide
  | 0, _ :: _, h, _ => by simp at h
  | _ + 1, [], _, _ => by simp [syms, pats]
  | f + 1, c :: r, h, hal => by
    have hr : ∀ n, ((c :: r).drop n).length ≤ (c :: r).length := fun n => by rw [List.length_drop]; omega
    have hra : ∀ n, ∀ x ∈ (c :: r).drop n, x ∈ alpha := fun n x hx => hal x (List.mem_of_mem_drop hx)
    show stp (symN (c :: r), _) :: _ ∈ pats (f + 1) (r.length + 1)
    simp only [List.length_cons] at h
    unfold pats
    by_cases h34 : c = 34
    · subst h34
      rw [(q_sym r).1, (q_sym r).2, stp_q]
      have ih := syms_pats f r (by omega) (fun x hx => hal x (List.mem_cons_of_mem _ hx))
      exact List.mem_append_left _ (List.mem_append_left _ (List.mem_append_left _ (List.mem_map.mpr ⟨_, ih, rfl⟩)))
    · have hs := c_sym (r := r) (hal c List.mem_cons_self) h34
      rw [stp_c hs.2.2]
      have hp := plen_pos (c := c :: r) (by simp)
      have hl : plen (c :: r) ≤ (c :: r).length := by unfold plen; rw [List.length_take]; omega
      simp only [List.length_cons] at hl
      have ih := syms_pats f ((c :: r).drop (plen (c :: r))) (by rw [List.length_drop]; simp; omega) (hra _)
      rw [List.length_drop, List.length_cons] at ih
      generalize (syms f ((c :: r).drop (plen (c :: r)))).map stp = t at ih
      generalize plen (c :: r) = k at hp hl ih
      have hk : k = 1 ∨ k = 2 ∨ k = 3 := by omega
      rcases hk with rfl | rfl | rfl
      · exact List.mem_append_left _ (List.mem_append_left _ (List.mem_append_right _ (List.mem_map.mpr ⟨_, ih, rfl⟩)))
      · refine List.mem_append_left _ (List.mem_append_right _ ?_)
        rw [if_pos (by omega)]
        rw [show r.length + 1 - 2 = r.length - 1 by omega] at ih
        exact List.mem_map.mpr ⟨_, ih, rfl⟩
      · refine List.mem_append_right _ ?_
        rw [if_pos (by omega)]
        rw [show r.length + 1 - 3 = r.length - 2 by omega] at ih
        exact List.mem_map.mpr ⟨_, ih, rfl⟩
theorem syms_nums : ∀ (f : Nat) (l : List Nat), (∀ c ∈ l, c ∈ alpha) → ∀ p ∈ syms f l, 0 < p.1 ∧ p.1 ≤ 290
  | 0, _, _, _, h => by cases h
  | _ + 1, [], _, _, h => by cases h
  | f + 1, c :: r, hal, p, h => by
    rcases List.mem_cons.mp h with rfl | h
    · by_cases h34 : c = 34
      · subst h34
        dsimp only
        rw [(q_sym r).1]; decide
      · have hs := c_sym (r := r) (hal c List.mem_cons_self) h34
        dsimp only
        omega
    · exact syms_nums f _ (fun x hx => hal x (List.mem_of_mem_drop hx)) p h
def gapsOf (sts : List Int) : List Int := (List.range sts.length).map fun k => (sts.take (k + 1)).sum
noncomputable def goodP (sts : List Int) : Bool :=
  decide (lrun 9 ((1, 0) :: List.replicate ((gapsOf sts).sum - 1).toNat (0, 1)) (gapsOf sts) (List.replicate (gapsOf sts).length (0, 0)) = some ((List.range sts.length).map (ldue sts (fz sts)))) &&
    (decide (0 ≤ (gapsOf sts).sum) && decide ((gapsOf sts).sum ≤ 15)) && (decide (1 ≤ sts.length) && decide (sts.length ≤ 5)) && sts.all (fun x => decide (0 ≤ x) && decide (x ≤ 3))
theorem pats_good : (pats 5 5).all goodP = true := by decide +kernel
theorem plain_law {l : List Nat} (hl : l.length = 5) (hal : ∀ c ∈ l, c ∈ alpha) {nums sts : List Int} (hn : nums = (syms 5 l).map (·.1)) (hs : sts = (syms 5 l).map stp) :
    run 9 (nums.getD (Int.toNat 0) 0 :: List.replicate ((gapsOf sts).sum - 1).toNat (nums.getD (-1 + (nums.length : Int)).toNat 0)) (gapsOf sts) (List.replicate (gapsOf sts).length 0) = some ((List.range sts.length).map (dueV nums sts (fz sts))) ∧
      (0 ≤ (gapsOf sts).sum ∧ (gapsOf sts).sum ≤ 15) ∧ (1 ≤ sts.length ∧ sts.length ≤ 5) ∧ (∀ x ∈ sts, 0 ≤ x ∧ x ≤ 3) ∧ nums.length = sts.length ∧ (∀ x ∈ nums, 0 < x ∧ x ≤ 290) := by
  have hp : sts ∈ pats 5 5 := by
    have := syms_pats 5 l (by omega) hal
    rw [hl] at this
    rw [hs]; exact this
  have hg := List.all_eq_true.mp pats_good sts hp
  simp only [goodP, Bool.and_eq_true, decide_eq_true_eq, List.all_eq_true] at hg
  obtain ⟨⟨⟨g1, g2⟩, g3⟩, g4⟩ := hg
  have hlen : nums.length = sts.length := by rw [hn, hs, List.length_map, List.length_map]
  have hb : ∀ x ∈ nums, 0 < x ∧ x ≤ 290 := by
    intro x hx
    rw [hn] at hx
    obtain ⟨p, hp, rfl⟩ := List.mem_map.mp hx
    exact syms_nums 5 l hal p hp
  refine ⟨?_, g2, g3, g4, hlen, hb⟩
  have hget : ∀ i, i < nums.length → 0 < nums.getD i 0 ∧ nums.getD i 0 ≤ 290 := fun i hi => by
    rw [List.getD_eq_getElem?_getD, List.getElem?_eq_getElem hi]
    exact hb _ (List.getElem_mem hi)
  have h0 := hget (Int.toNat 0) (by have : Int.toNat 0 = 0 := rfl
                                    omega)
  have h1 := hget (-1 + (nums.length : Int)).toNat (by omega)
  have hr := lrun_ev h0.1 h0.2 (Int.le_of_lt h1.1) h1.2 9 _ _ _ _ g1
  rw [List.map_cons, List.map_replicate, List.map_replicate, List.map_map] at hr
  have e1 : lev (nums.getD (Int.toNat 0) 0) (nums.getD (-1 + (nums.length : Int)).toNat 0) (1, 0) = nums.getD (Int.toNat 0) 0 := by simp [lev]
  have e2 : lev (nums.getD (Int.toNat 0) 0) (nums.getD (-1 + (nums.length : Int)).toNat 0) (0, 1) = nums.getD (-1 + (nums.length : Int)).toNat 0 := by simp [lev]
  have e3 : lev (nums.getD (Int.toNat 0) 0) (nums.getD (-1 + (nums.length : Int)).toNat 0) (0, 0) = 0 := by simp [lev]
  have e4 : (lev (nums.getD (Int.toNat 0) 0) (nums.getD (-1 + (nums.length : Int)).toNat 0) ∘ ldue sts (fz sts)) = dueV nums sts (fz sts) := funext fun n => ldue_ev
  rw [e1, e2, e3, e4] at hr
  exact hr
end Mine
theorem Mine.part22 : True := by
  k_with_none
  w_top off
  exact True.intro
end
section
open PySem PySem.W PyProof.Rows PySem.Spec PySem.Calls
set_option maxRecDepth 100000
set_option maxHeartbeats 8000000
set_option pp.deepTerms.threshold 4
namespace Mine
theorem dbl_len : ∀ l : List Nat, (StrLaws.dbl 34 l).length ≤ 2 * l.length
  | [] => Nat.le_refl _
  | c :: r => by
    have := dbl_len r
    rw [dbl_cons, List.length_append, List.length_cons]
    split <;> simp <;> omega
theorem str_len (x : Str) : x.cps.toList.length = x.length := by rw [Array.length_toList]; rfl
def In3 (n : Int) : Prop := 0 ≤ n ∧ n < 3
section
variable {prog : Program} {w : World} {A : Around} {E : Value → Shared → Prop} {s : Shared} {value sl sr : PySem.Expr} {so : Operator} {sp : Pos} {l : Addr} {vs : List Value} {n : Int} {t u : Tok} {Q : Value → Shared → Prop}
theorem mod_three {a : Int} (h : ∀ i : Int, In3 i → Q (.int i s.toks) { s with toks := s.toks + 1 }) : wpAny (model prog w) A (binaryOp .Mod (.int a t) (.int 3 u)) Q E s :=
  mod_int' (by decide) (h _ ⟨Int.fmod_nonneg_of_pos _ (by decide), Int.fmod_lt_of_pos _ (by decide)⟩)
theorem end_item (hl : s.heap.IsList l vs.toArray) (hw : StrsAre vs [Str.ofString "", Str.ofString " made", Str.ofString "!"]) (hn : In3 n)
    (h : ∀ en t', en.length ≤ 5 → (en.cps.toList = [] ∨ ∃ k r, en.cps.toList = k :: r ∧ k ≠ 34) → Q (.str en t') s) :
    wpAny (model prog w) A (subscriptTail value (.BinOp sl so sr sp) (.ref l) (.int n u)) Q E s := by
  have h0 : 0 ≤ n := hn.1
  have h1 : n < 3 := hn.2
  refine KTb.item_list hl hw h0 h1 (by omega) (fun t' hlt => h _ t' ?_ ?_) rfl
  · generalize n.toNat = k at hlt
    have hk : k = 0 ∨ k = 1 ∨ k = 2 := by simp only [List.length_cons, List.length_nil] at hlt; omega
    rcases hk with rfl | rfl | rfl <;> decide
  · generalize n.toNat = k at hlt
    have hk : k = 0 ∨ k = 1 ∨ k = 2 := by simp only [List.length_cons, List.length_nil] at hlt; omega
    rcases hk with rfl | rfl | rfl
    · exact .inl rfl
    · exact .inr ⟨32, [109, 97, 100, 101], by decide, by decide⟩
    · exact .inr ⟨33, [], by decide, by decide⟩
end
section
variable {g h : Heap} {L a b t l x : Addr} {o o1 o2 o3 o4 o5 : Obj} {T R news : List (Addr × Obj)}
theorem apart (N : News g L h news) (h1 : (a, o1) ∈ news) (h2 : (b, o2) ∈ news) (hd : o1.data ≠ o2.data) : @Ne Nat a b := by
  intro e
  have e1 := (N _ h1).1
  have e2 := (N _ h2).1
  dsimp only at e1 e2
  rw [show a = b from e, e2] at e1
  exact hd (by rw [Option.some.inj e1])
theorem dropA (N : News g L h ((t,o1)::(a,o2)::(b,o3)::(l,o4)::(T ++ (x,o5) :: R))) : News g L h ((t,o1)::(a,o2)::(b,o3)::R) := cb_drop N (by
  intro p hp
  simp only [List.mem_append, List.mem_cons] at hp ⊢
  grind)
theorem dropB (N : News g L h ((t,o1)::(a,o2)::(b,o3)::(l,o4)::R)) : News g L h ((t,o1)::(a,o2)::(b,o3)::R) := cb_drop N (by
  intro p hp
  simp only [List.mem_cons] at hp ⊢
  grind)
end
theorem wd (a : Int) : 25 ≤ 25 + a.fmod 64 ∧ 25 + a.fmod 64 ≤ 88 := by
  have h1 := Int.fmod_nonneg_of_pos a (b := 64) (by decide)
  have h2 := Int.fmod_lt_of_pos a (b := 64) (by decide)
  omega
theorem gaps_is {sts : List Int} : ((rangeKs 0 ((sts.length : Int) - 0).toNat).map fun k' : Int => if (sts.take (k' + 1).toNat).length = min (k' + 1).toNat sts.length ∧ (sts.take (k' + 1).toNat).length ≤ sts.length then (sts.take (k' + 1).toNat).sum else k') = gapsOf sts := by
  unfold rangeKs gapsOf
  rw [List.map_map, show ((sts.length : Int) - 0).toNat = sts.length by omega]
  refine List.map_congr_left fun i _ => ?_
  show (if _ then _ else _) = _
  rw [if_pos (by rw [List.length_take]; omega), show ((0 : Int) + (i : Int) + 1).toNat = i + 1 by omega]
section
variable {g h : Heap} {L a b l t x y c d e f : Addr} {o1 o2 o3 o4 o5 o6 o7 o8 o9 o10 : Obj} {T T' news : List (Addr × Obj)}
theorem dropC (N : News g L h ((l,o1)::(t,o2)::(a,o3)::(b,o4)::(x,o5)::(y,o6)::(c,o7)::(d,o8)::(e,o9)::(f,o10)::[])) : News g L h ((l,o1)::([(f,o10)] ++ ([(e,o9)] ++ [(a,o3),(b,o4)]))) := cb_drop N (by
  intro p hp
  simp only [List.mem_append, List.mem_cons] at hp ⊢
  grind)
theorem dropD (N : News g L h ((l,o1)::(T ++ (T' ++ [(a,o3),(b,o4)])))) (h1 : (e,o5) ∈ T) (h2 : (f,o6) ∈ T') : News g L h ((a,o3)::(b,o4)::(l,o1)::(f,o6)::(e,o5)::[]) := cb_drop N (by
  intro p hp
  simp only [List.mem_append, List.mem_cons] at hp ⊢
  grind)
theorem tab_in {P : Addr} {line col : Int} {qual : Str} (G : TabG P line col qual T) : ∃ ps, (P, tabObj ps) ∈ T := by
  rcases G with rfl | ⟨c', oc, vs, t, rfl, _⟩
  · exact ⟨_, .head _⟩
  · exact ⟨_, .head _⟩
end
theorem reply_is {x r en : Str} (h : r.cps.toList = StrLaws.dbl 34 x.cps.toList) : (Str.ofString "257 \"" ++ r ++ Str.ofString "\"" ++ en).cps.toList = [50,53,55,32,34] ++ StrLaws.dbl 34 x.cps.toList ++ 34 :: en.cps.toList := by
  have e1 : (Str.ofString "257 \"").cps.toList = [50,53,55,32,34] := by decide
  have e2 : (Str.ofString "\"").cps.toList = [34] := by decide
  rw [Str.cps_append, Str.cps_append, Str.cps_append]
  simp only [Array.toList_append, e1, e2, h, List.append_assoc, List.cons_append, List.nil_append]
theorem reply_len {r en : Str} (h : r.length ≤ 10) (h2 : en.length ≤ 5) : (Str.ofString "257 \"" ++ r ++ Str.ofString "\"" ++ en).length ≤ 200 := by
  have e1 : (Str.ofString "257 \"").length = 5 := by decide
  have e2 : (Str.ofString "\"").length = 1 := by decide
  rw [Str.length_append, Str.length_append, Str.length_append]
  omega
/-! names that stand here keep the head's tactic from laying twins of its own long constants: the proof does without them, and the compiled file stays small -/
def main0.tw10041890833705455956 : Nat := 0
def main0.tw10129584014819180791 : Nat := 0
def main0.tw10304514647924268300 : Nat := 0
def main0.tw10548257778738878285 : Nat := 0
def main0.tw11074594457995023871 : Nat := 0
def main0.tw11271660165184453512 : Nat := 0
def main0.tw11372255635301621314 : Nat := 0
def main0.tw12103351055164533822 : Nat := 0
def main0.tw12249855633939518013 : Nat := 0
def main0.tw12269549728271213657 : Nat := 0
def main0.tw12273652451329898345 : Nat := 0
def main0.tw12422281940473715378 : Nat := 0
def main0.tw12942699837582656766 : Nat := 0
def main0.tw13084462673142578747 : Nat := 0
def main0.tw13333190124806221364 : Nat := 0
def main0.tw13632710480880179353 : Nat := 0
def main0.tw13696970510018788471 : Nat := 0
def main0.tw137473852447423077 : Nat := 0
def main0.tw14031401452000945856 : Nat := 0
def main0.tw14335801401758618477 : Nat := 0
def main0.tw14631646628193570511 : Nat := 0
def main0.tw15086523327311544557 : Nat := 0
def main0.tw15261940691506347025 : Nat := 0
def main0.tw15958933329460278694 : Nat := 0
def main0.tw16137611395153703879 : Nat := 0
def main0.tw16341716287623908476 : Nat := 0
def main0.tw16932060941076119056 : Nat := 0
def main0.tw16970343549865858836 : Nat := 0
def main0.tw18398301606741969878 : Nat := 0
def main0.tw1996344647961982729 : Nat := 0
def main0.tw3152759150848989935 : Nat := 0
def main0.tw3451894503108508029 : Nat := 0
def main0.tw3754437134930816902 : Nat := 0
def main0.tw3876684697840114665 : Nat := 0
def main0.tw3982592750326049029 : Nat := 0
def main0.tw4633207394084338982 : Nat := 0
def main0.tw4882160111202746353 : Nat := 0
def main0.tw5500677012586594403 : Nat := 0
def main0.tw6073865572973484387 : Nat := 0
def main0.tw6250165759536413532 : Nat := 0
def main0.tw6257531209372703060 : Nat := 0
def main0.tw6262780912941516010 : Nat := 0
def main0.tw6617690360205745327 : Nat := 0
def main0.tw7248274860421651355 : Nat := 0
def main0.tw7456053276884529231 : Nat := 0
def main0.tw7914752962576503912 : Nat := 0
def main0.tw9457193281603973569 : Nat := 0
def main0.tw9875885036624509632 : Nat := 0
def main0.tw995176541738361364 : Nat := 0
set_option Elab.async true
theorem main0 : PySem.Challenge.rw_un0023_01.Holds := by
  w_on
  o_law
  k_head
  case hw => w_witness2
  k_go0
  all_goals try k_fold
  k_with "call ref" => (refine hold_on ?_)
  k_steps
  dsimp only [hold]
  rename News _ _ _ _ => N0
  rename Fr _ _ _ _ => F0
  rename Below _ _ _ _ => B0
  rename Top topProg _ _ _ _ _ => T0
  rename Frag.In _ _ => X0
  rename IntsAre _ _ => I0
  rename Heap.IsList _ _ _ => L0
  rename _ ∧ _ => l0
  rename _ = Data.cell _ => hcell
  refine c_law_text _ _ _ _ _ _ _ _ _ _ _ _ _ _ _ _ _ _ _ _ _ _ _ _ _ _ _ B0 F0 X0 N0 T0 rfl L0 I0 (by omega) (by decide) (by decide) ?_
  clear F0 N0
  intro text tt h1 tk1 hlen hal F1 N1
  have kMark : KstMark := kstMark
  have hrd : (Txt.replace text (Str.ofString "\"") (Str.ofString "\"\"")).cps.toList = StrLaws.dbl 34 text.cps.toList := StrLaws.replace_double text 34
  have hrl : (Txt.replace text (Str.ofString "\"") (Str.ofString "\"\"")).length ≤ 10 := by
    have := dbl_len text.cps.toList
    have e1 := str_len text
    have e2 := str_len (Txt.replace text (Str.ofString "\"") (Str.ofString "\"\""))
    rw [hrd] at e2
    omega
  k_with "subscriptTail" => (refine hold_on ?_)
  k_with "binaryOp Mod int int" => (refine mod_three ?_; intro ei hei)
  k_steps
  dsimp only [hold]
  k_with_none
  k_with "call ref" => (refine hold_on ?_)
  rename News _ _ _ _ => N2
  refine end_item (N2.isList (.head _)) (.cons _ _ (.cons _ _ (.cons _ _ .nil))) hei ?_
  intro en ent hel hen
  k_steps
  dsimp only [hold]
  rename Fr _ _ _ _ => F2
  rename News _ _ _ _ => N2
  refine c_parse257 (cds := text.cps.toList) (tl := en.cps.toList) B0 F2 (show (hd.heap_1 _).In _ from X0) T0 rfl N2 (reply_is hrd) hen (by rw [str_len]; omega) (reply_len hrl hel) (by decide) (by decide) ?_
  clear N2 F2
  intro name tn h3 tk3 hname F3 N3
  have hname := str_eq hname
  subst hname
  clear hrd hrl hel hen
  k_steps
  dsimp only [hold]
  rename Fr _ _ _ _ => F4
  rename News _ _ _ _ => N4
  refine c_symbols B0 F4 (show (hd.heap_1 _).In _ from X0) T0 rfl N4 hlen (by decide) (by decide) ?_
  clear N4 F4
  intro lsy vsy ksy h5 tk5 T9 hsyD hsyl F5 N5
  k_steps
  dsimp only [hold]
  rename Fr _ _ _ _ => F6
  rename News _ _ _ _ => N6
  obtain ⟨pRun, pSum, pLen, pSts, pEq, pNums⟩ := plain_law (l := name.cps.toList) (by rw [str_len]; exact hlen) hal rfl rfl
  refine c_steps B0 F6 (show (hd.heap_1 _).In _ from X0) T0 rfl N6 hsyD hsyl (fun p hp => (pNums _ (List.mem_map.mpr ⟨p, hp, rfl⟩)).1) (by have := pLen.2; rw [List.length_map] at this; exact this) (by decide) (by decide) ?_
  clear N6 F6
  intro tst atd ast ust1 ust2 kt1 kt2 h7 tk7 it1 it2 F7 N7
  have N7 := dropA N7
  have ne1 := apart N7 (.head _) (.tail _ (.tail _ (.tail _ (.head _)))) (fun e => nomatch (e.trans hcell))
  have ne2 := apart N7 (.tail _ (.head _)) (.tail _ (.tail _ (.tail _ (.head _)))) (fun e => nomatch (e.trans hcell))
  have ne3 := apart N7 (.tail _ (.tail _ (.head _))) (.tail _ (.tail _ (.tail _ (.head _)))) (fun e => nomatch (e.trans hcell))
  clear hsyD hsyl
  k_steps
  dsimp only [hold]
  rename Fr _ _ _ _ => F8
  rename News _ _ _ _ => N8
  refine c_plain B0 F8 (show (hd.heap_1 _).In _ from X0) T0 rfl N8 hlen (by decide) (by decide) hal ?_
  clear N8 F8
  intro tpl apl bpl dpl upl1 upl2 mpl kp1 kp2 h9 tk9 ip1 ip2 F9 N9
  have N9 := dropB N9
  k_steps
  rename_i gys hgys hglen gD gh9 gtk gF gN gO gt1 gt2
  dsimp only [hold]
  rw [gaps_is] at hgys
  obtain ⟨gO1, gO2, gO3, gO4, gO5, gO6, gO7, gO8, gO9⟩ := gO
  have a1 := apart gN (.tail _ (.tail _ (.head _))) (.tail _ (.tail _ (.tail _ (.tail _ (.tail _ (.tail _ (.tail _ (.tail _ (.tail _ (.head _)))))))))) (fun e => nomatch e)
  have a2 := apart gN (.tail _ (.tail _ (.tail _ (.head _)))) (.tail _ (.tail _ (.tail _ (.tail _ (.tail _ (.tail _ (.tail _ (.tail _ (.tail _ (.head _)))))))))) (fun e => nomatch e)
  have a3 := apart gN (.tail _ (.tail _ (.head _))) (.tail _ (.tail _ (.tail _ (.tail _ (.tail _ (.tail _ (.tail _ (.tail _ (.head _))))))))) (fun e => nomatch e)
  have a4 := apart gN (.tail _ (.tail _ (.tail _ (.head _)))) (.tail _ (.tail _ (.tail _ (.tail _ (.tail _ (.tail _ (.tail _ (.tail _ (.head _))))))))) (fun e => nomatch e)
  have gN := dropC gN
  refine c_struck B0 gF (show (hd.heap_1 _).In _ from X0) T0 rfl (by assumption) (by assumption) (.inl rfl) (.inl rfl) ?n30 ?n37 gN ?nlg hgys ?w0 ?w1 ?gl pSum.1 pSum.2 pRun (by decide) (by decide) ?_
  case n30 =>
    intro q hq
    simp only [List.mem_cons, List.not_mem_nil, or_false] at hq
    rcases hq with rfl | rfl
    · exact a1
    · exact a2
  case n37 =>
    intro q hq
    simp only [List.mem_cons, List.not_mem_nil, or_false] at hq
    rcases hq with rfl | rfl
    · exact a3
    · exact a4
  case nlg =>
    intro q hq
    simp only [List.mem_append, List.mem_cons, List.not_mem_nil, or_false] at hq
    rcases hq with rfl | rfl | rfl | rfl <;> assumption
  case w0 => exact (wd _).1
  case w1 => exact (wd _).2
  case gl =>
    unfold gapsOf
    rw [List.length_map, List.length_range]; exact pLen.2
  clear gN gF
  intro lo uo ko h10 tk10 T30 T37 io G30 G37 F10 N10
  obtain ⟨ps30, in30⟩ := tab_in G30
  obtain ⟨ps37, in37⟩ := tab_in G37
  have N11 := dropD N10 in30 in37
  clear N10 in30 in37 G30 G37
  k_steps
  dsimp only [hold]
  rename Fr _ _ _ _ => F11
  refine c_due B0 F11 (show (hd.heap_1 _).In _ from X0) T0 rfl N11 ip1 ip2 pEq pLen.2 pLen.1 pNums pSts (by decide) (by decide) ?_
  clear N11 F11
  intro ld ud kd h12 tk12 id F12 N12
  refine (fun (out : List Int) (io : IntsAre uo out) (id : IntsAre ud out) => ?_ : ∀ out : List Int, IntsAre uo out → IntsAre ud out → _) _ io id
  clear pRun pSum pSts pNums a1 a2 a3 a4 gO1 gO2 gO3 gO4 gO5 gO6 gO7 gO8 gO9 ne1 ne2 ne3
  refine eq_intsK (N12.isList (.tail _ (.tail _ (.tail _ (.head _))))) io (N12.isList (.head _)) id (by units_room) ?_
  rw [show decide (out = out) = true from decide_eq_true rfl]
  refine ⟨?good, GrownAt.of N12 (.tail _ (.tail _ (.tail _ (.tail _ (.head _))))), GrownAt.of N12 (.tail _ (.tail _ (.tail _ (.tail _ (.tail _ (.head _)))))), True.intro⟩
  k_steps
end Mine
end
set_option maxRecDepth 100000 in
set_option maxHeartbeats 8000000 in
theorem PySem.Challenge.cw_un0023_01_holds : PySem.Challenge.rw_un0023_01.Holds := by
  exact Mine.main0
