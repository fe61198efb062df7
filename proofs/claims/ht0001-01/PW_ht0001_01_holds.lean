import PyProof.Rows.All
import KE.BitLaws
import KE.KPairComp
import Wide.All
import OpenK.AllK
import Wide.FinOn
import Lean
import PySem.Challenge.RW_ht0001_01
section
open PySem PySem.W PyProof.Rows
set_option Elab.async false
namespace Mine
set_option maxRecDepth 100000 in
set_option maxHeartbeats 8000000 in
open_top hd for PySem.Challenge.rw_ht0001_01
end Mine
end
section
open PySem PySem.W PyProof.Rows
namespace Mine

/-! plain: the digits of x by 2 ^ n; a stretch of a list laid anew -/
def ds (n : Nat) : Int → Nat → List Int
  | _, 0 => []
  | x, k + 1 => x % 2 ^ n :: ds n (x / 2 ^ n) k
def lay (ns : List Int) (i : Nat) (l : List Int) : List Int := ns.take i ++ l ++ ns.drop (i + l.length)
theorem ds_length (n : Nat) : ∀ (k : Nat) (x : Int), (ds n x k).length = k
  | 0, _ => rfl
  | k + 1, x => by rw [ds, List.length_cons, ds_length n k]
theorem lay_length {ns l : List Int} {i : Nat} (h : i + l.length ≤ ns.length) : (lay ns i l).length = ns.length := by
  unfold lay
  simp only [List.length_append, List.length_take, List.length_drop]
  omega
theorem two_pow_pos (k : Nat) : (0 : Int) < 2 ^ k := Int.pow_pos (by decide)
theorem ds_add (n : Nat) : ∀ (i j : Nat) (x : Int), ds n x (i + j) = ds n x i ++ ds n (x / 2 ^ (n * i)) j
  | 0, j, x => by simp [ds]
  | i + 1, j, x => by
    rw [show i + 1 + j = (i + j) + 1 by omega, ds, ds, ds_add n i j, List.cons_append]
    rw [Int.ediv_ediv_of_nonneg (Int.le_of_lt (two_pow_pos n)), ← Int.pow_add, show n + n * i = n * (i + 1) by rw [Nat.mul_add]; omega]
theorem ds_mod (n : Nat) : ∀ (i : Nat) (x : Int), ds n (x % 2 ^ (n * i)) i = ds n x i
  | 0, x => rfl
  | i + 1, x => by
    have h1 : (2 : Int) ^ (n * (i + 1)) = 2 ^ n * 2 ^ (n * i) := by rw [← Int.pow_add, show n * (i + 1) = n + n * i by rw [Nat.mul_add]; omega]
    rw [ds, ds, h1]
    rw [Int.emod_emod_of_dvd _ (Int.dvd_mul_right _ _)]
    have h2 : x % (2 ^ n * 2 ^ (n * i)) / 2 ^ n = x / 2 ^ n % 2 ^ (n * i) := by
      rw [Int.emod_def x (2 ^ n * 2 ^ (n * i)), ← Int.ediv_ediv_of_nonneg (Int.le_of_lt (two_pow_pos n)), Int.mul_assoc, Int.sub_eq_add_neg, ← Int.mul_neg,
        Int.add_mul_ediv_left _ _ (Int.ne_of_gt (two_pow_pos n)), ← Int.sub_eq_add_neg, ← Int.emod_def]
    rw [h2, ds_mod n i]
theorem lay_lay {ns l1 l2 : List Int} {i : Nat} (h : i + l1.length + l2.length ≤ ns.length) : lay (lay ns i l1) (i + l1.length) l2 = lay ns i (l1 ++ l2) := by
  unfold lay
  have e : (List.take i ns ++ l1).length = i + l1.length := by simp; omega
  rw [List.take_append_of_le_length (by omega), List.take_of_length_le (by omega), List.drop_append, e, List.drop_eq_nil_of_le (by omega)]
  simp only [List.nil_append, List.append_assoc, List.drop_drop, List.length_append]
  congr 4
  omega
theorem lay_one {ns : List Int} {i : Nat} {x : Int} (h : i < ns.length) : ns.set i x = lay ns i [x] := by
  unfold lay
  rw [List.set_eq_take_append_cons_drop, if_pos h]
  simp
theorem ds_one {n : Nat} {x : Int} (h0 : 0 ≤ x) (h1 : x < 2 ^ n) : ds n x 1 = [x] := by
  show [x % 2 ^ n] = [x]
  rw [Int.emod_eq_of_lt h0 h1]
theorem fdiv_pow (x : Int) (k : Nat) : x.fdiv (2 ^ k) = x / 2 ^ k := Int.fdiv_eq_ediv_of_nonneg _ (Int.le_of_lt (two_pow_pos k))
theorem nat_and_high (m k : Nat) : m &&& (m / 2 ^ k * 2 ^ k) = m / 2 ^ k * 2 ^ k := by
  apply Nat.eq_of_testBit_eq
  intro i
  rw [Nat.testBit_and, Nat.testBit_mul_two_pow, Nat.testBit_div_two_pow]
  by_cases h : k ≤ i
  · rw [Nat.sub_add_cancel h]; cases Nat.testBit m i <;> simp [h]
  · simp [h]
theorem xor_low {x : Int} (h : 0 ≤ x) (k : Nat) : Builtin.bitXor x (x.fdiv (2 ^ k) * 2 ^ k) = x % 2 ^ k := by
  have hp := two_pow_pos k
  obtain ⟨m, rfl⟩ : ∃ m : Nat, x = m := ⟨x.toNat, by omega⟩
  have e : ((m : Int)).fdiv (2 ^ k) * 2 ^ k = ((m / 2 ^ k * 2 ^ k : Nat) : Int) := by
    rw [fdiv_pow]; push_cast; rfl
  rw [bitXor_and, e, bitAnd_pp h (by omega), Int.toNat_natCast, Int.toNat_natCast, nat_and_high]
  rw [show ((m : Int) % 2 ^ k) = m - 2 ^ k * ((m : Int) / 2 ^ k) from Int.emod_def _ _]
  push_cast
  rw [Int.mul_comm (2 ^ k)]
  omega
theorem mid_facts {lo hi : Int} (h0 : 0 ≤ lo) (h : lo < hi) : lo ≤ (lo + hi).fdiv (2 ^ Int.toNat 1) ∧ (lo + hi).fdiv (2 ^ Int.toNat 1) < hi ∧ (lo + 1 ≠ hi → lo < (lo + hi).fdiv (2 ^ Int.toNat 1)) := by
  have e : (lo + hi).fdiv (2 ^ Int.toNat 1) = (lo + hi) / 2 := by rw [fdiv_pow]; rfl
  rw [e]
  omega
theorem high_lt {n i j : Nat} {x : Int} (h : x < 2 ^ (n * (i + j))) : x / 2 ^ (n * i) < 2 ^ (n * j) := by
  apply Int.ediv_lt_of_lt_mul (two_pow_pos _)
  rw [← Int.pow_add, Nat.add_comm, ← Nat.mul_add]; exact h
theorem div_pow_le {x : Int} (h : 0 ≤ x) (k : Nat) : 0 ≤ x / 2 ^ k ∧ x / 2 ^ k ≤ x := ⟨Int.ediv_nonneg h (Int.le_of_lt (two_pow_pos k)), Int.ediv_le_self _ h⟩
theorem lay_join {ns : List Int} {n lo mid hi a b c S : Nat} {x : Int} (hx : 0 ≤ x) (hS : S = n * a) (hm : mid = lo + a) (hc : c = a + b) (hh : hi = lo + c) (h : hi ≤ ns.length) :
    lay (lay ns lo (ds n (Builtin.bitXor x (x.fdiv (2 ^ S) * 2 ^ S)) a)) mid (ds n (x.fdiv (2 ^ S)) b) = lay ns lo (ds n x c) := by
  subst hS hm hc hh
  rw [xor_low hx, ds_mod, fdiv_pow, ds_add]
  have e := lay_lay (ns := ns) (l1 := ds n x a) (l2 := ds n (x / 2 ^ (n * a)) b) (i := lo) (by rw [ds_length, ds_length]; omega)
  rw [ds_length] at e
  exact e
end Mine
end
section
open PySem PySem.W PyProof.Rows
namespace Mine
/-! plain: the number that digits by 2 ^ n tell -/
def unq (n : Nat) : List Int → Int
  | [] => 0
  | d :: r => d + 2 ^ n * unq n r
theorem unq_append (n : Nat) : ∀ (l r : List Int), unq n (l ++ r) = unq n l + 2 ^ (n * l.length) * unq n r
  | [], r => by simp [unq]
  | d :: l, r => by
    rw [List.cons_append, unq, unq, unq_append n l r, List.length_cons, show n * (l.length + 1) = n + n * l.length by rw [Nat.mul_add]; omega, Int.pow_add, Int.mul_add, Int.mul_assoc]
    omega
def Dig (n : Nat) (l : List Int) : Prop := ∀ d ∈ l, 0 ≤ d ∧ d < 2 ^ n
theorem unq_bound {n : Nat} : ∀ {l : List Int}, Dig n l → 0 ≤ unq n l ∧ unq n l < 2 ^ (n * l.length)
  | [], _ => by simp [unq]
  | d :: l, h => by
    have h1 := h d (.head _)
    have h2 := unq_bound (l := l) fun e he => h e (.tail _ he)
    rw [unq, List.length_cons, show n * (l.length + 1) = n + n * l.length by rw [Nat.mul_add]; omega, Int.pow_add]
    have h3 := Int.mul_nonneg (Int.le_of_lt (two_pow_pos n)) h2.1
    have h4 : 2 ^ n * (unq n l + 1) ≤ 2 ^ n * 2 ^ (n * l.length) := Int.mul_le_mul_of_nonneg_left (by omega) (Int.le_of_lt (two_pow_pos n))
    rw [Int.mul_add] at h4
    omega
/-- the stretch from lo, of j digits -/
def cut (ns : List Int) (lo j : Nat) : List Int := (ns.drop lo).take j
theorem cut_dig {n : Nat} {ns : List Int} {lo j : Nat} (h : Dig n ns) : Dig n (cut ns lo j) := fun d hd => h d (List.mem_of_mem_drop (List.mem_of_mem_take hd))
theorem cut_length {ns : List Int} {lo j : Nat} (h : lo + j ≤ ns.length) : (cut ns lo j).length = j := by
  unfold cut; rw [List.length_take, List.length_drop]; omega
theorem cut_add {ns : List Int} {lo i j : Nat} : cut ns lo (i + j) = cut ns lo i ++ cut ns (lo + i) j := by
  unfold cut
  rw [List.take_add, List.drop_drop]
theorem cut_one {ns : List Int} {lo : Nat} (h : lo < ns.length) : cut ns lo 1 = [ns.getD lo 0] := by
  unfold cut
  rw [List.drop_eq_getElem_cons h, List.take_succ_cons, List.take_zero, List.getD_eq_getElem?_getD, List.getElem?_eq_getElem h]; rfl
theorem cut_all {ns : List Int} : cut ns 0 ns.length = ns := by unfold cut; simp
theorem unq_cut_bound {n : Nat} {ns : List Int} {lo j : Nat} (h : Dig n ns) (hj : lo + j ≤ ns.length) (hn : n * ns.length ≤ 60) : 0 ≤ unq n (cut ns lo j) ∧ unq n (cut ns lo j) < 2 ^ 60 := by
  have h1 := unq_bound (cut_dig (lo := lo) (j := j) h)
  rw [cut_length hj] at h1
  refine ⟨h1.1, Int.lt_of_lt_of_le h1.2 ?_⟩
  have h2 : n * j ≤ n * ns.length := Nat.mul_le_mul_left _ (by omega)
  obtain ⟨k, hk⟩ := Nat.exists_eq_add_of_le (show n * j ≤ 60 by omega)
  rw [hk, Int.pow_add]
  have h3 : (2 : Int) ^ (n * j) * 1 ≤ 2 ^ (n * j) * 2 ^ k := Int.mul_le_mul_of_nonneg_left (two_pow_pos k) (Int.le_of_lt (two_pow_pos _))
  omega
theorem unq_join {n : Nat} {ns : List Int} {lo mid hi a b c S : Nat} (hS : S = n * a) (hm : mid = lo + a) (hc : c = a + b) (hh : hi = lo + c) (h : hi ≤ ns.length) :
    unq n (cut ns mid b) * 2 ^ S + unq n (cut ns lo a) = unq n (cut ns lo c) := by
  subst hS hm hc hh
  rw [cut_add, unq_append, cut_length (by omega), Int.mul_comm]
  omega
/-- the digits of x tell x -/
theorem unq_ds (n : Nat) : ∀ (k : Nat) (x : Int), unq n (ds n x k) = x % 2 ^ (n * k)
  | 0, x => by simp [unq, ds]
  | k + 1, x => by
    rw [ds, unq, unq_ds n k, show n * (k + 1) = n + n * k by rw [Nat.mul_add]; omega, Int.pow_add]
    rw [Int.emod_def x (2 ^ n * 2 ^ (n * k)), Int.emod_def (x / 2 ^ n), Int.emod_def x (2 ^ n), ← Int.ediv_ediv_of_nonneg (Int.le_of_lt (two_pow_pos n)), Int.mul_sub, Int.mul_assoc]
    omega
theorem ds_dig (n : Nat) : ∀ (k : Nat) (x : Int), Dig n (ds n x k)
  | 0, _ => fun _ h => nomatch h
  | k + 1, x => fun d hd => by
    rw [ds] at hd
    rcases List.mem_cons.mp hd with rfl | hd
    · exact ⟨Int.emod_nonneg _ (Int.ne_of_gt (two_pow_pos n)), Int.emod_lt_of_pos _ (two_pow_pos n)⟩
    · exact ds_dig n k _ d hd
end Mine
end
section
open PySem PySem.W PyProof.Rows
namespace Mine
/-! plain: long division, digit by digit from the top -/
def DInv (n : Nat) (b : Int) (ns : List Int) (i : Nat) (r : Int) (qs : List Int) : Prop :=
  0 ≤ r ∧ r < b ∧ Dig n qs ∧ qs.length = i ∧ unq n qs.reverse * b + r = unq n (ns.drop (ns.length - i))
theorem DInv.start {n : Nat} {b : Int} {ns : List Int} (hb : 0 < b) : DInv n b ns 0 0 [] :=
  ⟨Int.le_refl _, hb, fun _ h => (nomatch h), rfl, by simp [unq]⟩
theorem DInv.step {n : Nat} {b : Int} {ns : List Int} {i : Nat} {r d : Int} {qs : List Int} (h : DInv n b ns i r qs) (hD : Dig n ns) (hi : i < ns.length) (hd : ns[ns.length - 1 - i]? = some d) (hb : b ≤ 2 ^ n) :
    DInv n b ns (i + 1) ((r * 2 ^ n + d).fmod b) (qs ++ [(r * 2 ^ n + d).fdiv b]) := by
  obtain ⟨h1, h2, h3, h4, h5⟩ := h
  have hp := two_pow_pos n
  have hb0 : 0 < b := by omega
  have hdd := hD d (List.mem_of_getElem? hd)
  have h6 : 0 ≤ r * 2 ^ n := Int.mul_nonneg h1 (Int.le_of_lt hp)
  have h7 : (r + 1) * 2 ^ n ≤ b * 2 ^ n := Int.mul_le_mul_of_nonneg_right (by omega) (Int.le_of_lt hp)
  rw [Int.add_mul, Int.one_mul] at h7
  rw [Int.fdiv_eq_ediv_of_nonneg _ (by omega), Int.fmod_eq_emod_of_nonneg _ (by omega)]
  have e := Int.emod_add_mul_ediv (r * 2 ^ n + d) b
  have hq0 : 0 ≤ (r * 2 ^ n + d) / b := Int.ediv_nonneg (by omega) (by omega)
  have hq1 : (r * 2 ^ n + d) / b < 2 ^ n := Int.ediv_lt_of_lt_mul hb0 (by rw [Int.mul_comm (2 ^ n) b]; omega)
  refine ⟨Int.emod_nonneg _ (by omega), Int.emod_lt_of_pos _ hb0, fun x hx => ?_, by simp [h4], ?_⟩
  · rcases List.mem_append.mp hx with hx | hx
    · exact h3 x hx
    · rw [List.mem_singleton.mp hx]; exact ⟨hq0, hq1⟩
  · have hlt : ns.length - (i + 1) < ns.length := by omega
    rw [List.drop_eq_getElem_cons hlt, show ns.length - (i + 1) + 1 = ns.length - i by omega, List.reverse_append, List.reverse_singleton, List.singleton_append, unq, unq, ← h5]
    have hg : ns[ns.length - (i + 1)] = d := by
      have : ns[ns.length - (i + 1)]? = some d := by rw [show ns.length - (i + 1) = ns.length - 1 - i by omega]; exact hd
      rw [List.getElem?_eq_getElem hlt] at this
      exact Option.some.inj this
    rw [hg, Int.add_mul, Int.mul_add, Int.mul_comm ((r * 2 ^ n + d) / b) b, Int.mul_comm (2 ^ n) r, Int.mul_assoc]
    omega
theorem DInv.done {n : Nat} {b : Int} {ns : List Int} {r : Int} {qs : List Int} (h : DInv n b ns ns.length r qs) : unq n qs.reverse = unq n ns / b ∧ r = unq n ns % b := by
  obtain ⟨h1, h2, h3, h4, h5⟩ := h
  rw [Nat.sub_self, List.drop_zero] at h5
  rw [← h5]
  constructor
  · rw [Int.add_comm, Int.add_mul_ediv_right _ _ (by omega), Int.ediv_eq_zero_of_lt h1 h2]; omega
  · rw [Int.add_comm, Int.add_mul_emod_self_right, Int.emod_eq_of_lt h1 h2]
theorem DInv.dig {n : Nat} {b : Int} {ns : List Int} {i : Nat} {r : Int} {qs : List Int} (h : DInv n b ns i r qs) : Dig n qs.reverse := fun d hd => h.2.2.1 d (List.mem_reverse.mp hd)
/-- the shifted rest and the next digit: what is divided -/
theorem DInv.bound {n : Nat} {b : Int} {ns : List Int} {i : Nat} {r d : Int} {qs : List Int} (h : DInv n b ns i r qs) (hd : 0 ≤ d ∧ d < 2 ^ n) (hn : n ≤ 9) (hb : b < 2 ^ 9) : 0 ≤ r * 2 ^ n + d ∧ r * 2 ^ n + d < 2 ^ 60 := by
  obtain ⟨h1, h2, _⟩ := h
  have hp := two_pow_pos n
  have h6 : 0 ≤ r * 2 ^ n := Int.mul_nonneg h1 (Int.le_of_lt hp)
  have h8 : (2 : Int) ^ n ≤ 2 ^ 9 := by
    obtain ⟨k, hk⟩ := Nat.exists_eq_add_of_le hn
    rw [hk, Int.pow_add]
    have h3 : (2 : Int) ^ n * 1 ≤ 2 ^ n * 2 ^ k := Int.mul_le_mul_of_nonneg_left (two_pow_pos k) (Int.le_of_lt (two_pow_pos _))
    omega
  have h7 : r * 2 ^ n ≤ 2 ^ 9 * 2 ^ 9 := Int.le_trans (Int.mul_le_mul_of_nonneg_right (show r ≤ 2 ^ 9 by omega) (Int.le_of_lt hp)) (Int.mul_le_mul_of_nonneg_left h8 (by omega))
  omega
end Mine
end
section
open PySem PySem.W PyProof.Rows PyProof.V PySem.Spec PySem.Calls
set_option maxRecDepth 100000
namespace Mine

/-! frames' maps: overwritten names over a map -/
def Kp (xs : List Str) (m₀ m : Str → Option Value) : Prop := ∀ z, z ∉ xs → m z = m₀ z
def ov : List (Str × Option Value) → (Str → Option Value) → Str → Option Value
  | [], m => m
  | (x, u) :: r, m => fun z => if z = x then u else ov r m z
theorem ov_at (m m₀ : Str → Option Value) : ∀ (xs : List Str) (z : Str), ov (xs.map fun x => (x, m x)) m₀ z = if z ∈ xs then m z else m₀ z
  | [], z => by simp [ov]
  | x :: xs, z => by
    by_cases h : z = x
    · subst h; simp [ov]
    · simp only [List.map_cons, ov, ov_at m m₀ xs z, List.mem_cons, h, false_or, if_false]
theorem Kp.ov {xs : List Str} {m₀ m : Str → Option Value} (h : Kp xs m₀ m) : m = Mine.ov (xs.map fun x => (x, m x)) m₀ := by
  funext z
  rw [ov_at]
  split
  · rfl
  · rename_i hz; exact h z hz
theorem Kp.refl {xs : List Str} {m : Str → Option Value} : Kp xs m m := fun _ _ => rfl

/-- a turn's end -/
def TEnd (h₀ : Heap) (L : Addr) (wr : List Addr) (own : List (Addr × Obj)) (Jn : (Str → Option Value) → List (Addr × Obj) → Prop) (s₁ : Shared) (Q : Flow → Shared → Prop) (f : Flow) (s₂ : Shared) : Prop :=
  match f with
  | .ret v => Q (.ret v) s₂
  | .brk => Q .next s₂
  | _ => ∃ h' tk m₂ news₂, s₂ = { s₁ with heap := h', toks := tk } ∧ Fr h₀ L h' m₂ ∧ News h₀ L h' (news₂ ++ own) ∧ (∀ p ∈ news₂, p.1 ∉ wr) ∧ Jn m₂ news₂

section
variable {prog : Program} {w : World} {A : Around} {E : Value → Shared → Prop} {s : Shared} {env : Env} {h₀ : Heap} {x : Str} {body : List Stmt} {Q : Flow → Shared → Prop}
theorem my_loop {I : Addr} {fp wr : List Addr} {n : Nat} {P : Nat → Value → Prop} {St : Nat → Heap → Prop} {m₀ : Str → Option Value} {news : List (Addr × Obj)} (J : Nat → (Str → Option Value) → List (Addr × Obj) → Prop)
    (W : Walks prog w A I fp wr n P St) (hLf : env.locals ∉ fp) (hwr : ∀ b ∈ wr, h₀.get? b = none) (hnw : ∀ p ∈ news, p.1 ∉ wr) (hst : St 0 s.heap) (F : Fr h₀ env.locals s.heap m₀) (N : News h₀ env.locals s.heap news) (hj : J 0 m₀ news)
    (turn : ∀ i v m₁ news₁ h tk own, i < n → P i v → J i m₁ news₁ → (∀ p ∈ news₁, p.1 ∉ wr) → (∀ p ∈ own, p.1 ∈ fp) → Fr h₀ env.locals h (fun y => if y = x then some v else m₁ y) → News h₀ env.locals h (news₁ ++ own) →
      wpAny (model prog w) A (execs body env) (TEnd h₀ env.locals wr own (J (i + 1)) { s with heap := h, toks := tk } Q) E { s with heap := h, toks := tk })
    (done : ∀ m₁ news₁ h tk, J n m₁ news₁ → (∀ p ∈ news₁, p.1 ∉ wr) → Fr h₀ env.locals h m₁ → News h₀ env.locals h news₁ → Q .next { s with heap := h, toks := tk }) :
    LoopAtV prog w A h₀ env x body Q E (.ref I) s := by
  refine ⟨I, fp, wr, n, P, St, m₀, news, J, rfl, W, hLf, hwr, hnw, hst, F, N, hj, ?_, ?_⟩
  · rintro i v m₁ news₁ s₁ own ⟨hh', tk', rfl⟩ hin hP hJ hoff hown _ _ _ F₁ N₁
    have N₂ : News h₀ env.locals hh' (news₁ ++ own) := fun p hp => N₁ p ((List.mem_append.mp hp).elim (fun h => List.mem_append.mpr (.inr h)) fun h => List.mem_append.mpr (.inl h))
    refine wpAny_mono (turn i v m₁ news₁ hh' tk' own hin hP hJ hoff hown F₁ N₂) (fun f s₂ p => ?_) fun _ _ e => e
    have fin : (∃ h' tk m₂ news₂, s₂ = { s with heap := h', toks := tk } ∧ Fr h₀ env.locals h' m₂ ∧ News h₀ env.locals h' (news₂ ++ own) ∧ (∀ p ∈ news₂, p.1 ∉ wr) ∧ J (i + 1) m₂ news₂) →
        LoopStepU h₀ env.locals wr own (J (i + 1)) { s with heap := hh', toks := tk' } .next s₂ := by
      rintro ⟨h', tk, m', nx, e, F', N', hn, hm⟩
      exact ⟨rfl, h', tk, m', nx, e, F', fun p hp => N' p ((List.mem_append.mp hp).elim (fun h => List.mem_append.mpr (.inr h)) fun h => List.mem_append.mpr (.inl h)), hn, hm⟩
    cases f with
    | ret v => exact .ret p
    | brk => exact .brk p
    | next => exact .next (fin p)
    | cont => exact .cont (fin p)
  · rintro h' tk m' news' F' N' hw hJ
    exact done m' news' h' tk hJ hw F' N'
end

/-! the code tables of the two defs that make a def -/
theorem allLt_all {d : Addr} : ∀ {l : List (Addr × Obj)}, AllLt d l → ∀ p ∈ l, p.1 < d
  | [], _, _, h => nomatch h
  | _ :: _, h, _, .head _ => h.1
  | _ :: _, h, p, .tail _ hp => allLt_all h.2 p hp
theorem ne_of_allLt {d e : Addr} {l : List (Addr × Obj)} (h : AllLt d l) (hd : @LE.le Nat _ d e) : ∀ p ∈ l, p.1 ≠ e :=
  fun p hp => Nat.ne_of_lt (Nat.lt_of_lt_of_le (allLt_all h p hp) hd)
def q1 : Str := PySem.Str.ofString "_int2digits" ++ ".<locals>." ++ PySem.Str.ofString "inner"
def q2 : Str := PySem.Str.ofString "_digits2int" ++ ".<locals>." ++ PySem.Str.ofString "inner"
/-- a code table: empty, or with the one code of its nested def -/
def Tab (P : Nat) (line : Nat) (qual : Str) (tb : List (Addr × Obj)) : Prop :=
  tb = [(P, tabObj #[])] ∨ ∃ c oc vs t, tb = [(P, tabObj #[rawInt line, rawInt 4, .ref c]), (c, oc)] ∧ oc.data = .fields vs ∧ vs[1]? = some (.str qual t)
theorem Tab.has {P line : Nat} {qual : Str} {tb : List (Addr × Obj)} (h : Tab P line qual tb) : ∃ o, (P, o) ∈ tb := by
  rcases h with rfl | ⟨c, oc, vs, t, rfl, _⟩
  · exact ⟨_, .head _⟩
  · exact ⟨_, .head _⟩
/-- both tables, apart -/
def Tabs (T : List (Addr × Obj)) : Prop := ∃ a b, Tab 30 32 q1 a ∧ Tab 37 47 q2 b ∧ T = a ++ b ∧ (∀ q ∈ a, q.1 ≠ 37) ∧ (∀ q ∈ b, q.1 ≠ 30)
/-- what a call that may make the codes does to the tables' part of the ledger -/
def Grew (rest T T' : List (Addr × Obj)) : Prop := ∀ q ∈ T', (∃ z ∈ T, z.1 = q.1) ∨ ∀ z ∈ rest, @LT.lt Nat _ z.1 q.1
theorem Grew.refl {rest T : List (Addr × Obj)} : Grew rest T T := fun q hq => .inl ⟨q, hq, rfl⟩
theorem Grew.trans {rest rest' T T' T'' : List (Addr × Obj)} (h : Grew rest T T') (h' : Grew rest' T' T'') (hs : ∀ z ∈ rest, ∃ y ∈ rest', y.1 = z.1) : Grew rest T T'' := fun q hq => by
  rcases h' q hq with ⟨z, hz, e⟩ | h2
  · rcases h z hz with ⟨y, hy, e2⟩ | h3
    · exact .inl ⟨y, hy, e2.trans e⟩
    · exact .inr fun y hy => e ▸ h3 y hy
  · exact .inr fun z hz => by obtain ⟨y, hy, e⟩ := hs z hz; exact e ▸ h2 y hy
/-- an address of the rest stays apart from the tables -/
theorem Grew.ne {rest T T' : List (Addr × Obj)} {d : Addr} (h : Grew rest T T') (hd : ∃ y ∈ rest, y.1 = d) (hn : ∀ q ∈ T, q.1 ≠ d) : ∀ q ∈ T', q.1 ≠ d := fun q hq => by
  rcases h q hq with ⟨z, hz, e⟩ | h2
  · exact e ▸ hn z hz
  · obtain ⟨y, hy, e⟩ := hd
    exact fun e2 => absurd (h2 y hy) (by rw [e, e2]; exact Nat.lt_irrefl _)
end Mine
end
section
open PySem PySem.W PyProof.Rows PyProof.V PySem.Spec PySem.Calls
set_option maxRecDepth 100000
namespace Mine
section
variable {prog : Program} {w : World} {A : Around} {E : Value → Shared → Prop} {s : Shared} {env : Env} {h₀ : Heap} {x : Str} {body : List Stmt} {Q : Flow → Shared → Prop}
theorem rev_loop {I ax : Addr} {vs : List Value} {nn : Nat} {m₀ : Str → Option Value} {news : List (Addr × Obj)} (J : Nat → (Str → Option Value) → List (Addr × Obj) → Prop)
    (hh : A.handled = none) (F : Fr h₀ env.locals s.heap m₀) (N : News h₀ env.locals s.heap ((I, revObj ax ((vs.length : Int) - 1)) :: news)) (hm : (ax, W.listOf vs.toArray nn) ∈ news) (hoff : ∀ p ∈ news, p.1 ≠ I) (hj : J 0 m₀ news)
    (turn : ∀ i v m₁ news₁ h tk own, i < vs.length → vs[vs.length - 1 - i]? = some v → J i m₁ news₁ → (∀ p ∈ news₁, p.1 ≠ I) → (∀ p ∈ own, p.1 = I ∨ p.1 = ax) → Fr h₀ env.locals h (fun y => if y = x then some v else m₁ y) → News h₀ env.locals h (news₁ ++ own) →
      wpAny (model prog w) A (execs body env) (TEnd h₀ env.locals [I] own (J (i + 1)) { s with heap := h, toks := tk } Q) E { s with heap := h, toks := tk })
    (done : ∀ m₁ news₁ h tk, J vs.length m₁ news₁ → (∀ p ∈ news₁, p.1 ≠ I) → Fr h₀ env.locals h m₁ → News h₀ env.locals h news₁ → Q .next { s with heap := h, toks := tk }) :
    wpAny (model prog w) A (pyIter (.ref I)) (fun it s₂ => LoopAtV prog w A h₀ env x body Q E it s₂) E s := by
  have hIx := N _ (.head _)
  have hax := N _ (.tail _ hm)
  have hl : s.heap.IsList ax vs.toArray := ⟨_, hax.1, rfl, nn, rfl⟩
  have hne : ax ≠ I := hoff _ hm
  have hit : s.heap.IsRevIter I ax ((vs.length : Int) - 1) := ⟨_, hIx.1, rfl, rfl⟩
  refine wpAny_pyIter_revIter hit ?_
  have W := Walks.listRev (prog := prog) (w := w) hh I ax hne vs.toArray
  have hlen : vs.toArray.size = vs.length := by simp
  rw [hlen] at W
  refine my_loop J W (fun hmm => ?_) (fun b hb => ?_) (fun p hp hI => hoff p hp (List.mem_singleton.mp hI)) ⟨Nat.zero_le _, by rw [Int.natCast_zero, Int.sub_zero]; exact hit, hl⟩ F (fun p hp => N p (.tail _ hp)) hj ?_ ?_
  · rcases List.mem_cons.mp hmm with e | hmm
    · exact hIx.2.1 e.symm
    · exact hax.2.1 (List.mem_singleton.mp hmm).symm
  · rw [List.mem_singleton.mp hb]
    exact hIx.2.2
  · intro i v m₁ news₁ h tk own hi hP hJ ho hw F₁ N₁
    refine turn i v m₁ news₁ h tk own hi (by simpa using hP) hJ (fun p hp e => ho p hp (List.mem_singleton.mpr e)) (fun p hp => ?_) F₁ N₁
    rcases List.mem_cons.mp (hw p hp) with e | e
    · exact .inl e
    · exact .inr (List.mem_singleton.mp e)
  · intro m₁ news₁ h tk hJ ho F₁ N₁
    exact done m₁ news₁ h tk hJ (fun p hp e => ho p hp (List.mem_singleton.mpr e)) F₁ N₁
end
end Mine
namespace Mine
theorem Tabs.lt {T : List (Addr × Obj)} {d : Addr} (h : Tabs T) (hlt : ∀ q ∈ T, q.1 < d) : @LT.lt Nat _ 30 d ∧ @LT.lt Nat _ 37 d := by
  obtain ⟨a, b, ha, hb, rfl, _, _⟩ := h
  obtain ⟨o, ho⟩ := ha.has
  obtain ⟨o', ho'⟩ := hb.has
  exact ⟨hlt _ (List.mem_append_left _ ho), hlt _ (List.mem_append_right _ ho')⟩
theorem toT1 {h₀ h : Heap} {L : Addr} {x : Addr × Obj} {T n : List (Addr × Obj)} (N : News h₀ L h (x :: (T ++ n))) : News h₀ L h (T ++ (x :: n)) := fun q hq => by
  rcases List.mem_append.mp hq with hq | hq
  · exact N q (.tail _ (List.mem_append_left _ hq))
  rcases List.mem_cons.mp hq with rfl | hq
  · exact N _ (.head _)
  · exact N q (.tail _ (List.mem_append_right _ hq))
theorem ofT1 {h₀ h : Heap} {L : Addr} {x : Addr × Obj} {T n : List (Addr × Obj)} (N : News h₀ L h (T ++ (x :: n))) : News h₀ L h (x :: (T ++ n)) := fun q hq => by
  rcases List.mem_cons.mp hq with rfl | hq
  · exact N _ (List.mem_append_right _ (.head _))
  rcases List.mem_append.mp hq with hq | hq
  · exact N q (List.mem_append_left _ hq)
  · exact N q (List.mem_append_right _ (.tail _ hq))
theorem toT2 {h₀ h : Heap} {L : Addr} {x y : Addr × Obj} {T n : List (Addr × Obj)} (N : News h₀ L h (x :: y :: (T ++ n))) : News h₀ L h (T ++ (x :: y :: n)) := fun q hq => by
  rcases List.mem_append.mp hq with hq | hq
  · exact N q (.tail _ (.tail _ (List.mem_append_left _ hq)))
  rcases List.mem_cons.mp hq with rfl | hq
  · exact N _ (.head _)
  rcases List.mem_cons.mp hq with rfl | hq
  · exact N _ (.tail _ (.head _))
  · exact N q (.tail _ (.tail _ (List.mem_append_right _ hq)))
theorem ofT2 {h₀ h : Heap} {L : Addr} {x y : Addr × Obj} {T n : List (Addr × Obj)} (N : News h₀ L h (T ++ (x :: y :: n))) : News h₀ L h (x :: y :: (T ++ n)) := fun q hq => by
  rcases List.mem_cons.mp hq with rfl | hq
  · exact N _ (List.mem_append_right _ (.head _))
  rcases List.mem_cons.mp hq with rfl | hq
  · exact N _ (List.mem_append_right _ (.tail _ (.head _)))
  rcases List.mem_append.mp hq with hq | hq
  · exact N q (List.mem_append_left _ hq)
  · exact N q (List.mem_append_right _ (.tail _ (.tail _ hq)))
/-- an item of a list of ints -/
theorem int_item {vs : List Value} {ns : List Int} {k : Nat} {v : Value} (h : IntsAre vs ns) (hv : vs[k]? = some v) : ∃ d t, v = .int d t ∧ ns[k]? = some d := by
  have hl := h.length
  have hk : k < vs.length := by
    rcases Nat.lt_or_ge k vs.length with h | h
    · exact h
    · rw [List.getElem?_eq_none h] at hv; cases hv
  have hk' : k < ns.length := by omega
  obtain ⟨t, ht⟩ := h.get k ns[k] (List.getElem?_eq_getElem hk')
  rw [hv] at ht
  exact ⟨_, t, Option.some.inj ht, List.getElem?_eq_getElem hk'⟩
end Mine
end
section
open PySem PySem.W PyProof.Rows PyProof.V PySem.Spec PySem.Calls
set_option maxRecDepth 100000
namespace Mine
section
variable {prog : Program} {w : World} {A : Around} {E : Value → Shared → Prop} {s : Shared} {env : Env} {h₀ : Heap} {x : Str} {body : List Stmt} {Q : Flow → Shared → Prop}
theorem my_loop2 {I : Addr} {fp wr : List Addr} {n : Nat} {P : Nat → Value → Prop} {St : Nat → Heap → Prop} {m₀ : Str → Option Value} {news : List (Addr × Obj)} (J : Nat → (Str → Option Value) → List (Addr × Obj) → Prop)
    (W : Walks prog w A I fp wr n P St) (hLf : env.locals ∉ fp) (hwr : ∀ b ∈ wr, h₀.get? b = none) (hnw : ∀ p ∈ news, p.1 ∉ wr) (hst : St 0 s.heap) (F : Fr h₀ env.locals s.heap m₀) (N : News h₀ env.locals s.heap news) (hj : J 0 m₀ news)
    (turn : ∀ i v m₁ news₁ h tk own, i < n → P i v → J i m₁ news₁ → (∀ p ∈ news₁, p.1 ∉ wr) → (∀ p ∈ own, p.1 ∈ fp) → (∀ b ∈ fp, h₀.get? b = none → ∀ o, h.get? b = some o → (b, o) ∈ own) → St (i + 1) h → Fr h₀ env.locals h (fun y => if y = x then some v else m₁ y) → News h₀ env.locals h (news₁ ++ own) →
      wpAny (model prog w) A (execs body env) (TEnd h₀ env.locals wr own (J (i + 1)) { s with heap := h, toks := tk } Q) E { s with heap := h, toks := tk })
    (done : ∀ m₁ news₁ h tk, J n m₁ news₁ → (∀ p ∈ news₁, p.1 ∉ wr) → Fr h₀ env.locals h m₁ → News h₀ env.locals h news₁ → Q .next { s with heap := h, toks := tk }) :
    LoopAtV prog w A h₀ env x body Q E (.ref I) s := by
  refine ⟨I, fp, wr, n, P, St, m₀, news, J, rfl, W, hLf, hwr, hnw, hst, F, N, hj, ?_, ?_⟩
  · rintro i v m₁ news₁ s₁ own ⟨hh', tk', rfl⟩ hin hP hJ hoff hown _ hall hst' F₁ N₁
    have N₂ : News h₀ env.locals hh' (news₁ ++ own) := fun p hp => N₁ p ((List.mem_append.mp hp).elim (fun h => List.mem_append.mpr (.inr h)) fun h => List.mem_append.mpr (.inl h))
    refine wpAny_mono (turn i v m₁ news₁ hh' tk' own hin hP hJ hoff hown hall hst' F₁ N₂) (fun f s₂ p => ?_) fun _ _ e => e
    have fin : (∃ h' tk m₂ news₂, s₂ = { s with heap := h', toks := tk } ∧ Fr h₀ env.locals h' m₂ ∧ News h₀ env.locals h' (news₂ ++ own) ∧ (∀ p ∈ news₂, p.1 ∉ wr) ∧ J (i + 1) m₂ news₂) →
        LoopStepU h₀ env.locals wr own (J (i + 1)) { s with heap := hh', toks := tk' } .next s₂ := by
      rintro ⟨h', tk, m', nx, e, F', N', hn, hm⟩
      exact ⟨rfl, h', tk, m', nx, e, F', fun p hp => N' p ((List.mem_append.mp hp).elim (fun h => List.mem_append.mpr (.inr h)) fun h => List.mem_append.mpr (.inl h)), hn, hm⟩
    cases f with
    | ret v => exact .ret p
    | brk => exact .brk p
    | next => exact .next (fin p)
    | cont => exact .cont (fin p)
  · rintro h' tk m' news' F' N' hw hJ
    exact done m' news' h' tk hJ hw F' N'

theorem range_loop {r : Addr} {a₀ b₀ : Int} {t₀ u₀ v₀ : Tok} {n : Nat} {m₀ : Str → Option Value} {news : List (Addr × Obj)} (J : Nat → (Str → Option Value) → List (Addr × Obj) → Prop)
    (hh : A.handled = none) (hr : IsRange s.heap r a₀ b₀ 1 t₀ u₀ v₀) (hsmall : Builtin.Range.small a₀ b₀ 1 = true) (hn : Builtin.Range.rangeSize a₀ b₀ 1 = (n : Int)) (F : Fr h₀ env.locals s.heap m₀) (N : News h₀ env.locals s.heap news) (hj : J 0 m₀ news)
    (turn : ∀ I i t m₁ news₁ h tk own o, (∀ p ∈ news, p.1 < I) → i < n → J i m₁ news₁ → (∀ p ∈ news₁, p.1 ≠ I) → (∀ p ∈ own, p.1 = I) → (I, o) ∈ own → Fr h₀ env.locals h (fun y => if y = x then some (.int (a₀ + (i : Int)) t) else m₁ y) → News h₀ env.locals h (news₁ ++ own) →
      wpAny (model prog w) A (execs body env) (TEnd h₀ env.locals [I] own (J (i + 1)) { s with heap := h, toks := tk } Q) E { s with heap := h, toks := tk })
    (done : ∀ m₁ news₁ h tk, J n m₁ news₁ → Fr h₀ env.locals h m₁ → News h₀ env.locals h news₁ → Q .next { s with heap := h, toks := tk }) :
    wpAny (model prog w) A (pyIter (.ref r)) (fun it s₂ => LoopAtV prog w A h₀ env x body Q E it s₂) E s := by
  refine wpAny_pyIter_range hr hsmall ?_
  have W : Walks prog w A s.heap.objs.size [s.heap.objs.size] [s.heap.objs.size] n (fun i v => ∃ t, v = .int (a₀ + i * 1) t)
      (fun i h => IsRangeIter h s.heap.objs.size (a₀ + (i : Nat) * 1) ((n : Int) - (i : Nat)) 1) := Walks.range hh _ a₀ 1 n
  refine my_loop2 J W (fun hm => absurd F.ns.lt ((List.mem_singleton.mp hm) ▸ Nat.lt_irrefl _)) (fun b hb => by rw [List.mem_singleton.mp hb]; exact next_is_new F)
    (fun p hp hI => absurd (Heap.lt_size (N p hp).1) ((List.mem_singleton.mp hI) ▸ Nat.lt_irrefl _)) (by show IsRangeIter _ _ _ _ _; rw [hn]; simpa using Heap.get?_push_size _ rfl) (F.push _) (fun p hp => ⟨Heap.get?_push_of_some _ (N p hp).1, (N p hp).2⟩) hj ?_ ?_
  · rintro i v m₁ news₁ h tk own hi ⟨t, rfl⟩ hJ ho hw hall hst F₁ N₁
    rw [Int.mul_one] at F₁
    exact turn s.heap.objs.size i t m₁ news₁ h tk own _ (fun p hp => Heap.lt_size (N p hp).1) hi hJ (fun p hp e => ho p hp (List.mem_singleton.mpr e)) (fun p hp => List.mem_singleton.mp (hw p hp)) (hall _ (.head _) (next_is_new F) _ hst) F₁ N₁
  · intro m₁ news₁ h tk hJ ho F₁ N₁
    exact done m₁ news₁ h tk hJ F₁ N₁
end
theorem ofH1 {h₀ h : Heap} {L : Addr} {z x : Addr × Obj} {T n : List (Addr × Obj)} (N : News h₀ L h (z :: (T ++ (x :: n)))) : News h₀ L h (z :: x :: (T ++ n)) := fun q hq => by
  rcases List.mem_cons.mp hq with rfl | hq
  · exact N _ (.head _)
  · exact ofT1 (fun p hp => N p (.tail _ hp)) q hq
theorem ne_join {d : Addr} {a b : List (Addr × Obj)} (ha : ∀ q ∈ a, q.1 ≠ d) (hb : ∀ q ∈ b, q.1 ≠ d) : ∀ q ∈ a ++ b, q.1 ≠ d := fun q hq => (List.mem_append.mp hq).elim (ha q) (hb q)

theorem News.apart {h₀ h : Heap} {L a b : Addr} {o o' : Obj} {led : List (Addr × Obj)} (N : News h₀ L h led) (h1 : (a, o) ∈ led) (h2 : (b, o') ∈ led) (hc : o.cls ≠ o'.cls) : @Ne Nat a b := fun e => by
  have e1 := (N _ h1).1
  have e2 := (N _ h2).1
  dsimp only at e1 e2
  rw [show a = b from e, e2] at e1
  exact hc (congrArg Obj.cls (Option.some.inj e1)).symm

/-! plain: a number's figures -/
def figs (b : Int) : Nat → Int → List Int
  | 0, _ => []
  | k + 1, n => if n = 0 then [] else n % b :: figs b k (n / b)
theorem figs_zero (b : Int) : ∀ k, figs b k 0 = []
  | 0 => rfl
  | _ + 1 => by simp [figs]
end Mine
namespace Mine
theorem ofH2 {h₀ h : Heap} {L : Addr} {z x y : Addr × Obj} {T n : List (Addr × Obj)} (N : News h₀ L h (z :: (T ++ (x :: y :: n)))) : News h₀ L h (z :: x :: y :: (T ++ n)) := fun q hq => by
  rcases List.mem_cons.mp hq with rfl | hq
  · exact N _ (.head _)
  · exact ofT2 (fun p hp => N p (.tail _ hp)) q hq
end Mine
end
section
open PySem PySem.W PyProof.Rows PyProof.V PySem.Spec PySem.Calls
set_option maxRecDepth 100000
namespace Mine
/-- a turn's end, over an enumeration -/
def EEnd (h₀ : Heap) (L : Addr) (its : List (Addr × Obj)) (lp : Addr × Obj) (Jn : (Str → Option Value) → List (Addr × Obj) → Prop) (s₁ : Shared) (Q : Flow → Shared → Prop) (f : Flow) (s₂ : Shared) : Prop :=
  match f with
  | .ret v => Q (.ret v) s₂
  | .brk => Q .next s₂
  | _ => ∃ h' tk m₂ news₂, s₂ = { s₁ with heap := h', toks := tk } ∧ Fr h₀ L h' m₂ ∧ News h₀ L h' (its ++ news₂) ∧ (∀ p ∈ news₂, ∀ q ∈ its, p.1 ≠ q.1) ∧ lp ∈ news₂ ∧ Jn m₂ news₂
section
variable {prog : Program} {w : World} {A : Around} {E : Value → Shared → Prop} {s : Shared} {env : Env} {h₀ : Heap} {body : List Stmt} {Q : Flow → Shared → Prop}
theorem enum_loop {elts : List PySem.Expr} {k : Nat} {pos : Pos} {l : Addr} {lo : Obj} {vs : List Value} {n : Nat} {m₀ : Str → Option Value} {news : List (Addr × Obj)} (J : Nat → (Str → Option Value) → List (Addr × Obj) → Prop)
    (hh : A.handled = none) (F : Fr h₀ env.locals s.heap m₀) (N : News h₀ env.locals s.heap news) (hm : (l, lo) ∈ news) (hc : lo.cls = .type "list") (hd : lo.data = .seq vs.toArray n) (hj : J 0 m₀ news)
    (turn : ∀ I i x m₁ news₁ T t h tk o1 o2, vs[i]? = some x → J i m₁ news₁ → (∀ p ∈ news₁, ∀ q ∈ ([(I + 1, o1), (I, o2)] : List (Addr × Obj)), p.1 ≠ q.1) → (l, lo) ∈ news₁ → IsTup h T #[.int ((i : Nat) : Int) t, x] → Fr h₀ env.locals h m₁ → News h₀ env.locals h ((I + 1, o1) :: (I, o2) :: news₁) →
      wpAny (model prog w) A (assign (.Tuple elts k pos) env (.ref T)) (fun _ s₂ => wpAny (model prog w) A (execs body env) (EEnd h₀ env.locals [(I + 1, o1), (I, o2)] (l, lo) (J (i + 1)) { s with heap := h, toks := tk } Q) E s₂) E { s with heap := h, toks := tk })
    (done : ∀ m₁ news₁ h tk, J vs.length m₁ news₁ → Fr h₀ env.locals h m₁ → News h₀ env.locals h news₁ → Q .next { s with heap := h, toks := tk }) :
    wpAny (model prog w) A (call (.type "enumerate") [.ref l]) (fun xv s₁ => wpAny (model prog w) A (pyIter xv) (fun it s₂ => TurnsAt prog w A h₀ env (.Tuple elts k pos) body Q E it s₂) E s₁) E s := by
  refine ktu_enum (xs := enumItems 0 vs) hh F N hm hc hd rfl fun I hI => ?_
  have all : ∀ (ws : List Value) (i : Nat), vs.drop i = ws → i ≤ vs.length → ∀ m₁ news₁, J i m₁ news₁ → (∀ p ∈ news₁, p.1 ≠ I + 1 ∧ p.1 ≠ I) → (l, lo) ∈ news₁ →
      ItemsRest prog w A E h₀ env (.Tuple elts k pos) body Q s [(I + 1, "enumerate"), (I, "list_iterator")] [(l, lo)] (enumItems i ws) m₁ news₁ := by
    intro ws
    induction ws with
    | nil =>
      intro i hi hle m₁ news₁ hJ ho hl
      refine ItemsRest.zero fun h tk F₁ N₁ => ?_
      have h2 := congrArg List.length hi
      rw [List.length_drop] at h2
      simp at h2
      have e : i = vs.length := by omega
      exact done m₁ news₁ h tk (e ▸ hJ) F₁ N₁
    | cons x ws ih =>
      intro i hi hle m₁ news₁ hJ ho hl
      have h2 := congrArg List.length hi
      rw [List.length_drop, List.length_cons] at h2
      have hx : vs[i]? = some x := by
        have := congrArg List.head? hi
        rw [List.head?_drop] at this
        exact this
      have hdrop : vs.drop (i + 1) = ws := by
        rw [← List.drop_drop, hi]; rfl
      refine ItemsRest.pair fun T t h tk hT F₁ => AllObj.cons fun o1 _ => AllObj.cons fun o2 _ => AllObj.nil ?_
      intro N₁
      refine wpAny_mono (turn I i x m₁ news₁ T t h tk o1 o2 hx hJ (fun p hp q hq => ?_) hl hT F₁ N₁) (fun _ s₂ h2 => wpAny_mono h2 (fun f s₃ h3 => ?_) fun _ _ e => e) fun _ _ e => e
      · rcases List.mem_cons.mp hq with rfl | hq
        · exact (ho p hp).1
        · rw [List.mem_singleton.mp hq]; exact (ho p hp).2
      · have fin : (∃ h' tk' m₂ news₂, s₃ = { s with heap := h', toks := tk' } ∧ Fr h₀ env.locals h' m₂ ∧ News h₀ env.locals h' ([(I + 1, o1), (I, o2)] ++ news₂) ∧ (∀ p ∈ news₂, ∀ q ∈ ([(I + 1, o1), (I, o2)] : List (Addr × Obj)), p.1 ≠ q.1) ∧ (l, lo) ∈ news₂ ∧ J (i + 1) m₂ news₂) →
            UnrEndW h₀ env.locals { s with heap := h, toks := tk } [(I + 1, o1), (I, o2)] (fun m' n' => SubL [(l, lo)] n' ∧ ItemsRest prog w A E h₀ env (.Tuple elts k pos) body Q s [(I + 1, "enumerate"), (I, "list_iterator")] [(l, lo)] (enumItems (i + 1) ws) m' n') s₃ := by
          rintro ⟨h', tk', m₂, news₂, e, F₂, N₂, ho₂, hl₂, hJ₂⟩
          exact ⟨h', tk', m₂, news₂, e, F₂, N₂, ho₂, ⟨hl₂, trivial⟩, ih (i + 1) hdrop (by omega) m₂ news₂ hJ₂ (fun p hp => ⟨ho₂ p hp _ (.head _), ho₂ p hp _ (.tail _ (.head _))⟩) hl₂⟩
        cases f with
        | ret v => exact h3
        | brk => exact h3
        | next => exact fin h3
        | cont => exact fin h3
  exact all vs 0 rfl (Nat.zero_le _) m₀ news hj (fun p hp => ⟨Nat.ne_of_lt (Nat.lt_succ_of_lt (hI p hp)), Nat.ne_of_lt (hI p hp)⟩) hm
end
theorem off2 {TT news : List (Addr × Obj)} {x y : Addr × Obj} (hT : Tabs TT) (hne : ∀ q ∈ news, q.1 ≠ 30 ∧ q.1 ≠ 37) (hy : ∀ p ∈ TT ++ news, p.1 < y.1) (hx : @LT.lt Nat _ y.1 x.1) : ∀ q ∈ x :: y :: news, q.1 ≠ 30 ∧ q.1 ≠ 37 := fun q hq => by
  have h := hT.lt (d := y.1) fun q hq => hy q (List.mem_append_left _ hq)
  rcases List.mem_cons.mp hq with rfl | hq
  · exact ⟨neN (by omega), neN (by omega)⟩
  rcases List.mem_cons.mp hq with rfl | hq
  · exact ⟨neN (by omega), neN (by omega)⟩
  · exact hne q hq
theorem dup4 {h₀ h : Heap} {L : Addr} {a b c d : Addr × Obj} {led : List (Addr × Obj)} (N : News h₀ L h led) (h1 : a ∈ led) (h2 : b ∈ led) (h3 : c ∈ led) (h4 : d ∈ led) : News h₀ L h (a :: b :: c :: d :: led) := fun q hq => by
  rcases List.mem_cons.mp hq with rfl | hq
  · exact N _ h1
  rcases List.mem_cons.mp hq with rfl | hq
  · exact N _ h2
  rcases List.mem_cons.mp hq with rfl | hq
  · exact N _ h3
  rcases List.mem_cons.mp hq with rfl | hq
  · exact N _ h4
  · exact N _ hq
/-! plain: figures' sums -/
def alts : List Int → Int
  | [] => 0
  | f :: r => f - alts r
theorem alts_snoc (x : Int) : ∀ l : List Int, alts (l ++ [x]) = alts l + x * (1 - 2 * ((l.length : Int) % 2))
  | [] => by simp [alts]
  | f :: l => by
    rw [List.cons_append, alts, alts, alts_snoc x l, List.length_cons]
    rcases Int.emod_two_eq (l.length : Int) with h | h
    · rw [h, show (((l.length + 1 : Nat)) : Int) % 2 = 1 by omega]; simp; omega
    · rw [h, show (((l.length + 1 : Nat)) : Int) % 2 = 0 by omega]; simp; omega
theorem figs_dig {b : Int} (hb : 0 < b) : ∀ (k : Nat) (n : Int), ∀ f ∈ figs b k n, 0 ≤ f ∧ f < b
  | 0, _, _, h => nomatch h
  | k + 1, n, f, h => by
    unfold figs at h
    split at h
    · cases h
    · rcases List.mem_cons.mp h with rfl | h
      · exact ⟨Int.emod_nonneg _ (by omega), Int.emod_lt_of_pos _ hb⟩
      · exact figs_dig hb k _ f h
end Mine
namespace Mine
theorem named_map {h₀ h : Heap} {L : Addr} {m : Str → Option Value} (F : Fr h₀ L h m) : ∃ m', m' = m ∧ Fr h₀ L h m' := ⟨m, rfl, F⟩
end Mine
end
section
open PySem PySem.W PyProof.Rows PySem.Spec PySem.Calls
set_option Elab.async false
set_option maxRecDepth 100000
namespace Mine
noncomputable def nestOf : Stmt → Stmt
  | .FunctionDef _ _ (_ :: s :: _) _ _ _ _ _ _ _ => s
  | s => s
noncomputable def nestOf0 : Stmt → Stmt
  | .FunctionDef _ _ (s :: _) _ _ _ _ _ _ _ => s
  | s => s
noncomputable def argsOf : Stmt → Arguments
  | .FunctionDef _ a _ _ _ _ _ _ _ _ => a
  | _ => { posonlyargs := [], args := [], vararg := none, kwonlyargs := [], kw_defaults := [], kwarg := none, defaults := [] }
noncomputable def bodyOf : Stmt → List Stmt
  | .FunctionDef _ _ b _ _ _ _ _ _ _ => b
  | _ => []
noncomputable def scopeOf : Stmt → Scope
  | .FunctionDef _ _ _ _ _ _ sc _ _ _ => sc
  | _ => { kind := .module, names := [], isGenerator := false, isCoroutine := false }
noncomputable def posOf : Stmt → Pos
  | .FunctionDef _ _ _ _ _ _ _ _ _ p => p
  | _ => ⟨0, 0, 0, 0⟩
noncomputable def at4 : List Stmt → Stmt
  | _ :: _ :: _ :: _ :: s :: _ => s
  | _ => .Pass ⟨0, 0, 0, 0⟩
noncomputable def at5 : List Stmt → Stmt
  | _ :: _ :: _ :: _ :: _ :: s :: _ => s
  | _ => .Pass ⟨0, 0, 0, 0⟩
noncomputable def in1 : { s : Stmt // nestOf (at4 PySem.Challenge.pw_ht0001_01.main.body) = s } := by
  refine ⟨?s, ?h⟩
  case h =>
    dsimp only [PySem.Challenge.pw_ht0001_01, at4, nestOf]
    exact rfl
noncomputable def in2 : { s : Stmt // nestOf0 (at5 PySem.Challenge.pw_ht0001_01.main.body) = s } := by
  refine ⟨?s, ?h⟩
  case h =>
    dsimp only [PySem.Challenge.pw_ht0001_01, at5, nestOf0]
    exact rfl
noncomputable def in1body : { s : List Stmt // bodyOf in1.1 = s } := by
  refine ⟨?s, ?h⟩
  case h =>
    dsimp only [in1, bodyOf]
    exact rfl
noncomputable def in1args : { s : Arguments // argsOf in1.1 = s } := by
  refine ⟨?s, ?h⟩
  case h =>
    dsimp only [in1, argsOf]
    exact rfl
noncomputable def in1scope : { s : Scope // scopeOf in1.1 = s } := by
  refine ⟨?s, ?h⟩
  case h =>
    dsimp only [in1, scopeOf]
    exact rfl
noncomputable def in1pos : { s : Pos // posOf in1.1 = s } := by
  refine ⟨?s, ?h⟩
  case h =>
    dsimp only [in1, posOf]
    exact rfl
noncomputable def in2body : { s : List Stmt // bodyOf in2.1 = s } := by
  refine ⟨?s, ?h⟩
  case h =>
    dsimp only [in2, bodyOf]
    exact rfl
noncomputable def in2args : { s : Arguments // argsOf in2.1 = s } := by
  refine ⟨?s, ?h⟩
  case h =>
    dsimp only [in2, argsOf]
    exact rfl
noncomputable def in2scope : { s : Scope // scopeOf in2.1 = s } := by
  refine ⟨?s, ?h⟩
  case h =>
    dsimp only [in2, scopeOf]
    exact rfl
noncomputable def in2pos : { s : Pos // posOf in2.1 = s } := by
  refine ⟨?s, ?h⟩
  case h =>
    dsimp only [in2, posOf]
    exact rfl
end Mine
end
section
open PySem PySem.W PyProof.Rows PySem.Spec PySem.Calls
set_option Elab.async false
set_option maxRecDepth 100000
namespace Mine

abbrev tupObj (vs : List Value) : Obj := { cls := .type "tuple", data := .seq vs.toArray }

set_option maxHeartbeats 8000000 in
theorem div_c {w : World} {a b n : Int} {ta tb tn : Tok} {news : List (Addr × Obj)} {p : Program} {loose : List Str} {mean : ExcName → Option Value} {mg mb : Str → Option Value} {dp un : Nat} {gd : Option (List Code)} {cn : Str} {cs : Scope} {a' : Addr} {ccd : Value} {cl : List (Str × Addr)} {outer : List Env} {A₀ : Around} {base h₀ : Heap} {L : Addr} {m : Str → Option Value} {s : Shared} {Q E : Value → Shared → Prop}
    (B : Below A₀ base outer h₀) (F : Fr h₀ L s.heap m) (X : (Mine.hd.heap_39 w.params).In h₀) (T : Top p loose mean mg mb h₀) (hk : cs.kind = .function) (N : News h₀ L s.heap news)
    (h0 : 0 ≤ a) (h1 : a < 2 ^ 60) (h2 : 0 < b) (h3 : b < 2 ^ 29) (h4 : 0 ≤ n) (h5 : n < 100) (hd : dp + 1 < recursionLimit) (hu : un + 8 < cLine)
    (hret : ∀ r t u h' tk', Fr h₀ L h' m → News h₀ L h' ((r, tupObj [.int (a.fdiv b) t, .int (a.fmod b) u]) :: news) → (∀ q ∈ news, q.1 < r) → Q (.ref r) { s with heap := h', toks := tk' }) :
    wpAny (model PySem.Challenge.rw_ht0001_01.row.prog w) (ktrTop dp un gd cn cs L a' ccd cl outer) (call (.ref 21) [.int a ta, .int b tb, .int n tn]) Q E s := by
  w_top off
  revert X; k_fill; intro X
  have hb : Builtin.Int.intBits a ≤ 64 := intBits_le_64 (by omega) (by omega)
  refine wpAny_call ?_
  k_dflt ktr_enter
  k_steps
  rename_i kF kN _ _
  exact hret _ _ _ _ _ kF kN (fun q hq => Heap.lt_size (News.get (by assumption) hq))
end Mine
end
section
open PySem PySem.W PyProof.Rows PyProof.V PySem.Spec PySem.Calls
set_option maxRecDepth 100000
namespace Mine
section
variable {prog : Program} {w : World} {A : Around} {E : Value → Shared → Prop} {s : Shared}
/-- what the first three places of five are -/
theorem applied3 {sl : Addr} {u : Tok} {Q : Int × Int × Nat → Shared → Prop} (hs : s.heap.IsSliceOf sl .none (.int 3 u) .none) (h : Q ((0 : Int), 1, 3) s) :
    wpAny (model prog w) A (Builtin.Slice.sliceApplied (.ref sl) (pure (5 : Int))) Q E s := by
  obtain ⟨os, hos, _, hds⟩ := id hs
  unfold Builtin.Slice.sliceApplied Builtin.Slice.sliceFields
  refine wpAny_bind (wpAny_bind (wpAny_field hos hds (x := .none) rfl (wpAny_bind (wpAny_field hos hds (x := .int 3 u) rfl (wpAny_bind (wpAny_field hos hds (x := .none) rfl (wpAny_pure ?_)))))))
  refine wpAny_bind (slicePart_none ?_)
  show wpAny _ _ (if ((1 : Int) == 0) = true then _ else _) _ _ s
  rw [if_neg (by decide)]
  refine wpAny_bind (slicePart_none (wpAny_bind (slicePart_int (wpAny_bind (wpAny_pure ?_)))))
  exact wpAny_pure h
theorem getItem3 {t sl : Addr} {v0 v1 v2 v3 v4 : Value} {u : Tok} {Q : Value → Shared → Prop} (ht : IsTup s.heap t #[v0, v1, v2, v3, v4]) (hs : s.heap.IsSliceOf sl .none (.int 3 u) .none)
    (h : Q (.ref s.heap.objs.size) { s with heap := s.heap.push (tupObj [v0, v1, v2]) }) : wpAny (model prog w) A (getItem (.ref t) (.ref sl)) Q E s := by
  obtain ⟨os, hos, hcs, _⟩ := id hs
  have hTs : s.TypeIs (.ref sl) "slice" := ⟨os, hos, hcs⟩
  unfold getItem
  try with_reducible refine wpAny_holding ?_
  first | refine wpAny_bind (wpAny_pure ?_) | skip
  refine wpAny_bind (wpAny_sequenceKey ht.typeIs (by decide) ?_)
  refine wpAny_bind (wpAny_callSpecial?_slot (name := PySem.Str.ofString "__getitem__") ht.typeIs slot_tuple_getitem
    (wpAny_call_entry slot_tuple_getitem ht.typeIs entry_tuple_getitem ?_ (args_tuple_getitem _ _)))
  show wpAny _ _ (Builtin.Tuple.tupleItemsOf (.ref t) >>= _) _ _ s
  refine wpAny_bind (tupleItemsOf_ ht ?_)
  refine wpAny_bind (wpAny_typeOf hTs ?_)
  rw [if_pos (by decide)]
  refine wpAny_bind (applied3 hs ?_)
  show wpAny _ _ (if ((0 : Int) == 0 && (1 : Int) == 1 && (3 : Nat) == 5) = true then _ else _) _ _ s
  rw [if_neg (by decide)]
  have hz : sizeOk (Data.seq #[v0, v1, v2]) := by show 3 ≤ sizeLine; rw [sizeLine_eq]; decide
  first
    | exact wpAny_bind (m := Builtin.Tuple.tupleExact _) (wpAny_newObj_type (wpAny_pure ⟨_, rfl, wpAny_pure h⟩) hz)
    | exact wpAny_bind (m := Builtin.Tuple.tupleExact _) (wpAny_newObj_type (wpAny_bind (wpAny_pure (wpAny_pure ⟨_, rfl, wpAny_pure h⟩))) hz)
    | exact wpAny_bind (wpAny_bind (m := Builtin.Tuple.tupleExact _) (wpAny_newObj_type (wpAny_pure (wpAny_pure ⟨_, rfl, wpAny_pure h⟩)) hz))
    | exact wpAny_bind (wpAny_bind (m := Builtin.Tuple.tupleExact _) (wpAny_newObj_type (wpAny_pure ⟨_, rfl, wpAny_pure h⟩) hz))
variable {h₀ : Heap} {L : Addr} {m : Str → Option Value} {news : List (Addr × Obj)}
theorem slice3 {value slice : PySem.Expr} {t : Addr} {v0 v1 v2 v3 v4 : Value} {u : Tok} {Q : Value → Shared → Prop} (F : Fr h₀ L s.heap m) (N : News h₀ L s.heap news) (ht : IsTup s.heap t #[v0, v1, v2, v3, v4])
    (h : ∀ h', Fr h₀ L h' m → News h₀ L h' ((s.heap.objs.size + 1, tupObj [v0, v1, v2]) :: news) → Q (.ref (s.heap.objs.size + 1)) { s with heap := h' })
    (hs : subscripted slice false (.ref t) (.ref s.heap.objs.size) = operate [.ref s.heap.objs.size, .ref t] (getItem (.ref t) (.ref s.heap.objs.size)) := by with_unfolding_all rfl)
    (hg : ∀ r, letTemporaryGo value (.ref t) r = pure () := by intro _; with_unfolding_all rfl) :
    wpAny (model prog w) A (subscriptTail value slice (.ref t) (.ref s.heap.objs.size)) Q E { s with heap := s.heap.push { cls := .type "slice", data := .fields #[.none, .int 3 u, .none] } } := by
  have ht' : IsTup (s.heap.push { cls := .type "slice", data := .fields #[.none, .int 3 u, .none] }) t #[v0, v1, v2, v3, v4] := ht.keeps fun _ _ e => Heap.get?_push_of_some _ e
  refine subscriptTail_ops (s := { s with heap := s.heap.push { cls := .type "slice", data := .fields #[.none, .int 3 u, .none] } }) ht'.typeIs slot_tuple_getitem.lookup
    (getItem3 ht' (Heap.IsSliceOf.new ..) ?_) hs hg
  have N1 := News.push (F.push { cls := .type "slice", data := .fields #[.none, .int 3 u, .none] }) (N.grown fun _ _ e => Heap.get?_push_of_some _ e) (tupObj [v0, v1, v2])
  rw [Heap.size_push] at N1
  show Q (.ref (s.heap.push _).objs.size) _
  rw [Heap.size_push]
  exact h _ ((F.push _).push _) N1
end
end Mine
end
section
open PySem PySem.W PyProof.Rows PyProof.V PySem.Spec PySem.Calls
set_option maxRecDepth 100000
namespace Mine
/-- a turn's end, of a while -/
def WEnd (h₀ : Heap) (L : Addr) (Jn : (Str → Option Value) → List (Addr × Obj) → Prop) (s : Shared) (Q : Flow → Shared → Prop) (f : Flow) (s₂ : Shared) : Prop :=
  match f with
  | .ret v => Q (.ret v) s₂
  | .brk => Q .next s₂
  | _ => ∃ h' tk m₂ news₂, s₂ = { s with heap := h', toks := tk } ∧ Fr h₀ L h' m₂ ∧ News h₀ L h' news₂ ∧ Jn m₂ news₂
section
variable {prog : Program} {w : World} {A : Around} {E : Value → Shared → Prop} {s : Shared} {env : Env} {h₀ : Heap} {L : Addr} {test : PySem.Expr} {body orelse : List Stmt} {Q : Flow → Shared → Prop}
theorem while_loop (J : Nat → (Str → Option Value) → List (Addr × Obj) → Prop) (hE : PassesOwn (model prog w) A env E)
    (turn : ∀ k m₁ news₁ h tk, J k m₁ news₁ → Fr h₀ L h m₁ → News h₀ L h news₁ → wpAny (model prog w) A (isTrue test env (eval test env)) (fun b s₂ => WhlIf b (wpAny (model prog w) A (execs body env) (WEnd h₀ L (fun m n => ∃ j, j < k ∧ J j m n) s Q) E s₂) (wpAny (model prog w) A (execs orelse env) Q E s₂)) E { s with heap := h, toks := tk }) :
    ∀ k m₁ news₁ h tk, J k m₁ news₁ → Fr h₀ L h m₁ → News h₀ L h news₁ → WhlRest prog w A E env test body orelse Q (0 + 1) { s with heap := h, toks := tk } := by
  intro k
  induction k using Nat.strongRecOn with
  | _ k ih =>
    intro m₁ news₁ h tk hJ F N
    refine whl_turn hE (wpAny_mono (turn k m₁ news₁ h tk hJ F N) (fun b s₂ h2 => ?_) fun _ _ e => e)
    unfold WhlIf at h2 ⊢
    split
    · rename_i hb
      rw [if_pos hb] at h2
      refine wpAny_mono h2 (fun f s₃ h3 => ?_) fun _ _ e => e
      have fin : (∃ h' tk m₂ news₂, s₃ = { s with heap := h', toks := tk } ∧ Fr h₀ L h' m₂ ∧ News h₀ L h' news₂ ∧ ∃ j, j < k ∧ J j m₂ news₂) → WhlRest prog w A E env test body orelse Q (0 + 1) s₃ := by
        rintro ⟨h', tk', m₂, news₂, rfl, F₂, N₂, j, hj, hJ₂⟩
        exact ih j hj m₂ news₂ h' tk' hJ₂ F₂ N₂
      cases f with
      | ret v => exact h3
      | brk => exact h3
      | next => exact fin h3
      | cont => exact fin h3
    · rename_i hb
      rw [if_neg hb] at h2
      exact h2
end
/-! plain: figures summed again and again -/
def lst (b : Int) : Nat → Int → Int × Int
  | 0, n => (n, 0)
  | k + 1, n => if b ≤ n then ((lst b k (figs b 30 n).sum).1, (lst b k (figs b 30 n).sum).2 + 1) else (n, 0)
theorem figs_sum_nonneg {b : Int} (hb : 0 < b) (k : Nat) (n : Int) : 0 ≤ (figs b k n).sum := by
  have h := figs_dig hb k n
  generalize figs b k n = l at h
  induction l with
  | nil => simp
  | cons x l ih =>
    rw [List.sum_cons]
    have h1 := h x (.head _)
    have h2 := ih fun y hy => h y (.tail _ hy)
    omega
theorem figs_length (b : Int) : ∀ (k : Nat) (n : Int), (figs b k n).length ≤ k
  | 0, _ => by simp [figs]
  | k + 1, n => by
    unfold figs
    split
    · simp
    · rw [List.length_cons]; have := figs_length b k (n / b); omega
theorem figs_sum_le {b : Int} (hb : 0 < b) (k : Nat) (n : Int) : (figs b k n).sum ≤ (b - 1) * k := by
  have h := figs_dig hb k n
  have hl := figs_length b k n
  have key : ∀ l : List Int, (∀ f ∈ l, 0 ≤ f ∧ f < b) → l.sum ≤ (b - 1) * l.length := by
    intro l hl
    induction l with
    | nil => simp
    | cons x l ih =>
      rw [List.sum_cons, List.length_cons]
      have h1 := hl x (.head _)
      have h2 := ih fun y hy => hl y (.tail _ hy)
      push_cast
      rw [Int.mul_add]
      omega
  refine Int.le_trans (key _ h) (Int.mul_le_mul_of_nonneg_left (by omega) (by omega))
end Mine
end
section
open PySem PySem.W PyProof.Rows PyProof.V PySem.Spec PySem.Calls PyProof.Rows.LCg
set_option maxRecDepth 100000
namespace Mine
section
variable {prog : Program} {w : World} {A : Around} {E : Value → Shared → Prop} {s : Shared} {env : Env}
/-- heaps that keep all but two objects -/
def But2 (e it : Addr) (h h' : Heap) : Prop := ∀ c o, c ≠ e → c ≠ it → h.get? c = some o → h'.get? c = some o

theorem enum_block {elt iter : PySem.Expr} {a b : Str} {pa pb tp : Pos} {kk : Nat} {scope : Scope} {cl : List (Str × Addr)} {pos : Pos} {s₂ : Shared} {e it l : Addr} {items : Array Value} {old : Value} {Y : Nat → Value → Prop}
    {RR : Value → Addr → Result → Shared → Prop}
    (hh : A.handled = none) (hei : e ≠ it) (hle : l ≠ e) (hli : l ≠ it) (he : IsEnum s₂.heap e it 0 old) (hit : s₂.heap.IsListIter it l 0) (hl : s₂.heap.IsList l items) (hsz : items.size ≤ sizeLine)
    (hcell : ∀ y ∈ scope.names, y.2 ≠ .cell) (hkind : scope.kind = .function) (hxa : scope.names.lookup a = some .local) (hxb : scope.names.lookup b = some .local) (hab : ¬ a = b)
    (helt : ∀ C (i : Nat) x t h tk m₃ (E' : Value → Shared → Prop), items[i]? = some x → h.Ns C m₃ → m₃ a = some (.int i t) → m₃ b = some x → But2 e it s₂.heap h →
      wpAny (model prog w) A (eval elt (compEnvC scope cl C env)) (fun y s₄ => Y i y ∧ ∃ tk', s₄ = { s₂ with heap := h, toks := tk' }) E' { s₂ with heap := h, toks := tk })
    (hRR : ∀ D C h tk m' ys, s₂.heap.objs.size ≤ D → s₂.heap.objs.size ≤ C → C ≠ D → h.Ns C m' → h.get? D = some (LCg.lst ys) → ys.length = items.size → (∀ j y, ys[j]? = some y → Y j y) → But2 e it s₂.heap h → RR (.ref D) C (.ok .next) { s₂ with heap := h, toks := tk }) :
    wpAny (model prog w) A (newList []) (fun acc s₃ => wpAny (model prog w) A (newFunctionEnv scope env.globals cl [] env.qual none .none (some env)) (fun cenv s₄ =>
      codeAny (model prog w) A (.compStart (.ListComp elt [⟨.Tuple [.Name a pa, .Name b pb] kk tp, iter, [], 0⟩] scope pos) 0 (.ref e) acc { cenv with scope := relabel scope env }) (RR acc cenv.locals) s₄) E s₃) E s₂ := by
  refine wpAny_newObj_type (wpAny_newFunctionEnv hcell (by intro y hy; simp at hy) (fun h₁ hns₁ hsb₁ => ?_) hkind)
  dsimp only at hns₁ hsb₁ ⊢
  generalize hH2 : s₂.heap.push { cls := .type "list", dict := none, data := .seq ([] : List Value).toArray } = H2 at hns₁ hsb₁ ⊢
  have hC : H2.objs.size = s₂.heap.objs.size + 1 := by rw [← hH2, Heap.size_push]
  have hDC : s₂.heap.objs.size ≠ H2.objs.size := by rw [hC]; exact Nat.ne_of_lt (Nat.lt_succ_self _)
  have below : ∀ c, c < s₂.heap.objs.size → c ≠ H2.objs.size ∧ c ≠ s₂.heap.objs.size := fun c hc => ⟨by rw [hC]; exact Nat.ne_of_lt (Nat.lt_succ_of_lt hc), Nat.ne_of_lt hc⟩
  have keep₁ : ∀ c o, s₂.heap.get? c = some o → h₁.get? c = some o := fun c o x => hsb₁.extBut c o (below c (Heap.lt_size x)).1 (Heap.get?_push_of_some _ (hH2 ▸ Heap.get?_push_of_some _ x))
  have hacc : h₁.get? s₂.heap.objs.size = some (LCg.lst []) := hsb₁.extBut _ _ hDC (Heap.get?_push_of_some _ (hH2 ▸ Heap.get?_push_size _ rfl))
  have helt' : e < s₂.heap.objs.size := Heap.lt_size he
  have hilt : it < s₂.heap.objs.size := by obtain ⟨_, x, _⟩ := hit; exact Heap.lt_size x
  have W := KTurns.ofWalksU (elts := [.Name a pa, .Name b pb]) (k := kk) (pos := tp) (WalksT.enumerate (prog := prog) (w := w) hh e it l hei hle hli items).toU
  have loop : ∀ s₃ : Shared, s₃ = { s₂ with heap := h₁, toks := s₂.toks + ([] : List (Str × Value)).length } →
      codeAny (model prog w) A (.compLoop (.ListComp elt [⟨.Tuple [.Name a pa, .Name b pb] kk tp, iter, [], 0⟩] scope pos) 0 (.ref e) (.ref s₂.heap.objs.size) (compEnvC scope cl H2.objs.size env))
        (RR (.ref s₂.heap.objs.size) H2.objs.size) s₃ := by
    rintro s₃ rfl
    refine kcp_loop
      (fun k s' => ∃ h' tk i ys m', s' = { s₂ with heap := h', toks := tk } ∧ i ≤ items.size ∧ k = items.size + 1 - i ∧ ys.length = i ∧ (∀ j y, ys[j]? = some y → Y j y) ∧
        ((∃ old, IsEnum h' e it i old) ∧ h'.IsListIter it l i ∧ h'.IsList l items) ∧ h'.Ns H2.objs.size m' ∧ h'.get? s₂.heap.objs.size = some (LCg.lst ys) ∧ But2 e it s₂.heap h') ?_ (items.size + 1)
      ⟨h₁, _, 0, [], _, rfl, Nat.zero_le _, rfl, rfl, fun j y x => by simp at x, ⟨⟨old, keep₁ _ _ he⟩, hit.at fun o x => keep₁ _ o x, hl.at fun o x => keep₁ _ o x⟩, hns₁, hacc, fun c o _ _ x => keep₁ c o x⟩
    rintro k s' ⟨h', tk, i, ys, m', rfl, hi, rfl, hyl, hY, hst, hn', hD', hb'⟩
    by_cases hlt : i < items.size
    · refine W.item i _ _ _ hlt hst fun v h₂ tk₂ hMd hk₂ => ?_
      refine W.go i v _ _ _ hMd fun h₃ hP hst₃ hk₃ => ?_
      obtain ⟨T, vals, rfl, ⟨t, x, hx, rfl⟩, hT⟩ := hP
      have up₃ : ∀ c o, c ≠ e → c ≠ it → h'.get? c = some o → h₃.get? c = some o := fun c o h1 h2 x => hk₃ c o (by simp [h1, h2]) (hk₂ c o (by simp [h1, h2]) x)
      refine kcp_assign (env := compEnvC scope cl H2.objs.size env) hh hT (lookup_relabel_local hxa) (lookup_relabel_local hxb) (by simp [compEnvC, relabel, hkind]) (hn'.at' fun o x => up₃ _ o (Ne.symm (below e helt').1) (Ne.symm (below it hilt).1) x) fun h₄ tk₄ hn₄ hs₄ => ?_
      have b₄ : But2 e it s₂.heap h₄ := fun c o h1 h2 x => hs₄ c o (below c (Heap.lt_size x)).1 (up₃ c o h1 h2 (hb' c o h1 h2 x))
      refine wpAny_mono (helt H2.objs.size i x t h₄ _ _ _ hx hn₄ (by simp [hab]) (by simp) b₄) (fun y s₅ h₅ => ?_) fun _ _ x => x
      obtain ⟨hy, tk₅, rfl⟩ := h₅
      have hD₄ : h₄.get? s₂.heap.objs.size = some (LCg.lst ys) := hs₄ _ _ hDC (up₃ _ _ (Ne.symm (below e helt').2) (Ne.symm (below it hilt).2) hD')
      refine append_at (hsz := by show ys.toArray.size ≤ sizeLine; rw [List.size_toArray, hyl]; exact Nat.le_trans hi hsz) hD₄ fun h₆ hs₆ hD₆ => ?_
      have e₄ : ∃ old, IsEnum h₄ e it (i + 1) old := by obtain ⟨o, x⟩ := hst₃.1; exact ⟨o, hs₄ _ _ (below e helt').1 x⟩
      have hl₃ := hst₃.2.2
      refine ⟨items.size + 1 - (i + 1), by omega, h₆, tk₅, i + 1, ys ++ [y], _, rfl, hlt, rfl, by rw [List.length_append, List.length_singleton, hyl], fun j z hz => ?_, ⟨?_, ?_, ?_⟩, hn₄.sameBut hs₆ (Ne.symm hDC), hD₆.trans (congrArg some (LCg.lst_snoc ys y)), fun c o h1 h2 x => hs₆.extBut c o (below c (Heap.lt_size x)).2 (b₄ c o h1 h2 x)⟩
      · rcases Nat.lt_or_ge j i with h | h
        · rw [List.getElem?_append_left (by omega)] at hz
          exact hY j z hz
        · rw [List.getElem?_append_right (by omega)] at hz
          have hj : j = i := by
            rcases Nat.lt_or_ge (j - ys.length) 1 with h2 | h2
            · omega
            · rw [List.getElem?_eq_none (by simpa using h2)] at hz; cases hz
          subst hj
          rw [hyl, Nat.sub_self] at hz
          cases hz
          exact hy
      · obtain ⟨o, x⟩ := e₄
        exact ⟨o, hs₆.extBut _ _ (below e helt').2 x⟩
      · exact hst₃.2.1.at fun o x => hs₆.extBut _ _ (below it hilt).2 (hs₄ _ _ (below it hilt).1 x)
      · have hll : l < s₂.heap.objs.size := by obtain ⟨_, x, _⟩ := hl; exact Heap.lt_size x
        exact hl₃.at fun o x => hs₆.extBut _ _ (below l hll).2 (hs₄ _ _ (below l hll).1 x)
    · have hin : i = items.size := Nat.le_antisymm hi (Nat.not_lt.mp hlt)
      subst hin
      refine W.done _ _ _ hst fun h₂ tk₂ hk₂ => ?_
      have up₂ : ∀ c o, c ≠ e → c ≠ it → h'.get? c = some o → h₂.get? c = some o := fun c o h1 h2 x => hk₂ c o (by simp [h1, h2]) x
      exact hRR _ _ h₂ tk₂ _ ys (Nat.le_refl _) (by rw [hC]; exact Nat.le_succ _) (Ne.symm hDC) (hn'.at' fun o x => up₂ _ o (Ne.symm (below e helt').1) (Ne.symm (below it hilt).1) x)
        (up₂ _ _ (Ne.symm (below e helt').2) (Ne.symm (below it hilt).2) hD') hyl hY fun c o h1 h2 x => up₂ c o h1 h2 (hb' c o h1 h2 x)
  exact codeAny_compStart_list (loop _ rfl) ((WalksT.enumerate (prog := prog) (w := w) hh e it l hei hle hli items).self 0 _ _ _ ⟨⟨old, keep₁ _ _ he⟩, hit.at fun o x => keep₁ _ o x, hl.at fun o x => keep₁ _ o x⟩ (loop _ rfl))
end
end Mine
namespace Mine
section
variable {prog : Program} {w : World} {A : Around} {E : Value → Shared → Prop} {s : Shared} {env : Env} {h₀ : Heap} {L : Addr} {m : Str → Option Value}
/-- what a comprehension does with its source -/
def SrcE (prog : Program) (w : World) (A : Around) (E : Value → Shared → Prop) (env : Env) (elt iter : PySem.Expr) (a b : Str) (pa pb tp : Pos) (kk : Nat) (scope : Scope) (cl : List (Str × Addr)) (pos : Pos) (Q : Value → Shared → Prop) (xv : Value) (s₁ : Shared) : Prop :=
  wpAny (model prog w) A (pyIter xv) (fun it s₂ => wpAny (model prog w) A (newList []) (fun acc s₃ => wpAny (model prog w) A (newFunctionEnv scope env.globals cl [] env.qual none .none (some env)) (fun cenv s₄ =>
    codeAny (model prog w) A (.compStart (.ListComp elt [⟨.Tuple [.Name a pa, .Name b pb] kk tp, iter, [], 0⟩] scope pos) 0 it acc { cenv with scope := relabel scope env }) (compPost (model prog w) A E none Q acc cenv.locals) s₄) E s₃) E s₂) E s₁
theorem enum_ListComp {elt iter : PySem.Expr} {a b : Str} {pa pb tp : Pos} {kk : Nat} {scope : Scope} {cl : List (Str × Addr)} {pos : Pos} {Q : Value → Shared → Prop}
    (hclos : closureFor scope env = pure cl) (hkind : scope.kind = .function) (hnames : ∀ y ∈ scope.names, y.2 = .local → scope.names.lookup y.1 = some .local)
    (h : wpAny (model prog w) A (eval iter env) (SrcE prog w A E env elt iter a b pa pb tp kk scope cl pos Q) E s)
    (hs : ∀ x, foldedSetIterable iter env x = pure x := by intro _; rfl) :
    wpAny (model prog w) A (eval (.ListComp elt [⟨.Tuple [.Name a pa, .Name b pb] kk tp, iter, [], 0⟩] scope pos) env) Q E s := by
  rw [eval_ListComp]
  exact wpAny_comprehension_free (use := none) rfl hs hclos hkind hnames (wpAny_mono h (fun xv s₁ h₁ => h₁) fun _ _ e => e)
theorem enum_src {elt iter : PySem.Expr} {a b : Str} {pa pb tp : Pos} {kk : Nat} {scope : Scope} {cl : List (Str × Addr)} {pos : Pos} {Q : Value → Shared → Prop} {l : Addr} {its : List Value} {fs : List Int} {nn : Nat} {news : List (Addr × Obj)} (g : Nat → Int → Int)
    (hh : A.handled = none) (hcell : ∀ y ∈ scope.names, y.2 ≠ .cell) (hkind : scope.kind = .function) (hxa : scope.names.lookup a = some .local) (hxb : scope.names.lookup b = some .local) (hab : ¬ a = b)
    (F : Fr h₀ L s.heap m) (N : News h₀ L s.heap news) (hm : (l, W.listOf its.toArray nn) ∈ news) (hI : IntsAre its fs) (hsz : its.length ≤ 64)
    (helt : ∀ C (i : Nat) f t tf h tk m₃ (E' : Value → Shared → Prop), fs[i]? = some f → h.Ns C m₃ → m₃ a = some (.int i t) → m₃ b = some (.int f tf) → News h₀ L h news →
      wpAny (model prog w) A (eval elt (compEnvC scope cl C env)) (fun y s₄ => (∃ t', y = .int (g i f) t') ∧ ∃ tk', s₄ = { s with heap := h, toks := tk' }) E' { s with heap := h, toks := tk })
    (ret : ∀ D ys h' tk', Fr h₀ L h' m → News h₀ L h' ((D, LCg.lst ys) :: news) → (∀ q ∈ news, q.1 < D) → IntsAre ys (fs.mapIdx g) → Q (.ref D) { s with heap := h', toks := tk' }) :
    wpAny (model prog w) A (call (.type "enumerate") [.ref l]) (SrcE prog w A E env elt iter a b pa pb tp kk scope cl pos Q) E s := by
  have hax := N _ hm
  have hl : s.heap.IsList l its.toArray := ⟨_, hax.1, rfl, nn, rfl⟩
  have hlt : l < s.heap.objs.size := Heap.lt_size hax.1
  refine call_enumerate_list hl fun h₁ hE hIt hsize hk => ?_
  show wpAny _ _ (pyIter _) _ _ _
  refine wpAny_pyIter_enum hE ?_
  have big : s.heap.objs.size ≤ h₁.objs.size := by rw [hsize]; omega
  have keepN : ∀ h, But2 (s.heap.objs.size + 1) s.heap.objs.size h₁ h → ∀ c o, s.heap.get? c = some o → h.get? c = some o := fun h hb c o x =>
    hb c o (Nat.ne_of_lt (Nat.lt_succ_of_lt (Heap.lt_size x))) (Nat.ne_of_lt (Heap.lt_size x)) (hk c o x)
  refine enum_block (Y := fun i y => ∃ f, fs[i]? = some f ∧ ∃ t', y = .int (g i f) t') (RR := fun acc C => compPost (model prog w) A E none Q acc C) hh (Nat.succ_ne_self _) (Nat.ne_of_lt (Nat.lt_succ_of_lt hlt)) (Nat.ne_of_lt hlt) hE hIt (hl.at fun o x => hk l o x)
    (by rw [List.size_toArray, sizeLine_eq]; omega) hcell hkind hxa hxb hab ?_ ?_
  · intro C i x t h tk m₃ E' hx hn ha hb hbut
    obtain ⟨f, tf, rfl, hf⟩ := int_item hI (by simpa using hx)
    exact wpAny_mono (helt C i f t tf h tk m₃ E' hf hn ha hb fun p hp => ⟨keepN h hbut _ _ (N p hp).1, (N p hp).2⟩) (fun y s₄ h4 => ⟨⟨f, hf, h4.1⟩, h4.2⟩) fun _ _ e => e
  · intro D C h tk m' ys hDge hCge hCD hn hD hlen hY hbut
    refine ⟨m', hn, fun h'' hs'' => ?_⟩
    have hk2 : ∀ c o, s.heap.get? c = some o → h''.get? c = some o := fun c o x =>
      hs''.extBut c o (Nat.ne_of_lt (Nat.lt_of_lt_of_le (Heap.lt_size x) (Nat.le_trans big hCge))) (keepN h hbut c o x)
    have hLs : L < s.heap.objs.size := F.ns.lt
    have hLD : L < D := Nat.lt_of_lt_of_le hLs (Nat.le_trans big hDge)
    refine ret D ys h'' tk ⟨F.ns.at' fun o x => hk2 _ o x, fun c o x => hk2 c o (F.keep c o x), F.above⟩ (fun p hp => ?_) (fun q hq => Nat.lt_of_lt_of_le (Heap.lt_size (N q hq).1) (Nat.le_trans big hDge)) ?_
    · rcases List.mem_cons.mp hp with rfl | hp
      · exact ⟨hs''.extBut _ _ (Ne.symm hCD) hD, Nat.ne_of_gt hLD, Heap.get?_none_of_le (Nat.le_trans F.above (Nat.le_of_lt hLD))⟩
      · exact ⟨hk2 _ _ (N p hp).1, (N p hp).2⟩
    · refine kdy_ints ?_ fun j y hy => ?_
      · rw [hlen, List.size_toArray, hI.length, List.length_mapIdx]
      · obtain ⟨f, hf, t', rfl⟩ := hY j y hy
        exact ⟨g j f, by rw [List.getElem?_mapIdx, hf]; rfl, t', rfl⟩
end
end Mine
end
section
open PySem PySem.W PyProof.Rows PyProof.V PySem.Spec PySem.Calls PyProof.Rows.LCg
set_option maxRecDepth 100000
namespace Mine
section
variable {prog : Program} {w : World} {A : Around} {E : Value → Shared → Prop} {s : Shared} {env : Env} {h₀ : Heap} {L : Addr} {m : Str → Option Value} {news : List (Addr × Obj)}
theorem sum_led {l : Addr} {vs : List Value} {ns : List Int} {nn : Nat} {Q : Value → Shared → Prop} (hh : A.handled = none) (F : Fr h₀ L s.heap m) (N : News h₀ L s.heap news) (hm : (l, W.listOf vs.toArray nn) ∈ news) (hi : IntsAre vs ns)
    (h : ∀ h' tk t', Fr h₀ L h' m → News h₀ L h' news → Q (.int ns.sum t') { s with heap := h', toks := tk }) :
    wpAny (model prog w) A (call (.builtin "sum") [.ref l]) Q E s :=
  sumK hh F N ⟨_, (N _ hm).1, rfl, nn, rfl⟩ hi h
theorem len_led {l : Addr} {vs : List Value} {ns : List Int} {nn : Nat} {Q : Value → Shared → Prop} (N : News h₀ L s.heap news) (hm : (l, W.listOf vs.toArray nn) ∈ news) (hi : IntsAre vs ns) (hl : ns.length ≤ 64)
    (h : ∀ t' tk, Q (.int (ns.length : Int) t') { s with toks := tk }) :
    wpAny (model prog w) A (call (.builtin "len") [.ref l]) Q E s := by
  have h1 : s.heap.IsList l vs.toArray := ⟨_, (N _ hm).1, rfl, nn, rfl⟩
  have e : vs.toArray.size = ns.length := by simp [hi.length]
  refine len_list h1 (by rw [e]; omega) ?_
  rw [e]
  exact h _ _
theorem elt_pow {scope : Scope} {cl : List (Str × Addr)} {p1 p2 p3 p4 p5 : Pos} {c : Addr} {o : Obj} {b : Int} {tb : Tok} {f : Int} {i : Nat} {t tf : Tok} {h : Heap} {tk : Nat} {m₃ : Str → Option Value} {C : Addr} {E' : Value → Shared → Prop}
    (hk : scope.kind = .function) (hf : scope.names.lookup (PySem.Str.ofString "figure") = some .local) (hp : scope.names.lookup (PySem.Str.ofString "place") = some .local)
    (hx : (compEnvC scope cl C env).kindOf (PySem.Str.ofString "base") = some .cell) (hc : cl.lookup (PySem.Str.ofString "base") = some c) (N : News h₀ L h news) (hm : (c, o) ∈ news) (hd : o.data = .cell (some (.int b tb)))
    (hn : h.Ns C m₃) (ha : m₃ (PySem.Str.ofString "place") = some (.int i t)) (hb : m₃ (PySem.Str.ofString "figure") = some (.int f tf)) (hb2 : b.natAbs < 2 ^ 64) (hfb : 0 ≤ f ∧ f < 2 ^ 60) (hi : i ≤ 1000000) :
    wpAny (model prog w) A (eval (.BinOp (.Name (PySem.Str.ofString "figure") p1) .Mult (.BinOp (.Name (PySem.Str.ofString "base") p2) .Pow (.Name (PySem.Str.ofString "place") p3) p4) p5) (compEnvC scope cl C env))
      (fun y s₄ => (∃ t', y = .int (f * b ^ i) t') ∧ ∃ tk', s₄ = { s with heap := h, toks := tk' }) E' { s with heap := h, toks := tk } := by
  refine wpAny_BinOp (wpAny_Name (wpAny_loadName_local hk (lookup_relabel_local hf) hn hb ?_))
  refine wpAny_BinOp (wpAny_Name (wpAny_loadName_cell hk hx hc ⟨o, N.get hm, hd⟩ ?_))
  refine wpAny_Name (wpAny_loadName_local hk (lookup_relabel_local hp) hn ha ?_)
  refine pow_int_small (by omega) (by omega) hb2 ?_
  exact mul_int ⟨⟨_, by rw [Int.toNat_natCast]⟩, _, rfl⟩ (PySem.IntMulOk.of_left (PySem.intBits_le_64 (by omega) (by omega)))
end
end Mine
end
section
open PySem PySem.W PyProof.Rows PyProof.V PySem.Spec PySem.Calls
set_option maxRecDepth 100000
namespace Mine
section
variable {prog : Program} {w : World} {A : Around} {E : Value → Shared → Prop} {s : Shared} {env : Env} {h₀ : Heap} {x : Str} {body : List Stmt} {Q : Flow → Shared → Prop}
theorem range_loopc {c : Int} {r : Addr} {a₀ b₀ : Int} {t₀ u₀ v₀ : Tok} {n : Nat} {m₀ : Str → Option Value} {news : List (Addr × Obj)} (J : Nat → (Str → Option Value) → List (Addr × Obj) → Prop)
    (hh : A.handled = none) (hr : IsRange s.heap r a₀ b₀ c t₀ u₀ v₀) (hsmall : Builtin.Range.small a₀ b₀ c = true) (hn : Builtin.Range.rangeSize a₀ b₀ c = (n : Int)) (F : Fr h₀ env.locals s.heap m₀) (N : News h₀ env.locals s.heap news) (hj : J 0 m₀ news)
    (turn : ∀ I i t m₁ news₁ h tk own o, (∀ p ∈ news, p.1 < I) → i < n → J i m₁ news₁ → (∀ p ∈ news₁, p.1 ≠ I) → (∀ p ∈ own, p.1 = I) → (I, o) ∈ own → Fr h₀ env.locals h (fun y => if y = x then some (.int (a₀ + (i : Int) * c) t) else m₁ y) → News h₀ env.locals h (news₁ ++ own) →
      wpAny (model prog w) A (execs body env) (TEnd h₀ env.locals [I] own (J (i + 1)) { s with heap := h, toks := tk } Q) E { s with heap := h, toks := tk })
    (done : ∀ m₁ news₁ h tk, J n m₁ news₁ → Fr h₀ env.locals h m₁ → News h₀ env.locals h news₁ → Q .next { s with heap := h, toks := tk }) :
    wpAny (model prog w) A (pyIter (.ref r)) (fun it s₂ => LoopAtV prog w A h₀ env x body Q E it s₂) E s := by
  refine wpAny_pyIter_range hr hsmall ?_
  have W : Walks prog w A s.heap.objs.size [s.heap.objs.size] [s.heap.objs.size] n (fun i v => ∃ t, v = .int (a₀ + i * c) t)
      (fun i h => IsRangeIter h s.heap.objs.size (a₀ + (i : Nat) * c) ((n : Int) - (i : Nat)) c) := Walks.range hh _ a₀ c n
  refine my_loop2 J W (fun hm => absurd F.ns.lt ((List.mem_singleton.mp hm) ▸ Nat.lt_irrefl _)) (fun b hb => by rw [List.mem_singleton.mp hb]; exact next_is_new F)
    (fun p hp hI => absurd (Heap.lt_size (N p hp).1) ((List.mem_singleton.mp hI) ▸ Nat.lt_irrefl _)) (by show IsRangeIter _ _ _ _ _; rw [hn]; simpa using Heap.get?_push_size _ rfl) (F.push _) (fun p hp => ⟨Heap.get?_push_of_some _ (N p hp).1, (N p hp).2⟩) hj ?_ ?_
  · rintro i v m₁ news₁ h tk own hi ⟨t, rfl⟩ hJ ho hw hall hst F₁ N₁
    exact turn s.heap.objs.size i t m₁ news₁ h tk own _ (fun p hp => Heap.lt_size (N p hp).1) hi hJ (fun p hp e => ho p hp (List.mem_singleton.mpr e)) (fun p hp => List.mem_singleton.mp (hw p hp)) (hall _ (.head _) (next_is_new F) _ hst) F₁ N₁
  · intro m₁ news₁ h tk hJ ho F₁ N₁
    exact done m₁ news₁ h tk hJ F₁ N₁
theorem list_loop {l : Addr} {vs : List Value} {nn : Nat} {m₀ : Str → Option Value} {news : List (Addr × Obj)} (J : Nat → (Str → Option Value) → List (Addr × Obj) → Prop)
    (hh : A.handled = none) (F : Fr h₀ env.locals s.heap m₀) (N : News h₀ env.locals s.heap ((l, W.listOf vs.toArray nn) :: news)) (hoff : ∀ p ∈ news, p.1 ≠ l) (hj : J 0 m₀ news)
    (turn : ∀ I i v m₁ news₁ h tk own, (∀ p ∈ news, p.1 < I) → l < I → vs[i]? = some v → J i m₁ news₁ → (∀ p ∈ own, p.1 = I ∨ p.1 = l) → (∃ o, (I, o) ∈ own) → (∃ o, (l, o) ∈ own) → (∀ p ∈ news₁, p.1 ≠ I) → Fr h₀ env.locals h (fun y => if y = x then some v else m₁ y) → News h₀ env.locals h (news₁ ++ own) →
      wpAny (model prog w) A (execs body env) (TEnd h₀ env.locals [I] own (J (i + 1)) { s with heap := h, toks := tk } Q) E { s with heap := h, toks := tk })
    (done : ∀ m₁ news₁ h tk, J vs.length m₁ news₁ → Fr h₀ env.locals h m₁ → News h₀ env.locals h news₁ → Q .next { s with heap := h, toks := tk }) :
    wpAny (model prog w) A (pyIter (.ref l)) (fun it s₂ => LoopAtV prog w A h₀ env x body Q E it s₂) E s := by
  have hax := N _ (.head _)
  have hl : s.heap.IsList l vs.toArray := ⟨_, hax.1, rfl, nn, rfl⟩
  have hlI : l < s.heap.objs.size := Heap.lt_size hax.1
  refine wpAny_pyIter_list hl ?_
  have W := Walks.list (prog := prog) (w := w) hh s.heap.objs.size l (Nat.ne_of_lt hlI) vs.toArray
  have hlen : vs.toArray.size = vs.length := by simp
  rw [hlen] at W
  refine my_loop2 J W (fun hmm => ?_) (fun b hb => by rw [List.mem_singleton.mp hb]; exact next_is_new F) (fun p hp hI => absurd (Heap.lt_size (N p (.tail _ hp)).1) ((List.mem_singleton.mp hI) ▸ Nat.lt_irrefl _)) ⟨?_, ?_⟩ (F.push _) (fun p hp => ⟨Heap.get?_push_of_some _ (N p (.tail _ hp)).1, (N p (.tail _ hp)).2⟩) hj ?_ ?_
  · rcases List.mem_cons.mp hmm with e | hmm
    · exact absurd F.ns.lt (e ▸ Nat.lt_irrefl _)
    · exact hax.2.1 (List.mem_singleton.mp hmm).symm
  · exact ⟨_, Heap.get?_push_size _ rfl, rfl, rfl⟩
  · exact hl.at fun o e => Heap.get?_push_of_some _ e
  · rintro i v m₁ news₁ h tk own hi hP hJ ho hw hall hst F₁ N₁
    obtain ⟨o1, e1, _⟩ := hst.1
    obtain ⟨o2, e2, _⟩ := hst.2
    refine turn s.heap.objs.size i v m₁ news₁ h tk own (fun p hp => Heap.lt_size (N p (.tail _ hp)).1) hlI (by simpa using hP) hJ (fun p hp => ?_) ⟨o1, hall _ (.head _) (next_is_new F) _ e1⟩ ⟨o2, hall _ (.tail _ (.head _)) hax.2.2 _ e2⟩ (fun p hp e => ho p hp (List.mem_singleton.mpr e)) F₁ N₁
    rcases List.mem_cons.mp (hw p hp) with e | e
    · exact .inl e
    · exact .inr (List.mem_singleton.mp e)
  · intro m₁ news₁ h tk hJ ho F₁ N₁
    exact done m₁ news₁ h tk hJ F₁ N₁
end
end Mine
end
section
open PySem PySem.W PyProof.Rows PySem.Spec PySem.Calls
set_option Elab.async false
set_option maxRecDepth 100000
namespace Mine
noncomputable def at15 : List Stmt → Stmt
  | _ :: _ :: _ :: _ :: _ :: _ :: _ :: _ :: _ :: _ :: _ :: _ :: _ :: _ :: _ :: s :: _ => s
  | _ => .Pass ⟨0, 0, 0, 0⟩
noncomputable def second : List Stmt → Stmt
  | _ :: s :: _ => s
  | _ => .Pass ⟨0, 0, 0, 0⟩
noncomputable def loopBody : Stmt → List Stmt
  | .For _ _ b _ _ => b
  | _ => []
noncomputable def lawDef : { s : Stmt // at15 PySem.Challenge.pw_ht0001_01.main.body = s } := by
  refine ⟨?s, ?h⟩
  case h =>
    dsimp only [PySem.Challenge.pw_ht0001_01, at15]
    exact rfl
noncomputable def lawScope : { s : Scope // scopeOf lawDef.1 = s } := by
  refine ⟨?s, ?h⟩
  case h =>
    dsimp only [lawDef, scopeOf]
    exact rfl
noncomputable def lawTurn : { s : List Stmt // loopBody (second (bodyOf lawDef.1)) = s } := by
  refine ⟨?s, ?h⟩
  case h =>
    dsimp only [lawDef, bodyOf, second, loopBody]
    exact rfl
noncomputable def numTurn : { s : List Stmt // loopBody (second lawTurn.1) = s } := by
  refine ⟨?s, ?h⟩
  case h =>
    dsimp only [lawTurn, second, loopBody]
    exact rfl

end Mine
end
section
open PySem PySem.W PyProof.Rows PySem.Spec PySem.Calls
set_option Elab.async false
set_option maxRecDepth 100000
namespace Mine

def In1 (w : World) (n : Nat) (f d : Addr) (rest : List (Addr × Obj)) (K : Nat) : Prop :=
  ∀ (x lo hi : Int) (tx tl th : Tok) (its : List Value) (ns : List Int) (nn : Nat) (p : Program) (loose : List Str) (mean : ExcName → Option Value) (mg mb : Str → Option Value) (dp un : Nat) (gd : Option (List Code)) (cn : Str) (cs : Scope) (a' : Addr) (ccd : Value) (cl : List (Str × Addr)) (outer : List Env) (A₀ : Around) (base h₀ : Heap) (L : Addr) (m : Str → Option Value) (s : Shared) (Q E : Value → Shared → Prop),
    Below A₀ base outer h₀ → Fr h₀ L s.heap m → (Mine.hd.heap_39 w.params).In h₀ → Top p loose mean mg mb h₀ → cs.kind = .function → News h₀ L s.heap ((d, W.listOf its.toArray nn) :: rest) → IntsAre its ns →
    0 ≤ lo → lo < hi → hi ≤ ns.length → ns.length ≤ 64 → (hi - lo).toNat ≤ K → 0 ≤ x → x < 2 ^ 60 → x < 2 ^ (n * (hi - lo).toNat) → dp + K < recursionLimit → un + 8 * K < cLine →
    (∀ its' h' tk', Fr h₀ L h' m → News h₀ L h' ((d, W.listOf its'.toArray nn) :: rest) → IntsAre its' (lay ns lo.toNat (ds n x (hi - lo).toNat)) → Q .none { s with heap := h', toks := tk' }) →
    wpAny (model PySem.Challenge.rw_ht0001_01.row.prog w) (ktrTop dp un gd cn cs L a' ccd cl outer) (call (.ref f) [.int x tx, .int lo tl, .int hi th]) Q E s
theorem In1.use {w : World} {n : Nat} {f d : Addr} {rest : List (Addr × Obj)} {K : Nat} {x lo hi : Int} {tx tl th : Tok} {its : List Value} {ns : List Int} {nn : Nat} {p : Program} {loose : List Str} {mean : ExcName → Option Value} {mg mb : Str → Option Value} {dp un : Nat} {gd : Option (List Code)} {cn : Str} {cs : Scope} {a' : Addr} {ccd : Value} {cl : List (Str × Addr)} {outer : List Env} {A₀ : Around} {base h₀ : Heap} {L : Addr} {m : Str → Option Value} {s : Shared} {Q E : Value → Shared → Prop}
    (H : In1 w n f d rest K) (B : Below A₀ base outer h₀) (F : Fr h₀ L s.heap m) (X : (Mine.hd.heap_39 w.params).In h₀) (T : Top p loose mean mg mb h₀) (hk : cs.kind = .function) (N : News h₀ L s.heap ((d, W.listOf its.toArray nn) :: rest)) (hI : IntsAre its ns)
    (a1 : 0 ≤ lo) (a2 : lo < hi) (a3 : hi ≤ ns.length) (a4 : ns.length ≤ 64) (a5 : (hi - lo).toNat ≤ K) (a6 : 0 ≤ x) (a7 : x < 2 ^ 60) (a8 : x < 2 ^ (n * (hi - lo).toNat)) (hd : dp + K < recursionLimit) (hu : un + 8 * K < cLine)
    (ret : ∀ its' h' tk', Fr h₀ L h' m → News h₀ L h' ((d, W.listOf its'.toArray nn) :: rest) → IntsAre its' (lay ns lo.toNat (ds n x (hi - lo).toNat)) → Q .none { s with heap := h', toks := tk' }) :
    wpAny (model PySem.Challenge.rw_ht0001_01.row.prog w) (ktrTop dp un gd cn cs L a' ccd cl outer) (call (.ref f) [.int x tx, .int lo tl, .int hi th]) Q E s :=
  H _ _ _ _ _ _ _ _ _ _ _ _ _ _ _ _ _ _ _ _ _ _ _ _ _ _ _ _ _ _ _ B F X T hk N hI a1 a2 a3 a4 a5 a6 a7 a8 hd hu ret

theorem emod_le {x : Int} (h : 0 ≤ x) (k : Nat) : x % 2 ^ k ≤ x := by
  have h1 := Int.mul_nonneg (Int.le_of_lt (two_pow_pos k)) (Int.ediv_nonneg h (Int.le_of_lt (two_pow_pos k)))
  rw [Int.emod_def]; omega
local macro_rules | `(tactic| k_all) => `(tactic| with_reducible assumption)
local macro_rules | `(tactic| walk_at "eval Name") => `(tactic| (k_here; k_dflt (refine' nameX_F ?N ?c ?m ?d ?_ ?a ?b; (case a => rfl); (case b => rfl); (case N => k_asm); (case c => rfl); (case m => exact List.mem_cons_of_mem _ (by with_reducible assumption)); (case d => k_asm); k_whole)))
local macro_rules | `(tactic| walk_at "callWith ref") => `(tactic| (k_here; k_dflt (refine' callWith_F ?k1 ?_; (case k1 => exact FnAt.of (by k_asm) (List.mem_cons_of_mem _ (by assumption))); k_whole)))
local macro_rules | `(tactic| walk_at "FnAt") => `(tactic| (k_dflt (exact FnAt.of (by k_asm) (List.mem_cons_of_mem _ (by assumption)))))
local macro_rules | `(tactic| walk_at "call ref") => `(tactic| (k_here; k_dflt (refine' In1.use ?H ?B ?F ?X ?T ?hk ?N ?hI ?a1 ?a2 ?a3 ?a4 ?a5 ?a6 ?a7 ?a8 ?hd ?hu ?_; (case H => assumption); (case B => k_asm); (case F => k_asm); (case X => k_asm); (case T => k_asm); (case hk => first | exact rfl | assumption); (case N => k_asm); (case hI => with_reducible assumption); (case a1 => omega); (case a2 => omega); (case a3 => omega); (case a4 => omega); (case a5 => omega); (case a6 => first | assumption | omega); (case a7 => first | assumption | omega); (case a8 => assumption); (case hd => ktr_room); (case hu => ktr_units); k_whole); intro its' h' tk' F' N' hI'; (have hI2' := hI'.length); (try dsimp only)))
set_option maxHeartbeats 1000000 in
theorem in1_c {w : World} {n : Nat} {tn : Tok} {f c' d kd ki kn : Addr} {qual : Str} {doc pm ctv : Value} {oc od oi on : Obj} {vs : Array Value} {t : Tok} {rest : List (Addr × Obj)}
    (mf : (f, fnMade (PySem.Str.ofString "inner") qual in1args.1 in1body.1 in1scope.1 [(PySem.Str.ofString "n", kn), (PySem.Str.ofString "inner", ki), (PySem.Str.ofString "a_digits", kd)] doc pm c' ctv) ∈ rest)
    (mc : (c', oc) ∈ rest) (hoc : oc.data = .fields vs) (hvs : vs[1]? = some (.str qual t)) (md : (kd, od) ∈ rest) (hod : od.data = .cell (some (.ref d))) (mi : (ki, oi) ∈ rest) (hoi : oi.data = .cell (some (.ref f)))
    (mn : (kn, on) ∈ rest) (hon : on.data = .cell (some (.int n tn))) (hne : ∀ q ∈ rest, q.1 ≠ d) (n0 : 0 < n) (n1 : n < 100) : ∀ K, In1 w n f d rest K := by
  intro K
  induction K with
  | zero => unfold In1; intros; omega
  | succ K ih =>
    unfold In1
    intro x lo hi tx tl th its ns nn p loose mean mg mb dp un gd cn cs a' ccd cl outer A₀ base h₀ L m s Q E B F X T hk N hI hlo hlh hhi hlen hK hx0 hx2 hx1 hd hu hret
    w_top off
    revert X; k_fill; intro X
    have C : CodeHd h₀ 34 30 := codeHd_of_K X (by kernel_rfl)
    dsimp only [in1args, in1body, in1scope] at mf
    have hM := mid_facts hlo hlh
    have hP0 : 0 ≤ ((lo + hi).fdiv (2 ^ Int.toNat 1) - lo) * (n : Int) := Int.mul_nonneg (by omega) (by omega)
    have hP1 : ((lo + hi).fdiv (2 ^ Int.toNat 1) - lo) * (n : Int) ≤ 64 * 100 := Int.le_trans (Int.mul_le_mul_of_nonneg_right (c := (n : Int)) (show _ ≤ 64 by omega) (by omega)) (Int.mul_le_mul_of_nonneg_left (by omega) (by omega))
    have hP2 : (((lo + hi).fdiv (2 ^ Int.toNat 1) - lo) * (n : Int)).toNat = n * ((lo + hi).fdiv (2 ^ Int.toNat 1) - lo).toNat := by
      obtain ⟨j, hj⟩ : ∃ j : Nat, ((lo + hi).fdiv (2 ^ Int.toNat 1) - lo) = j := ⟨((lo + hi).fdiv (2 ^ Int.toNat 1) - lo).toNat, by omega⟩
      rw [hj, ← Int.natCast_mul, Int.toNat_natCast, Int.toNat_natCast, Nat.mul_comm]
    have hU := div_pow_le hx0 (((lo + hi).fdiv (2 ^ Int.toNat 1) - lo) * (n : Int)).toNat
    rw [← fdiv_pow] at hU
    have hX := xor_low hx0 (((lo + hi).fdiv (2 ^ Int.toNat 1) - lo) * (n : Int)).toNat
    have hL0 : 0 ≤ Builtin.bitXor x (x.fdiv (2 ^ (((lo + hi).fdiv (2 ^ Int.toNat 1) - lo) * (n : Int)).toNat) * 2 ^ (((lo + hi).fdiv (2 ^ Int.toNat 1) - lo) * (n : Int)).toNat) := by
      rw [hX]; exact Int.emod_nonneg _ (Int.ne_of_gt (two_pow_pos _))
    have hL1 : Builtin.bitXor x (x.fdiv (2 ^ (((lo + hi).fdiv (2 ^ Int.toNat 1) - lo) * (n : Int)).toNat) * 2 ^ (((lo + hi).fdiv (2 ^ Int.toNat 1) - lo) * (n : Int)).toNat) < 2 ^ (n * ((lo + hi).fdiv (2 ^ Int.toNat 1) - lo).toNat) := by
      rw [hX, hP2]; exact Int.emod_lt_of_pos _ (two_pow_pos _)
    have hL2 : Builtin.bitXor x (x.fdiv (2 ^ (((lo + hi).fdiv (2 ^ Int.toNat 1) - lo) * (n : Int)).toNat) * 2 ^ (((lo + hi).fdiv (2 ^ Int.toNat 1) - lo) * (n : Int)).toNat) < 2 ^ 60 := by
      rw [hX]; refine Int.lt_of_le_of_lt ?_ hx2; exact emod_le hx0 _
    have hLy : (lay ns lo.toNat (ds n (Builtin.bitXor x (x.fdiv (2 ^ (((lo + hi).fdiv (2 ^ Int.toNat 1) - lo) * (n : Int)).toNat) * 2 ^ (((lo + hi).fdiv (2 ^ Int.toNat 1) - lo) * (n : Int)).toNat)) ((lo + hi).fdiv (2 ^ Int.toNat 1) - lo).toNat)).length = ns.length :=
      lay_length (by rw [ds_length]; omega)
    have hU8 : x.fdiv (2 ^ (((lo + hi).fdiv (2 ^ Int.toNat 1) - lo) * (n : Int)).toNat) < 2 ^ (n * (hi - (lo + hi).fdiv (2 ^ Int.toNat 1)).toNat) := by
      rw [fdiv_pow, hP2]
      refine high_lt ?_
      rw [show ((lo + hi).fdiv (2 ^ Int.toNat 1) - lo).toNat + (hi - (lo + hi).fdiv (2 ^ Int.toNat 1)).toNat = (hi - lo).toNat by omega]
      exact hx1
    refine wpAny_call ?_
    k_dflt (refine' code_nest ?k1 ?k2 ?k3 ?k4 ?k5 ?kA ?kF ?kK ?k6 ?k7 ?k8 ?k9 ?kB ?_ ?c2 ?c3 ?c4 ?c5; (case kA => exact rfl); (case kF => exact rfl); (case kK => assumption); (case k1 => k_asm); (case k2 => k_asm); (case k3 => k_asm); (case k4 => k_asm); (case k5 => k_asm); (case k6 => exact List.Mem.tail _ mf); (case k7 => exact codeRec_news (by k_asm) (List.Mem.tail _ mc) (by assumption) (by assumption)); (case k8 => ktr_room); (case k9 => exact BindsTo.of_eq rfl); (case c5 => decide); (case kB => exact locs rfl); (case c2 => exact rfl); (case c3 => exact rfl); (case c4 => exact rfl); k_whole)
    intro g' L' h' FG' F' N' B' X' T'
    (try dsimp only)
    (try k_lift B')
    (try k_fold)
    k_steps
    · rename_i hI' _ _ kF kN _ _
      refine hret _ _ _ kF kN ?_
      have h1 : (hi - lo).toNat = 1 := by omega
      rw [h1, ds_one hx0 (by rw [h1, Nat.mul_one] at hx1; exact hx1), ← lay_one (by omega)]
      exact hI'
    · rename_i hI' _ kF kN _ _
      refine hret _ _ _ kF kN ?_
      rw [lay_join hx0 hP2 (hi := hi.toNat) (c := (hi - lo).toNat) (by omega) (by omega) (by omega) (by omega)] at hI'
      exact hI'
end Mine
end
section
open PySem PySem.W PyProof.Rows PySem.Spec PySem.Calls
set_option Elab.async false
set_option maxRecDepth 100000
namespace Mine

/-! ledgers: take an entry to the front; a tail's addresses -/
inductive Took (x : Addr × Obj) : List (Addr × Obj) → List (Addr × Obj) → Prop
  | head {l} : Took x (x :: l) l
  | tail {y l l'} : Took x l l' → Took x (y :: l) (y :: l')
theorem Took.mem {x : Addr × Obj} {l l' : List (Addr × Obj)} (t : Took x l l') : ∀ q, q ∈ x :: l' → q ∈ l := by
  induction t with
  | head => exact fun q h => h
  | tail _ ih =>
    intro q h
    rcases List.mem_cons.mp h with rfl | h
    · exact .tail _ (ih _ (.head _))
    · rcases List.mem_cons.mp h with rfl | h
      · exact .head _
      · exact .tail _ (ih _ (.tail _ h))
theorem News.took {h₀ h : Heap} {L : Addr} {x : Addr × Obj} {l l' : List (Addr × Obj)} (N : News h₀ L h l) (t : Took x l l') : News h₀ L h (x :: l') := fun q hq => N q (t.mem q hq)
theorem nd_nonneg {k : Nat} {n : Int} (h : 0 < n) : 0 ≤ ((k : Int) + n - 1).fdiv n := by
  rw [Int.fdiv_eq_ediv_of_nonneg _ (by omega)]
  exact Int.ediv_nonneg (by omega) (by omega)
theorem nd_le {k K : Nat} {n : Int} (h : 0 < n) (hk : k ≤ K) : ((k : Int) + n - 1).fdiv n ≤ K := by
  rw [Int.fdiv_eq_ediv_of_nonneg _ (by omega)]
  have h1 : ((k : Int) + n - 1) / n < (K : Int) + 1 := by
    apply Int.ediv_lt_of_lt_mul h
    have : (K : Int) * 1 ≤ K * n := Int.mul_le_mul_of_nonneg_left (by omega) (by omega)
    rw [Int.add_mul]; omega
  omega
theorem nd_mul {k : Nat} {n : Nat} (h : 0 < n) : k ≤ n * (((k : Int) + n - 1).fdiv n).toNat := by
  have h0 := nd_nonneg (k := k) (n := (n : Int)) (by omega)
  obtain ⟨j, hj⟩ : ∃ j : Nat, ((k : Int) + n - 1).fdiv n = j := ⟨(((k : Int) + n - 1).fdiv n).toNat, by omega⟩
  rw [hj, Int.toNat_natCast]
  have h2 : ((k : Int) + n - 1) / n = j := by rw [← hj, Int.fdiv_eq_ediv_of_nonneg _ (by omega)]
  have h3 := Int.emod_add_mul_ediv ((k : Int) + n - 1) n
  have h4 := Int.emod_lt_of_pos ((k : Int) + n - 1) (show (0 : Int) < n by omega)
  rw [h2] at h3
  have h5 : ((n * j : Nat) : Int) = (n : Int) * j := by push_cast; rfl
  omega
theorem lt_two_pow_bits {a : Int} (h : 0 ≤ a) : a < 2 ^ Builtin.Int.intBits a := by
  have h1 := (intBits_le_iff (m := Builtin.Int.intBits a) (x := a)).mp (Nat.le_refl _)
  have h2 : ((2 ^ Builtin.Int.intBits a : Nat) : Int) = 2 ^ Builtin.Int.intBits a := by push_cast; rfl
  omega
theorem pow_mono {a : Int} {i j : Nat} (h : a < 2 ^ i) (hij : i ≤ j) : a < 2 ^ j := by
  obtain ⟨k, rfl⟩ := Nat.exists_eq_add_of_le hij
  rw [Int.pow_add]
  have h1 : (2 : Int) ^ i * 1 ≤ 2 ^ i * 2 ^ k := Int.mul_le_mul_of_nonneg_left (two_pow_pos k) (Int.le_of_lt (two_pow_pos i))
  omega
theorem lt_pow_nd {a : Int} {n : Nat} (h : 0 ≤ a) (hn : 0 < n) : a < 2 ^ (n * (((Builtin.Int.intBits a : Int) + n - 1).fdiv n).toNat) := pow_mono (lt_two_pow_bits h) (nd_mul hn)
theorem nd_pos {a : Int} {n : Nat} (h : 0 ≤ a) (ha : a ≠ 0) (hn : 0 < n) : 0 < ((Builtin.Int.intBits a : Int) + n - 1).fdiv n := by
  have h0 := nd_nonneg (k := Builtin.Int.intBits a) (n := (n : Int)) (by omega)
  have h1 := lt_pow_nd h hn
  by_cases e : ((Builtin.Int.intBits a : Int) + n - 1).fdiv n = 0
  · rw [e] at h1
    simp at h1
    omega
  · omega
theorem flat_replicate {α : Type} (x : α) (k : Nat) : (List.replicate k [x]).flatten = List.replicate k x := by
  induction k with
  | zero => rfl
  | succ k ih => rw [List.replicate_succ, List.flatten_cons, ih, List.replicate_succ]; rfl
theorem lay_whole {ns l : List Int} (h : l.length = ns.length) : lay ns 0 l = l := by
  unfold lay
  simp [h]

theorem i2d_end {its : List Value} {ns : List Int} {n k : Nat} {a nd : Int} (h : IntsAre its (lay ns (Int.toNat 0) (ds n a ((k : Int) - 0).toNat))) (e1 : ns.length = k) (e3 : 0 ≤ nd → (k : Int) = ((0 + 1 : Nat) : Int) * nd) (h0 : 0 ≤ nd) :
    IntsAre its (ds n a nd.toNat) := by
  have e := e3 h0
  have e2 : ((k : Int) - 0).toNat = nd.toNat := by omega
  rw [e2] at h
  rw [show Int.toNat 0 = 0 from rfl, lay_whole (by rw [ds_length]; omega)] at h
  exact h
theorem nd_zero {a : Int} {n : Nat} (ha : a = 0) (hn : 0 < n) : ((Builtin.Int.intBits a : Int) + n - 1).fdiv n = 0 := by
  have hz : Builtin.Int.intBits a = 0 := by
    have := (intBits_le_iff (m := 0) (x := a)).mpr (by subst ha; decide)
    omega
  rw [hz, Int.fdiv_eq_ediv_of_nonneg _ (by omega)]
  exact Int.ediv_eq_zero_of_lt (by omega) (by omega)
theorem i2d_none {n : Nat} {a : Int} {v : Value} (ha : a = 0) (hn : 0 < n) : IntsAre (List.replicate (((Builtin.Int.intBits a : Int) + n - 1).fdiv n).toNat [v]).flatten (ds n a (((Builtin.Int.intBits a : Int) + n - 1).fdiv n).toNat) := by
  rw [nd_zero ha hn]
  exact .nil
local macro_rules | `(tactic| k_all) => `(tactic| (refine' ne_of_allLt (by assumption) ?hd; (case hd => omega)))
local macro_rules | `(tactic| k_all) => `(tactic| with_reducible assumption)
set_option hygiene false in
local macro_rules | `(tactic| walk_at "call ref") => `(tactic| (k_here; k_dflt (refine' In1.use (in1_c ?mf ?mc ?hoc ?hvs ?md ?hod ?mi ?hoi ?mn ?hon ?hne ?n0 ?n1 64) ?B ?F ?X ?T ?hk (News.took ?N ?tk) ?hI ?a1 ?a2 ?a3 ?a4 ?a5 ?a6 ?a7 ?a8 ?hd ?hu ?_; (case N => k_asm); (case tk => (first | exact Took.head | exact Took.tail Took.head | exact Took.tail (Took.tail Took.head) | exact Took.tail (Took.tail (Took.tail Took.head)))); (case mf => k_mem); (case mc => k_mem); (case hoc => assumption); (case hvs => assumption); (case md => k_mem); (case hod => assumption); (case mi => k_mem); (case hoi => assumption); (case mn => k_mem); (case hon => assumption); (case hne => k_all); (case n0 => omega); (case n1 => omega); (case B => k_asm); (case F => k_asm); (case X => k_asm); (case T => k_asm); (case hk => exact rfl); (case hI => with_reducible assumption); (case a1 => omega); (case a2 => omega); (case a3 => omega); (case a4 => omega); (case a5 => omega); (case a6 => omega); (case a7 => omega); (case a8 => exact hK3 _ (by omega)); (case hd => ktr_room); (case hu => ktr_units); k_whole); intro its' h' tk' F' N' hI'; (try dsimp only)))

set_option maxHeartbeats 1000000 in
theorem i2d_c {w : World} {a : Int} {n : Nat} {ta tn : Tok} {tb news : List (Addr × Obj)} {p : Program} {loose : List Str} {mean : ExcName → Option Value} {mg mb : Str → Option Value} {dp un : Nat} {gd : Option (List Code)} {cn : Str} {cs : Scope} {a' : Addr} {ccd : Value} {cl : List (Str × Addr)} {outer : List Env} {A₀ : Around} {base h₀ : Heap} {L : Addr} {m : Str → Option Value} {s : Shared} {Q E : Value → Shared → Prop}
    (B : Below A₀ base outer h₀) (F : Fr h₀ L s.heap m) (X : (Mine.hd.heap_39 w.params).In h₀) (T : Top p loose mean mg mb h₀) (hk : cs.kind = .function) (N : News h₀ L s.heap (tb ++ news)) (hT : Tab 30 32 q1 tb) (hne : ∀ q ∈ news, q.1 ≠ 30)
    (h0 : 0 ≤ a) (h1 : a < 2 ^ 60) (h2 : 0 < n) (h3 : n < 100) (hd : dp + 70 < recursionLimit) (hu : un + 560 < cLine)
    (hret : ∀ r its tb' h' tk', Fr h₀ L h' m → News h₀ L h' ((r, W.listOf (List.toArray its) 0) :: (tb' ++ news)) → IntsAre its (ds n a (((Builtin.Int.intBits a : Int) + n - 1).fdiv n).toNat) → Tab 30 32 q1 tb' → (∀ q ∈ tb ++ news, q.1 < r) → (∀ q ∈ tb', (∃ z ∈ tb, z.1 = q.1) ∨ ∀ z ∈ news, z.1 < q.1) → Q (.ref r) { s with heap := h', toks := tk' }) :
    wpAny (model PySem.Challenge.rw_ht0001_01.row.prog w) (ktrTop dp un gd cn cs L a' ccd cl outer) (call (.ref 35) [.int a ta, .int n tn]) Q E s := by
  w_top off
  revert X; k_fill; intro X
  have hb : Builtin.Int.intBits a ≤ 64 := intBits_le_64 (by omega) (by omega)
  have hK0 : 0 ≤ ((Builtin.Int.intBits a : Int) + n - 1).fdiv n := nd_nonneg (by omega)
  have hK1 : ((Builtin.Int.intBits a : Int) + n - 1).fdiv n ≤ 64 := nd_le (by omega) hb
  have hK2 : a ≠ 0 → 0 < ((Builtin.Int.intBits a : Int) + n - 1).fdiv n := fun h => nd_pos h0 h h2
  have hK3 : ∀ j : Nat, j = (((Builtin.Int.intBits a : Int) + n - 1).fdiv n).toNat → a < 2 ^ (n * j) := fun j e => e ▸ lt_pow_nd h0 h2
  rcases hT with rfl | ⟨c, oc, vs, t, rfl, hoc, hvs⟩
  all_goals simp only [List.cons_append, List.nil_append] at N hret
  all_goals
    refine wpAny_call ?_
    k_dflt (refine' code_defC ?k1 ?k2 ?k3 ?k4 ?k5 ?kA ?kF ?kK ?k6 ?k7 ?k8 ?k9 ?kB ?kD ?_ ?c2 ?c3 ?c4; (case kA => exact rfl); (case kF => exact rfl); (case kK => assumption); (case k1 => k_asm); (case k2 => k_asm); (case k3 => k_asm); (case k4 => k_asm); (case k5 => k_asm); (case k6 => k_is); (case k7 => k_is); (case k8 => ktr_room); (case k9 => exact BindsTo.of_eq rfl); (case kB => exact rfl); (case kD => decide +kernel); (case c2 => exact rfl); (case c3 => exact rfl); (case c4 => exact rfl); k_whole)
    intro g' L' h' tk' cells' FG' F' N' Y' B' X' T' l1
    have hLn : ∀ q ∈ news, q.1 < L' := fun q hq => l1 q (by simp [hq])
    k_lt l1
    k_cells Y'
    (try simp only [List.cons_append, List.nil_append] at N')
    (try dsimp only)
    (try k_lift B')
    (try k_fold)
    have hLt : AllLt L' news := by first | exact l1.2 | exact l1.2.2
    have C' : CodeHd g' 34 30 := codeHd_of_K X' (by kernel_rfl)
    k_steps
  · rename_i f1 c1 oc1 vs1 t1 _ _ _ _ hd1 hd2 lc lf _ _ _ _ _ ha kF kN _ _
    refine hret _ its' [(30, _), (c1, oc1)] h' tk' kF (fun q hq => kN q ?_) (i2d_end hI' (by assumption) (by assumption) hK0) (.inr ⟨c1, oc1, _, _, rfl, hd1, hd2⟩) (fun q hq => ?_) (fun q hq => ?_)
    · simp only [List.cons_append, List.nil_append] at hq
      rcases List.mem_cons.mp hq with rfl | hq
      · k_mem
      rcases List.mem_cons.mp hq with rfl | hq
      · k_mem
      rcases List.mem_cons.mp hq with rfl | hq
      · k_mem
      repeat (first | exact hq | apply List.mem_cons_of_mem)
    · rcases List.mem_cons.mp hq with rfl | hq
      · refine ltN ?_; dsimp only; omega
      · have := ltN (hLn q hq)
        refine ltN ?_; omega
    · rcases List.mem_cons.mp hq with rfl | hq
      · exact .inl ⟨_, .head _, rfl⟩
      rcases List.mem_cons.mp hq with rfl | hq
      · refine .inr fun z hz => ?_
        have := ltN (hLn z hz)
        refine ltN ?_; dsimp only; omega
      · cases hq
  · rename_i D1 _ i1 _ _ _ _ lD _ _ _ _ f1 c1 oc1 vs1 t1 _ _ _ _ hd1 hd2 lc lf _ _ _ _ _ ha kF kN _ _
    refine hret _ (List.replicate (((Builtin.Int.intBits a : Int) + n - 1).fdiv n).toNat [Value.int 0 tk']).flatten [(30, _), (c1, oc1)] _ _ kF (fun q hq => kN q ?_) (i2d_none ha h2) (.inr ⟨c1, oc1, _, _, rfl, hd1, hd2⟩) (fun q hq => ?_) (fun q hq => ?_)
    · simp only [List.cons_append, List.nil_append] at hq
      rcases List.mem_cons.mp hq with rfl | hq
      · k_mem
      rcases List.mem_cons.mp hq with rfl | hq
      · k_mem
      rcases List.mem_cons.mp hq with rfl | hq
      · k_mem
      repeat (first | exact hq | apply List.mem_cons_of_mem)
    · rcases List.mem_cons.mp hq with rfl | hq
      · refine ltN ?_; dsimp only; omega
      · have := ltN (hLn q hq)
        refine ltN ?_; omega
    · rcases List.mem_cons.mp hq with rfl | hq
      · exact .inl ⟨_, .head _, rfl⟩
      rcases List.mem_cons.mp hq with rfl | hq
      · refine .inr fun z hz => ?_
        have := ltN (hLn z hz)
        refine ltN ?_; dsimp only; omega
      · cases hq
  · rename_i kF kN _ _
    refine hret _ its' [(30, _), (c, oc)] h' tk' kF (fun q hq => kN q ?_) (i2d_end hI' (by assumption) (by assumption) hK0) (.inr ⟨c, oc, _, _, rfl, hoc, hvs⟩) (fun q hq => ?_) (fun q hq => ?_)
    · simp only [List.cons_append, List.nil_append] at hq
      rcases List.mem_cons.mp hq with rfl | hq
      · k_mem
      rcases List.mem_cons.mp hq with rfl | hq
      · k_mem
      rcases List.mem_cons.mp hq with rfl | hq
      · k_mem
      repeat (first | exact hq | apply List.mem_cons_of_mem)
    · rcases List.mem_cons.mp hq with rfl | hq
      · refine ltN ?_; dsimp only; omega
      rcases List.mem_cons.mp hq with rfl | hq
      · refine ltN ?_; dsimp only; omega
      · have := ltN (hLn q hq)
        refine ltN ?_; omega
    · exact .inl ⟨_, hq, rfl⟩
  · rename_i kF kN _ _
    refine hret _ (List.replicate (((Builtin.Int.intBits a : Int) + n - 1).fdiv n).toNat [Value.int 0 tk']).flatten [(30, _), (c, oc)] _ _ kF (fun q hq => kN q ?_) (i2d_none (by assumption) h2) (.inr ⟨c, oc, _, _, rfl, hoc, hvs⟩) (fun q hq => ?_) (fun q hq => ?_)
    · simp only [List.cons_append, List.nil_append] at hq
      rcases List.mem_cons.mp hq with rfl | hq
      · k_mem
      rcases List.mem_cons.mp hq with rfl | hq
      · k_mem
      rcases List.mem_cons.mp hq with rfl | hq
      · k_mem
      repeat (first | exact hq | apply List.mem_cons_of_mem)
    · rcases List.mem_cons.mp hq with rfl | hq
      · refine ltN ?_; dsimp only; omega
      rcases List.mem_cons.mp hq with rfl | hq
      · refine ltN ?_; dsimp only; omega
      · have := ltN (hLn q hq)
        refine ltN ?_; omega
    · exact .inl ⟨_, hq, rfl⟩
end Mine
end
section
open PySem PySem.W PyProof.Rows PySem.Spec PySem.Calls
set_option Elab.async false
set_option maxRecDepth 100000
namespace Mine

def In2 (w : World) (n : Nat) (f : Addr) (ns : List Int) (rest : List (Addr × Obj)) (K : Nat) : Prop :=
  ∀ (lo hi : Int) (tl th : Tok) (p : Program) (loose : List Str) (mean : ExcName → Option Value) (mg mb : Str → Option Value) (dp un : Nat) (gd : Option (List Code)) (cn : Str) (cs : Scope) (a' : Addr) (ccd : Value) (cl : List (Str × Addr)) (outer : List Env) (A₀ : Around) (base h₀ : Heap) (L : Addr) (m : Str → Option Value) (s : Shared) (Q E : Value → Shared → Prop),
    Below A₀ base outer h₀ → Fr h₀ L s.heap m → (Mine.hd.heap_39 w.params).In h₀ → Top p loose mean mg mb h₀ → cs.kind = .function → News h₀ L s.heap rest →
    0 ≤ lo → lo < hi → hi ≤ ns.length → (hi - lo).toNat ≤ K → dp + K < recursionLimit → un + 8 * K < cLine →
    (∀ t h' tk', Fr h₀ L h' m → News h₀ L h' rest → Q (.int (unq n (cut ns lo.toNat (hi - lo).toNat)) t) { s with heap := h', toks := tk' }) →
    wpAny (model PySem.Challenge.rw_ht0001_01.row.prog w) (ktrTop dp un gd cn cs L a' ccd cl outer) (call (.ref f) [.int lo tl, .int hi th]) Q E s
theorem In2.use {w : World} {n : Nat} {f : Addr} {ns : List Int} {rest : List (Addr × Obj)} {K : Nat} {lo hi : Int} {tl th : Tok} {p : Program} {loose : List Str} {mean : ExcName → Option Value} {mg mb : Str → Option Value} {dp un : Nat} {gd : Option (List Code)} {cn : Str} {cs : Scope} {a' : Addr} {ccd : Value} {cl : List (Str × Addr)} {outer : List Env} {A₀ : Around} {base h₀ : Heap} {L : Addr} {m : Str → Option Value} {s : Shared} {Q E : Value → Shared → Prop}
    (H : In2 w n f ns rest K) (B : Below A₀ base outer h₀) (F : Fr h₀ L s.heap m) (X : (Mine.hd.heap_39 w.params).In h₀) (T : Top p loose mean mg mb h₀) (hk : cs.kind = .function) (N : News h₀ L s.heap rest)
    (a1 : 0 ≤ lo) (a2 : lo < hi) (a3 : hi ≤ ns.length) (a5 : (hi - lo).toNat ≤ K) (hd : dp + K < recursionLimit) (hu : un + 8 * K < cLine)
    (ret : ∀ t h' tk', Fr h₀ L h' m → News h₀ L h' rest → Q (.int (unq n (cut ns lo.toNat (hi - lo).toNat)) t) { s with heap := h', toks := tk' }) :
    wpAny (model PySem.Challenge.rw_ht0001_01.row.prog w) (ktrTop dp un gd cn cs L a' ccd cl outer) (call (.ref f) [.int lo tl, .int hi th]) Q E s :=
  H _ _ _ _ _ _ _ _ _ _ _ _ _ _ _ _ _ _ _ _ _ _ _ _ _ _ B F X T hk N a1 a2 a3 a5 hd hu ret

local macro_rules | `(tactic| walk_at "eval Name") => `(tactic| (k_here; k_dflt (refine' nameX_F ?N ?c ?m ?d ?_ ?a ?b; (case a => rfl); (case b => rfl); (case N => k_asm); (case c => rfl); (case m => with_reducible assumption); (case d => k_asm); k_whole)))
local macro_rules | `(tactic| walk_at "callWith ref") => `(tactic| (k_here; k_dflt (refine' callWith_F ?k1 ?_; (case k1 => exact FnAt.of (by k_asm) (by assumption)); k_whole)))
local macro_rules | `(tactic| walk_at "FnAt") => `(tactic| (k_dflt (exact FnAt.of (by k_asm) (by assumption))))
local macro_rules | `(tactic| walk_at "call ref") => `(tactic| (k_here; k_dflt (refine' In2.use ?H ?B ?F ?X ?T ?hk ?N ?a1 ?a2 ?a3 ?a5 ?hd ?hu ?_; (case H => assumption); (case B => k_asm); (case F => k_asm); (case X => k_asm); (case T => k_asm); (case hk => first | exact rfl | assumption); (case N => k_asm); (case a1 => omega); (case a2 => omega); (case a3 => omega); (case a5 => omega); (case hd => ktr_room); (case hu => ktr_units); k_whole); intro tv' h' tk' F' N'; (try dsimp only)))
set_option maxHeartbeats 1000000 in
theorem in2_c {w : World} {n : Nat} {tn : Tok} {f c' d kd ki kn : Addr} {qual : Str} {doc pm ctv : Value} {oc od oi on : Obj} {vs : Array Value} {t : Tok} {rest : List (Addr × Obj)} {its : List Value} {ns : List Int} {nn : Nat}
    (mf : (f, fnMade (PySem.Str.ofString "inner") qual in2args.1 in2body.1 in2scope.1 [(PySem.Str.ofString "n", kn), (PySem.Str.ofString "inner", ki), (PySem.Str.ofString "digits", kd)] doc pm c' ctv) ∈ rest)
    (mc : (c', oc) ∈ rest) (hoc : oc.data = .fields vs) (hvs : vs[1]? = some (.str qual t)) (md : (kd, od) ∈ rest) (hod : od.data = .cell (some (.ref d))) (mi : (ki, oi) ∈ rest) (hoi : oi.data = .cell (some (.ref f)))
    (mn : (kn, on) ∈ rest) (hon : on.data = .cell (some (.int n tn))) (ml : (d, W.listOf its.toArray nn) ∈ rest) (hI : IntsAre its ns) (hD : Dig n ns) (n0 : 0 < n) (n1 : n * ns.length ≤ 60) (n2 : ns.length ≤ 64) : ∀ K, In2 w n f ns rest K := by
  intro K
  induction K with
  | zero => unfold In2; intros; omega
  | succ K ih =>
    unfold In2
    intro lo hi tl th p loose mean mg mb dp un gd cn cs a' ccd cl outer A₀ base h₀ L m s Q E B F X T hk N hlo hlh hhi hK hd hu hret
    w_top off
    revert X; k_fill; intro X
    have C : CodeHd h₀ 34 30 := codeHd_of_K X (by kernel_rfl)
    dsimp only [in2args, in2body, in2scope] at mf
    have hM := mid_facts hlo hlh
    have hn64 : n ≤ 60 := by
      have h1 : n * 1 ≤ n * ns.length := Nat.mul_le_mul_left _ (by omega)
      omega
    have hP0 : 0 ≤ ((lo + hi).fdiv (2 ^ Int.toNat 1) - lo) * (n : Int) := Int.mul_nonneg (by omega) (by omega)
    have hP1 : ((lo + hi).fdiv (2 ^ Int.toNat 1) - lo) * (n : Int) ≤ 64 * 100 := Int.le_trans (Int.mul_le_mul_of_nonneg_right (c := (n : Int)) (show _ ≤ 64 by omega) (by omega)) (Int.mul_le_mul_of_nonneg_left (by omega) (by omega))
    have hP2 : (((lo + hi).fdiv (2 ^ Int.toNat 1) - lo) * (n : Int)).toNat = n * ((lo + hi).fdiv (2 ^ Int.toNat 1) - lo).toNat := by
      obtain ⟨j, hj⟩ : ∃ j : Nat, ((lo + hi).fdiv (2 ^ Int.toNat 1) - lo) = j := ⟨((lo + hi).fdiv (2 ^ Int.toNat 1) - lo).toNat, by omega⟩
      rw [hj, ← Int.natCast_mul, Int.toNat_natCast, Int.toNat_natCast, Nat.mul_comm]
    have hU := unq_cut_bound (lo := ((lo + hi).fdiv (2 ^ Int.toNat 1)).toNat) (j := (hi - (lo + hi).fdiv (2 ^ Int.toNat 1)).toNat) hD (by omega) n1
    refine wpAny_call ?_
    k_dflt (refine' code_nest ?k1 ?k2 ?k3 ?k4 ?k5 ?kA ?kF ?kK ?k6 ?k7 ?k8 ?k9 ?kB ?_ ?c2 ?c3 ?c4 ?c5; (case kA => exact rfl); (case kF => exact rfl); (case kK => assumption); (case k1 => k_asm); (case k2 => k_asm); (case k3 => k_asm); (case k4 => k_asm); (case k5 => k_asm); (case k6 => exact mf); (case k7 => exact codeRec_news (by k_asm) mc (by assumption) (by assumption)); (case k8 => ktr_room); (case k9 => exact BindsTo.of_eq rfl); (case c5 => decide); (case kB => exact locs rfl); (case c2 => exact rfl); (case c3 => exact rfl); (case c4 => exact rfl); k_whole)
    intro g' L' h' FG' F' N' B' X' T'
    (try dsimp only)
    (try k_lift B')
    (try k_fold)
    k_steps
    · rename_i kF kN _ _
      have e : unq n (cut ns lo.toNat (hi - lo).toNat) = ns.getD lo.toNat 0 := by
        rw [show (hi - lo).toNat = 1 by omega, cut_one (by omega)]; simp [unq]
      rw [e] at hret
      exact hret _ _ _ kF kN
    · rename_i kF kN _ _
      rw [unq_join hP2 (hi := hi.toNat) (c := (hi - lo).toNat) (by omega) (by omega) (by omega) (by omega)]
      exact hret _ _ _ kF kN
end Mine
end
section
open PySem PySem.W PyProof.Rows PySem.Spec PySem.Calls
set_option Elab.async false
set_option maxRecDepth 100000
namespace Mine
local macro_rules | `(tactic| k_all) => `(tactic| (refine' ne_of_allLt (by assumption) ?hd; (case hd => omega)))
local macro_rules | `(tactic| k_all) => `(tactic| with_reducible assumption)
set_option hygiene false in
local macro_rules | `(tactic| walk_at "call ref") => `(tactic| (k_here; k_dflt (refine' In2.use (in2_c ?mf ?mc ?hoc ?hvs ?md ?hod ?mi ?hoi ?mn ?hon ?ml hI hD n0 n1 n2 64) ?B ?F ?X ?T ?hk ?N ?a1 ?a2 ?a3 ?a5 ?hd ?hu ?_; (case N => k_asm); (case mf => k_mem); (case mc => k_mem); (case hoc => assumption); (case hvs => assumption); (case md => k_mem); (case hod => assumption); (case mi => k_mem); (case hoi => assumption); (case mn => k_mem); (case hon => assumption); (case ml => k_mem); (case B => k_asm); (case F => k_asm); (case X => k_asm); (case T => k_asm); (case hk => exact rfl); (case a1 => omega); (case a2 => omega); (case a3 => omega); (case a5 => omega); (case hd => ktr_room); (case hu => ktr_units); k_whole); intro tv' h' tk' F' N'; (try dsimp only)))

set_option maxHeartbeats 1000000 in
theorem d2i_c {w : World} {n : Nat} {tn : Tok} {d : Addr} {its : List Value} {ns : List Int} {nn : Nat} {tb news : List (Addr × Obj)} {p : Program} {loose : List Str} {mean : ExcName → Option Value} {mg mb : Str → Option Value} {dp un : Nat} {gd : Option (List Code)} {cn : Str} {cs : Scope} {a' : Addr} {ccd : Value} {cl : List (Str × Addr)} {outer : List Env} {A₀ : Around} {base h₀ : Heap} {L : Addr} {m : Str → Option Value} {s : Shared} {Q E : Value → Shared → Prop}
    (B : Below A₀ base outer h₀) (F : Fr h₀ L s.heap m) (X : (Mine.hd.heap_39 w.params).In h₀) (T : Top p loose mean mg mb h₀) (hk : cs.kind = .function) (N : News h₀ L s.heap (tb ++ (d, W.listOf its.toArray nn) :: news)) (hT : Tab 37 47 q2 tb) (hne : ∀ q ∈ news, q.1 ≠ 37) (hne2 : d ≠ 37)
    (hI : IntsAre its ns) (hD : Dig n ns) (n0 : 0 < n) (n1 : n * ns.length ≤ 60) (n2 : ns.length ≤ 64) (hd : dp + 70 < recursionLimit) (hu : un + 560 < cLine)
    (hret : ∀ t tb' h' tk', Fr h₀ L h' m → News h₀ L h' (tb' ++ (d, W.listOf its.toArray nn) :: news) → Tab 37 47 q2 tb' → (∀ q ∈ tb', (∃ z ∈ tb, z.1 = q.1) ∨ ((d < q.1) ∧ ∀ z ∈ news, z.1 < q.1)) → Q (.int (unq n ns) t) { s with heap := h', toks := tk' }) :
    wpAny (model PySem.Challenge.rw_ht0001_01.row.prog w) (ktrTop dp un gd cn cs L a' ccd cl outer) (call (.ref 42) [.ref d, .int n tn]) Q E s := by
  w_top off
  revert X; k_fill; intro X
  have hlen := hI.length
  rcases hT with rfl | ⟨c, oc, vs, t, rfl, hoc, hvs⟩
  all_goals simp only [List.cons_append, List.nil_append] at N hret
  all_goals
    refine wpAny_call ?_
    k_dflt (refine' code_defC ?k1 ?k2 ?k3 ?k4 ?k5 ?kA ?kF ?kK ?k6 ?k7 ?k8 ?k9 ?kB ?kD ?_ ?c2 ?c3 ?c4; (case kA => exact rfl); (case kF => exact rfl); (case kK => assumption); (case k1 => k_asm); (case k2 => k_asm); (case k3 => k_asm); (case k4 => k_asm); (case k5 => k_asm); (case k6 => k_is); (case k7 => k_is); (case k8 => ktr_room); (case k9 => exact BindsTo.of_eq rfl); (case kB => exact rfl); (case kD => decide +kernel); (case c2 => exact rfl); (case c3 => exact rfl); (case c4 => exact rfl); k_whole)
    intro g' L' h' tk' cells' FG' F' N' Y' B' X' T' l1
    have hLn : ∀ q ∈ news, q.1 < L' := fun q hq => l1 q (by simp [hq])
    k_lt l1
    k_cells Y'
    (try simp only [List.cons_append, List.nil_append] at N')
    (try dsimp only)
    (try k_lift B')
    (try k_fold)
    have hLt : AllLt L' news := by first | exact l1.2.2 | exact l1.2.2.2
    have C' : CodeHd g' 41 37 := codeHd_of_K X' (by kernel_rfl)
    k_steps
  · rename_i f1 c1 oc1 vs1 t1 _ _ _ _ hd1 hd2 lc lf _ _ _ _ _ ha kF kN _ _
    rw [show cut ns (Int.toNat 0) ((ns.length : Int) - 0).toNat = ns by rw [show Int.toNat 0 = 0 from rfl, show ((ns.length : Int) - 0).toNat = ns.length by omega, cut_all]]
    refine hret _ [(37, _), (c1, oc1)] _ _ kF (fun q hq => kN q ?_) (.inr ⟨c1, oc1, _, _, rfl, hd1, hd2⟩) (fun q hq => ?_)
    · simp only [List.cons_append, List.nil_append] at hq
      rcases List.mem_cons.mp hq with rfl | hq
      · k_mem
      rcases List.mem_cons.mp hq with rfl | hq
      · k_mem
      rcases List.mem_cons.mp hq with rfl | hq
      · k_mem
      repeat (first | exact hq | apply List.mem_cons_of_mem)
    · rcases List.mem_cons.mp hq with rfl | hq
      · exact .inl ⟨_, .head _, rfl⟩
      rcases List.mem_cons.mp hq with rfl | hq
      · refine .inr ⟨?_, fun z hz => ?_⟩
        · refine ltN ?_; dsimp only; omega
        · have := ltN (hLn z hz)
          refine ltN ?_; dsimp only; omega
      · cases hq
  · rename_i f1 c1 oc1 vs1 t1 _ _ _ _ hd1 hd2 lc lf _ _ _ _ _ ha kF kN _ _
    rw [show (0 : Int) = unq n ns by rw [List.eq_nil_of_length_eq_zero (show ns.length = 0 by omega)]; rfl]
    refine hret _ [(37, _), (c1, oc1)] _ _ kF (fun q hq => kN q ?_) (.inr ⟨c1, oc1, _, _, rfl, hd1, hd2⟩) (fun q hq => ?_)
    · simp only [List.cons_append, List.nil_append] at hq
      rcases List.mem_cons.mp hq with rfl | hq
      · k_mem
      rcases List.mem_cons.mp hq with rfl | hq
      · k_mem
      rcases List.mem_cons.mp hq with rfl | hq
      · k_mem
      repeat (first | exact hq | apply List.mem_cons_of_mem)
    · rcases List.mem_cons.mp hq with rfl | hq
      · exact .inl ⟨_, .head _, rfl⟩
      rcases List.mem_cons.mp hq with rfl | hq
      · refine .inr ⟨?_, fun z hz => ?_⟩
        · refine ltN ?_; dsimp only; omega
        · have := ltN (hLn z hz)
          refine ltN ?_; dsimp only; omega
      · cases hq
  · rename_i kF kN _ _
    rw [show cut ns (Int.toNat 0) ((ns.length : Int) - 0).toNat = ns by rw [show Int.toNat 0 = 0 from rfl, show ((ns.length : Int) - 0).toNat = ns.length by omega, cut_all]]
    refine hret _ [(37, _), (c, oc)] _ _ kF (fun q hq => kN q ?_) (.inr ⟨c, oc, _, _, rfl, hoc, hvs⟩) (fun q hq => .inl ⟨_, hq, rfl⟩)
    · simp only [List.cons_append, List.nil_append] at hq
      rcases List.mem_cons.mp hq with rfl | hq
      · k_mem
      rcases List.mem_cons.mp hq with rfl | hq
      · k_mem
      rcases List.mem_cons.mp hq with rfl | hq
      · k_mem
      repeat (first | exact hq | apply List.mem_cons_of_mem)
  · rename_i kF kN _ _
    rw [show (0 : Int) = unq n ns by rw [List.eq_nil_of_length_eq_zero (show ns.length = 0 by omega)]; rfl]
    refine hret _ [(37, _), (c, oc)] _ _ kF (fun q hq => kN q ?_) (.inr ⟨c, oc, _, _, rfl, hoc, hvs⟩) (fun q hq => .inl ⟨_, hq, rfl⟩)
    · simp only [List.cons_append, List.nil_append] at hq
      rcases List.mem_cons.mp hq with rfl | hq
      · k_mem
      rcases List.mem_cons.mp hq with rfl | hq
      · k_mem
      rcases List.mem_cons.mp hq with rfl | hq
      · k_mem
      repeat (first | exact hq | apply List.mem_cons_of_mem)
end Mine
end
section
open PySem PySem.W PyProof.Rows PySem.Spec PySem.Calls
set_option Elab.async false
set_option maxRecDepth 100000
namespace Mine

theorem i2d_t {w : World} {a : Int} {n : Nat} {ta tn : Tok} {TT news : List (Addr × Obj)} {p : Program} {loose : List Str} {mean : ExcName → Option Value} {mg mb : Str → Option Value} {dp un : Nat} {gd : Option (List Code)} {cn : Str} {cs : Scope} {a' : Addr} {ccd : Value} {cl : List (Str × Addr)} {outer : List Env} {A₀ : Around} {base h₀ : Heap} {L : Addr} {m : Str → Option Value} {s : Shared} {Q E : Value → Shared → Prop}
    (B : Below A₀ base outer h₀) (F : Fr h₀ L s.heap m) (X : (Mine.hd.heap_39 w.params).In h₀) (T : Top p loose mean mg mb h₀) (hk : cs.kind = .function) (N : News h₀ L s.heap (TT ++ news)) (hT : Tabs TT) (hne : ∀ q ∈ news, q.1 ≠ 30 ∧ q.1 ≠ 37)
    (h0 : 0 ≤ a) (h1 : a < 2 ^ 60) (h2 : 0 < n) (h3 : n < 100) (hd : dp + 70 < recursionLimit) (hu : un + 560 < cLine)
    (hret : ∀ r its TT' h' tk', Fr h₀ L h' m → News h₀ L h' ((r, W.listOf (List.toArray its) 0) :: (TT' ++ news)) → IntsAre its (ds n a (((Builtin.Int.intBits a : Int) + n - 1).fdiv n).toNat) → Tabs TT' → (∀ q ∈ TT ++ news, q.1 < r) → (∀ q ∈ TT', q.1 ≠ r) → Grew news TT TT' → Q (.ref r) { s with heap := h', toks := tk' }) :
    wpAny (model PySem.Challenge.rw_ht0001_01.row.prog w) (ktrTop dp un gd cn cs L a' ccd cl outer) (call (.ref 35) [.int a ta, .int n tn]) Q E s := by
  obtain ⟨ta', tb', hA, hB, rfl, h37, h30⟩ := hT
  refine i2d_c (tb := ta') (news := tb' ++ news) B F X T hk (by rw [← List.append_assoc]; exact N) hA (fun q hq => (List.mem_append.mp hq).elim (h30 q) fun h => (hne q h).1) h0 h1 h2 h3 hd hu ?_
  intro r its a2 h' tk' F' N' hI hA' hlt hgr
  have hP : ∃ o, (37, o) ∈ tb' := hB.has
  refine hret r its (a2 ++ tb') h' tk' F' (by rw [List.append_assoc]; exact N') hI ⟨a2, tb', hA', hB, rfl, fun q hq => ?_, h30⟩ (by rw [List.append_assoc]; exact hlt) (fun q hq e => ?_) (fun q hq => ?_)
  · rcases hgr q hq with ⟨z, hz, e⟩ | h
    · exact e ▸ h37 z hz
    · obtain ⟨o, ho⟩ := hP
      exact fun e => absurd (h _ (List.mem_append_left _ ho)) (by rw [e]; exact Nat.lt_irrefl _)
  · rcases List.mem_append.mp hq with hq | hq
    · have h3 := N' (r, W.listOf (List.toArray its) 0) (.head _)
      have h4 := N' q (.tail _ (List.mem_append_left _ hq))
      rw [e, h3.1] at h4
      have h5 := (Option.some.inj h4.1)
      rcases hA' with rfl | ⟨c, oc, vs, t, rfl, hoc, _⟩
      · rcases List.mem_cons.mp hq with rfl | hq
        · cases h5
        · cases hq
      · rcases List.mem_cons.mp hq with rfl | hq
        · cases h5
        rcases List.mem_cons.mp hq with rfl | hq
        · dsimp only at h5; rw [← h5] at hoc; cases hoc
        · cases hq
    · exact absurd (hlt q (List.mem_append_right _ (List.mem_append_left _ hq))) (by rw [e]; exact Nat.lt_irrefl _)
  · rcases List.mem_append.mp hq with hq | hq
    · rcases hgr q hq with ⟨z, hz, e⟩ | h
      · exact .inl ⟨z, List.mem_append_left _ hz, e⟩
      · exact .inr fun z hz => h z (List.mem_append_right _ hz)
    · exact .inl ⟨q, List.mem_append_right _ hq, rfl⟩

theorem d2i_t {w : World} {n : Nat} {tn : Tok} {d : Addr} {its : List Value} {ns : List Int} {nn : Nat} {TT news : List (Addr × Obj)} {p : Program} {loose : List Str} {mean : ExcName → Option Value} {mg mb : Str → Option Value} {dp un : Nat} {gd : Option (List Code)} {cn : Str} {cs : Scope} {a' : Addr} {ccd : Value} {cl : List (Str × Addr)} {outer : List Env} {A₀ : Around} {base h₀ : Heap} {L : Addr} {m : Str → Option Value} {s : Shared} {Q E : Value → Shared → Prop}
    (B : Below A₀ base outer h₀) (F : Fr h₀ L s.heap m) (X : (Mine.hd.heap_39 w.params).In h₀) (T : Top p loose mean mg mb h₀) (hk : cs.kind = .function) (N : News h₀ L s.heap (TT ++ news)) (hT : Tabs TT) (hne : ∀ q ∈ news, q.1 ≠ 30 ∧ q.1 ≠ 37) (hmem : (d, W.listOf its.toArray nn) ∈ news)
    (hI : IntsAre its ns) (hD : Dig n ns) (n0 : 0 < n) (n1 : n * ns.length ≤ 60) (n2 : ns.length ≤ 64) (hd : dp + 70 < recursionLimit) (hu : un + 560 < cLine)
    (hret : ∀ t TT' h' tk', Fr h₀ L h' m → News h₀ L h' (TT' ++ news) → Tabs TT' → Grew news TT TT' → Q (.int (unq n ns) t) { s with heap := h', toks := tk' }) :
    wpAny (model PySem.Challenge.rw_ht0001_01.row.prog w) (ktrTop dp un gd cn cs L a' ccd cl outer) (call (.ref 42) [.ref d, .int n tn]) Q E s := by
  obtain ⟨ta', tb', hA, hB, rfl, h37, h30⟩ := hT
  refine d2i_c (nn := nn) (tb := tb') (news := ta' ++ news) B F X T hk (fun q hq => ?_) hB (fun q hq => (List.mem_append.mp hq).elim (h37 q) fun h => (hne q h).2) (hne _ hmem).2 hI hD n0 n1 n2 hd hu ?_
  · rcases List.mem_append.mp hq with hq | hq
    · exact N q (List.mem_append_left _ (List.mem_append_right _ hq))
    rcases List.mem_cons.mp hq with rfl | hq
    · exact N _ (List.mem_append_right _ hmem)
    rcases List.mem_append.mp hq with hq | hq
    · exact N q (List.mem_append_left _ (List.mem_append_left _ hq))
    · exact N q (List.mem_append_right _ hq)
  intro t b2 h' tk' F' N' hB' hgr
  have hP : ∃ o, (30, o) ∈ ta' := hA.has
  refine hret t (ta' ++ b2) h' tk' F' (fun q hq => ?_) ⟨ta', b2, hA, hB', rfl, h37, fun q hq => ?_⟩ (fun q hq => ?_)
  · rcases List.mem_append.mp hq with hq | hq
    · rcases List.mem_append.mp hq with hq | hq
      · exact N' q (List.mem_append_right _ (.tail _ (List.mem_append_left _ hq)))
      · exact N' q (List.mem_append_left _ hq)
    · exact N' q (List.mem_append_right _ (.tail _ (List.mem_append_right _ hq)))
  · rcases hgr q hq with ⟨z, hz, e⟩ | h
    · exact e ▸ h30 z hz
    · obtain ⟨o, ho⟩ := hP
      exact fun e => absurd (h.2 _ (List.mem_append_left _ ho)) (by rw [e]; exact Nat.lt_irrefl _)
  · rcases List.mem_append.mp hq with hq | hq
    · exact .inl ⟨q, List.mem_append_left _ hq, rfl⟩
    · rcases hgr q hq with ⟨z, hz, e⟩ | h
      · exact .inl ⟨z, List.mem_append_right _ hz, e⟩
      · exact .inr fun z hz => h.2 z (List.mem_append_right _ hz)
end Mine
end
section
open PySem PySem.W PyProof.Rows PySem.Spec PySem.Calls
set_option Elab.async false
set_option maxRecDepth 100000
namespace Mine
local macro_rules | `(tactic| k_all) => `(tactic| (refine' ne_of_allLt (by assumption) ?hd; (case hd => omega)))
local macro_rules | `(tactic| k_all) => `(tactic| with_reducible assumption)
set_option hygiene false in
local macro_rules | `(tactic| walk_at "call ref") => `(tactic| (k_here; (with_reducible show wpAny _ _ (call (Value.ref 35) _) _ _ _); k_dflt (refine' i2d_t ?B ?F ?X ?T ?hk ?N ?hT ?hne ?h0 ?h1 ?h2 ?h3 ?hd ?hu ?_; (case B => k_asm); (case F => k_asm); (case X => k_asm); (case T => k_asm); (case hk => first | exact rfl | assumption); (case N => k_asm); (case hT => assumption); (case hne => assumption); (case h0 => omega); (case h1 => omega); (case h2 => omega); (case h3 => omega); (case hd => ktr_room); (case hu => ktr_units); k_whole); intro rl its TT1 h' tk' F' N' hI' hT1 hlt' hr1 hgr'; (try dsimp only)))
set_option hygiene false in
local macro_rules | `(tactic| walk_at "call ref") => `(tactic| (k_here; (with_reducible show wpAny _ _ (call (Value.ref 21) _) _ _ _); k_dflt (refine' div_c ?B ?F ?X ?T ?hk ?N ?h0 ?h1 ?h2 ?h3 ?h4 ?h5 ?hd ?hu ?_; (case B => k_asm); (case F => k_asm); (case X => k_asm); (case T => k_asm); (case hk => first | exact rfl | assumption); (case N => k_asm); (case h0 => omega); (case h1 => omega); (case h2 => omega); (case h3 => omega); (case h4 => omega); (case h5 => omega); (case hd => ktr_room); (case hu => ktr_units); k_whole); intro rq tq uq h' tk' F' N' hltq; (try k_lt hltq); (try dsimp only)))

set_option hygiene false in
local macro_rules | `(tactic| walk_at "call builtin:list.reverse") => `(tactic| (k_here; k_dflt (refine' kl_reverse (l := us.reverse) ?F ?N ?e ?U ?z ?_; (case F => k_asm); (case N => k_asm); (case e => exact rfl); (case U => k_upd); (case z => exact Nat.le_trans hus (by rw [sizeLine_eq]; decide))); intro h' F' N'))
set_option hygiene false in
local macro_rules | `(tactic| walk_at "call ref") => `(tactic| (k_here; (with_reducible show wpAny _ _ (call (Value.ref 42) _) _ _ _); k_dflt (refine' d2i_t ?B ?F ?X ?T ?hk (toT2 ?N) ?hT ?hne ?hmem ?hI ?hD ?n0 ?n1 ?n2 ?hd ?hu ?_; (case B => k_asm); (case F => k_asm); (case X => k_asm); (case T => k_asm); (case hk => first | exact rfl | assumption); (case N => k_asm); (case hT => assumption); (case hne => exact hne2); (case hmem => exact List.Mem.head _); (case hI => exact hUr); (case hD => exact hDr); (case n0 => omega); (case n1 => exact hnk); (case n2 => exact hnl); (case hd => ktr_room); (case hu => ktr_units); k_whole); intro td TT2 h' tk' F' N' hT2 hgr2; (replace N' := ofT2 N'); (try dsimp only)))

theorem allLt_left {d : Addr} : ∀ {l r : List (Addr × Obj)}, AllLt d (l ++ r) → AllLt d l
  | [], _, _ => trivial
  | _ :: _, _, h => ⟨h.1, allLt_left h.2⟩
theorem nd_mul_le {k n : Nat} (h : 0 < n) : n * (((k : Int) + n - 1).fdiv n).toNat ≤ k + n := by
  have h0 := nd_nonneg (k := k) (n := (n : Int)) (by omega)
  obtain ⟨j, hj⟩ : ∃ j : Nat, ((k : Int) + n - 1).fdiv n = j := ⟨(((k : Int) + n - 1).fdiv n).toNat, by omega⟩
  rw [hj, Int.toNat_natCast]
  have h2 : ((k : Int) + n - 1) / n = j := by rw [← hj, Int.fdiv_eq_ediv_of_nonneg _ (by omega)]
  have h3 := Int.emod_add_mul_ediv ((k : Int) + n - 1) n
  have h4 := Int.emod_nonneg ((k : Int) + n - 1) (show (n : Int) ≠ 0 by omega)
  rw [h2] at h3
  have h5 : ((n * j : Nat) : Int) = (n : Int) * j := by push_cast; rfl
  omega
theorem unq_all {a : Int} {n : Nat} (h : 0 ≤ a) (hn : 0 < n) : unq n (ds n a (((Builtin.Int.intBits a : Int) + n - 1).fdiv n).toNat) = a := by
  rw [unq_ds, Int.emod_eq_of_lt h (lt_pow_nd h hn)]

set_option maxHeartbeats 1000000 in
theorem dmp_c {w : World} {a b : Int} {ta tb : Tok} {TT news : List (Addr × Obj)} {p : Program} {loose : List Str} {mean : ExcName → Option Value} {mg mb : Str → Option Value} {dp un : Nat} {gd : Option (List Code)} {cn : Str} {cs : Scope} {a' : Addr} {ccd : Value} {cl : List (Str × Addr)} {outer : List Env} {A₀ : Around} {base h₀ : Heap} {L : Addr} {m : Str → Option Value} {s : Shared} {Q E : Value → Shared → Prop}
    (B : Below A₀ base outer h₀) (F : Fr h₀ L s.heap m) (X : (Mine.hd.heap_39 w.params).In h₀) (T : Top p loose mean mg mb h₀) (hk : cs.kind = .function) (N : News h₀ L s.heap (TT ++ news)) (hT : Tabs TT) (hne : ∀ q ∈ news, q.1 ≠ 30 ∧ q.1 ≠ 37)
    (h0 : 0 ≤ a) (h1 : a < 2 ^ 50) (h2 : 0 < b) (h3 : b < 2 ^ 9) (hd : dp + 80 < recursionLimit) (hu : un + 640 < cLine)
    (hret : ∀ r t u TT' h' tk', Fr h₀ L h' m → News h₀ L h' ((r, tupObj [.int (a / b) t, .int (a % b) u]) :: (TT' ++ news)) → Tabs TT' → Grew news TT TT' → Q (.ref r) { s with heap := h', toks := tk' }) :
    wpAny (model PySem.Challenge.rw_ht0001_01.row.prog w) (ktrTop dp un gd cn cs L a' ccd cl outer) (call (.ref 49) [.int a ta, .int b tb]) Q E s := by
  w_top off
  revert X; k_fill; intro X
  have hba : Builtin.Int.intBits a ≤ 50 := intBits_le_iff.mpr (by omega)
  have hbb : Builtin.Int.intBits b ≤ 9 := intBits_le_iff.mpr (by omega)
  have hbp : 0 < Builtin.Int.intBits b := by
    by_cases h : Builtin.Int.intBits b ≤ 0
    · have := intBits_le_iff.mp h
      omega
    · omega
  have hbl : b ≤ 2 ^ Builtin.Int.intBits b := Int.le_of_lt (lt_two_pow_bits (by omega))
  refine wpAny_call ?_
  k_dflt (refine' code_def ?k1 ?k2 ?k3 ?k4 ?k5 ?kA ?kF ?kK ?k6 ?k7 ?k8 ?k9 ?kB ?_ ?c2 ?c3 ?c4 ?c5; (case kA => exact rfl); (case kF => exact rfl); (case kK => assumption); (case k1 => k_asm); (case k2 => k_asm); (case k3 => k_asm); (case k4 => k_asm); (case k5 => k_asm); (case k6 => k_is); (case k7 => k_is); (case k8 => ktr_room); (case k9 => exact BindsTo.of_eq rfl); (case c5 => decide); (case kB => exact locs rfl); (case c2 => exact rfl); (case c3 => exact rfl); (case c4 => exact rfl); k_whole)
  intro g' L' h' FG' F' N' B' X' T'
  (try dsimp only)
  (try k_lift B')
  (try k_fold)
  k_steps
  rename_i lq _ hlq _ D _ F2 N2 hD
  have hLen := hI'.length
  rw [ds_length] at hLen
  have hKK : (((Builtin.Int.intBits a : Int) + Builtin.Int.intBits b - 1).fdiv (Builtin.Int.intBits b)).toNat ≤ 64 := by
    have := nd_le (k := Builtin.Int.intBits a) (K := 50) (n := (Builtin.Int.intBits b : Int)) (by omega) hba
    omega
  have h37 := hT1.lt (d := lq) (allLt_all (show AllLt lq TT1 from allLt_left hlq.2))
  refine rev_loop (nn := 0) (J := fun i mm nx => Kp [PySem.Str.ofString "a_digit", PySem.Str.ofString "q_digit", PySem.Str.ofString "r"] _ mm ∧
      ∃ r tr qs us cnt, mm (PySem.Str.ofString "r") = some (.int r tr) ∧ nx = (lq, W.listOf (List.toArray us) cnt) :: (rl, W.listOf (List.toArray its) 0) :: (TT1 ++ news) ∧ IntsAre us qs ∧
        DInv (Builtin.Int.intBits b) b (ds (Builtin.Int.intBits b) a (((Builtin.Int.intBits a : Int) + Builtin.Int.intBits b - 1).fdiv (Builtin.Int.intBits b)).toNat) i r qs)
    rfl F2 N2 (List.Mem.tail _ (List.Mem.head _)) ?_ ⟨Kp.refl, 0, _, [], [], 0, rfl, rfl, IntsAre.nil, DInv.start h2⟩ ?_ ?_
  · have hLt := hD.2.2
    k_all
  · rintro i v m₁ news₁ h tk own hi hv ⟨hK, r, tr, qs, us, cnt, hr, rfl, hU, hInv⟩ hoff hown F₁ N₁
    obtain ⟨d, td, rfl, hd⟩ := int_item hI' hv
    rw [hLen] at hi hd
    have hdd := ds_dig _ _ _ d (List.mem_of_getElem? hd)
    have hsz := hInv.bound hdd hbb h3
    rw [hK.ov] at F₁
    dsimp only [ov, List.map] at F₁
    rw [hr] at F₁
    have hs1 : 0 ≤ r * 2 ^ ((Builtin.Int.intBits b : Nat) : Int).toNat + d := hsz.1
    have hs2 : r * 2 ^ ((Builtin.Int.intBits b : Nat) : Int).toNat + d < 2 ^ 60 := hsz.2
    have hr0 := hInv.1
    have hr9 := hInv.2.1
    simp only [List.cons_append] at N₁
    have hus : us.length ≤ 64 := by rw [hU.length, hInv.2.2.2.1]; omega
    have hlD : lq ≠ D := hoff _ (.head _)
    have hne1 : ∀ p ∈ TT1 ++ news ++ own, p.1 ≠ lq := fun p hp => by
      rcases List.mem_append.mp hp with hp | hp
      · exact ne_of_allLt hlq.2 (Nat.le_refl _) p hp
      · rcases hown p hp with e | e
        · rw [e]; exact hlD.symm
        · rw [e]; exact Nat.ne_of_lt hlq.1
    k_steps
    rename_i F9 N9
    try simp only [List.push_toArray] at N9
    refine ⟨_, _, _, (lq, _) :: (rl, W.listOf (List.toArray its) 0) :: (TT1 ++ news), rfl, F9, fun q hq => N9 q ?_, fun q hq => ?_, ?_, _, _, qs ++ [_], us ++ [.int ((r * 2 ^ ((Builtin.Int.intBits b : Nat) : Int).toNat + d).fdiv b) tq], cnt + 1, rfl, rfl, hU.append (.cons _ _ .nil), hInv.step (ds_dig _ _ _) (by rw [ds_length]; exact hi) (by rw [ds_length]; exact hd) hbl⟩
    · simp only [List.cons_append] at hq
      rcases List.mem_cons.mp hq with rfl | hq
      · exact List.Mem.tail _ (List.Mem.head _)
      rcases List.mem_cons.mp hq with rfl | hq
      · exact List.Mem.tail _ (List.Mem.tail _ (List.Mem.head _))
      repeat (first | exact hq | apply List.mem_cons_of_mem)
    · refine fun e => hoff (q.1, q.2) ?_ (List.mem_singleton.mp e)
      rcases List.mem_cons.mp hq with rfl | hq
      · exact absurd (List.mem_singleton.mp e) hlD
      · exact .tail _ hq
    · intro z hz
      have z1 : z ≠ PySem.Str.ofString "a_digit" := fun e => hz (by simp [e])
      have z2 : z ≠ PySem.Str.ofString "q_digit" := fun e => hz (by simp [e])
      have z3 : z ≠ PySem.Str.ofString "r" := fun e => hz (by simp [e])
      simp only [if_neg z1, if_neg z2, if_neg z3]
      rfl
  · rintro m₁ news₁ h tk ⟨hK, r, tr, qs, us, cnt, hr, rfl, hU, hInv⟩ hoff F₁ N₁
    rw [hK.ov] at F₁
    dsimp only [ov, List.map] at F₁
    rw [hr] at F₁
    rw [hLen] at hInv
    have hql : qs.length = (((Builtin.Int.intBits a : Int) + Builtin.Int.intBits b - 1).fdiv (Builtin.Int.intBits b)).toNat := hInv.2.2.2.1
    have hnk0 := nd_mul_le (k := Builtin.Int.intBits a) hbp
    have hus : us.length ≤ 64 := by rw [hU.length, hql]; omega
    have hLtq := hlq.2
    have hUr := hU.reverse
    have hDr := hInv.dig
    have hnk : Builtin.Int.intBits b * qs.reverse.length ≤ 60 := by rw [List.length_reverse, hql]; omega
    have hnl : qs.reverse.length ≤ 64 := by rw [List.length_reverse, hql]; omega
    have h37r := hT.lt (d := rl) (fun q hq => hlt' q (List.mem_append_left _ hq))
    have hne2 : ∀ q ∈ ((lq, W.listOf (List.toArray us.reverse) cnt) :: (rl, W.listOf (List.toArray its) 0) :: news : List (Addr × Obj)), q.1 ≠ 30 ∧ q.1 ≠ 37 := fun q hq => by
      rcases List.mem_cons.mp hq with rfl | hq
      · refine ⟨neN ?_, neN ?_⟩ <;> (dsimp only; omega)
      rcases List.mem_cons.mp hq with rfl | hq
      · refine ⟨neN ?_, neN ?_⟩ <;> (dsimp only; omega)
      · exact hne q hq
    dsimp only
    k_steps
    rename_i kF kN _ _
    have hfin := DInv.done (ns := ds (Builtin.Int.intBits b) a (((Builtin.Int.intBits a : Int) + Builtin.Int.intBits b - 1).fdiv (Builtin.Int.intBits b)).toNat) (by rw [ds_length]; exact hInv)
    rw [unq_all h0 hbp] at hfin
    obtain ⟨e1, e2⟩ := hfin
    rw [← e1, ← e2] at hret
    refine hret _ td tr TT2 _ _ kF (fun q hq => kN q ?_) hT2 (hgr'.trans hgr2 fun z hz => ⟨z, .tail _ (.tail _ hz), rfl⟩)
    rcases List.mem_cons.mp hq with rfl | hq
    · exact List.Mem.head _
    · exact .tail _ (.tail _ (.tail _ hq))
end Mine
end
section
open PySem PySem.W PyProof.Rows PySem.Spec PySem.Calls
set_option Elab.async false
set_option maxRecDepth 100000
namespace Mine
local macro_rules | `(tactic| k_all) => `(tactic| (refine' ne_of_allLt (by assumption) ?hd; (case hd => omega)))
local macro_rules | `(tactic| k_all) => `(tactic| with_reducible assumption)
set_option hygiene false in
local macro_rules | `(tactic| walk_at "call ref") => `(tactic| (k_here; (with_reducible show wpAny _ _ (call (Value.ref 49) _) _ _ _); k_dflt (refine' dmp_c ?B ?F ?X ?T ?hk ?N ?hT ?hne ?h0 ?h1 ?h2 ?h3 ?hd ?hu ?_; (case B => k_asm); (case F => k_asm); (case X => k_asm); (case T => k_asm); (case hk => first | exact rfl | assumption); (case N => k_asm); (case hT => assumption); (case hne => assumption); (case h0 => omega); (case h1 => omega); (case h2 => omega); (case h3 => omega); (case hd => ktr_room); (case hu => ktr_units); k_whole); intro rd td ud TT1 h' tk' F' N' hT1 hgr1; (try dsimp only)))

set_option maxHeartbeats 1000000 in
theorem idm_c {w : World} {a b : Int} {ta tb : Tok} {TT news : List (Addr × Obj)} {p : Program} {loose : List Str} {mean : ExcName → Option Value} {mg mb : Str → Option Value} {dp un : Nat} {gd : Option (List Code)} {cn : Str} {cs : Scope} {a' : Addr} {ccd : Value} {cl : List (Str × Addr)} {outer : List Env} {A₀ : Around} {base h₀ : Heap} {L : Addr} {m : Str → Option Value} {s : Shared} {Q E : Value → Shared → Prop}
    (B : Below A₀ base outer h₀) (F : Fr h₀ L s.heap m) (X : (Mine.hd.heap_39 w.params).In h₀) (T : Top p loose mean mg mb h₀) (hk : cs.kind = .function) (N : News h₀ L s.heap (TT ++ news)) (hT : Tabs TT) (hne : ∀ q ∈ news, q.1 ≠ 30 ∧ q.1 ≠ 37)
    (h0 : 0 ≤ a) (h1 : a < 2 ^ 50) (h2 : 0 < b) (h3 : b < 2 ^ 9) (hd : dp + 90 < recursionLimit) (hu : un + 720 < cLine)
    (hret : ∀ r t u TT' h' tk', Fr h₀ L h' m → News h₀ L h' ((r, tupObj [.int (a / b) t, .int (a % b) u]) :: (TT' ++ news)) → Tabs TT' → Grew news TT TT' → Q (.ref r) { s with heap := h', toks := tk' }) :
    wpAny (model PySem.Challenge.rw_ht0001_01.row.prog w) (ktrTop dp un gd cn cs L a' ccd cl outer) (call (.ref 56) [.int a ta, .int b tb]) Q E s := by
  w_top off
  revert X; k_fill; intro X
  refine wpAny_call ?_
  k_dflt (refine' code_def ?k1 ?k2 ?k3 ?k4 ?k5 ?kA ?kF ?kK ?k6 ?k7 ?k8 ?k9 ?kB ?_ ?c2 ?c3 ?c4 ?c5; (case kA => exact rfl); (case kF => exact rfl); (case kK => assumption); (case k1 => k_asm); (case k2 => k_asm); (case k3 => k_asm); (case k4 => k_asm); (case k5 => k_asm); (case k6 => k_is); (case k7 => k_is); (case k8 => ktr_room); (case k9 => exact BindsTo.of_eq rfl); (case c5 => decide); (case kB => exact locs rfl); (case c2 => exact rfl); (case c3 => exact rfl); (case c4 => exact rfl); k_whole)
  intro g' L' h' FG' F' N' B' X' T'
  (try dsimp only)
  (try k_lift B')
  (try k_fold)
  k_steps
  · exfalso; omega
  · rename_i kF kN _ _
    exact hret _ _ _ _ _ _ kF kN hT1 hgr1

end Mine
end
section
open PySem PySem.W PyProof.Rows PySem.Spec PySem.Calls
set_option Elab.async false
set_option maxRecDepth 100000
namespace Mine
local macro_rules | `(tactic| k_all) => `(tactic| (refine' ne_of_allLt (by assumption) ?hd; (case hd => omega)))
local macro_rules | `(tactic| k_all) => `(tactic| with_reducible assumption)
def Halt (p : Prop) : Prop := p
theorem halt {p : Prop} (h : Halt p) : p := h
local macro_rules | `(tactic| walk_at "pyIter ref") => `(tactic| (k_here; refine halt ?_))
set_option hygiene false in
local macro_rules | `(tactic| walk_at "call ref") => `(tactic| (k_here; (with_reducible show wpAny _ _ (call (Value.ref 56) _) _ _ _); k_dflt (refine' idm_c ?B ?F ?X ?T ?hk (toT1 ?N) ?hT ?hne ?h0 ?h1 ?h2 ?h3 ?hd ?hu ?_; (case B => k_asm); (case F => k_asm); (case X => k_asm); (case T => k_asm); (case hk => first | exact rfl | assumption); (case N => k_asm); (case hT => assumption); (case hne => exact hne2); (case h0 => omega); (case h1 => omega); (case h2 => omega); (case h3 => omega); (case hd => ktr_room); (case hu => ktr_units); k_whole); intro rd td ud TT2 h' tk' F' N' hT2 hgr2; (replace N' := ofH1 N'); (have hlf2 := hgr2.ne ⟨_, List.Mem.head _, rfl⟩ hlf1); (have hne1 := ne_join hlf2 hnl); (have hrd := News.apart N' (List.Mem.head _) (List.Mem.tail _ (List.Mem.head _)) (fun e => absurd (Value.type.inj e) (by decide))); (try dsimp only)))

set_option maxHeartbeats 1000000 in
theorem fig_c {w : World} {a b : Int} {ta tb : Tok} {TT news : List (Addr × Obj)} {p : Program} {loose : List Str} {mean : ExcName → Option Value} {mg mb : Str → Option Value} {dp un : Nat} {gd : Option (List Code)} {cn : Str} {cs : Scope} {a' : Addr} {ccd : Value} {cl : List (Str × Addr)} {outer : List Env} {A₀ : Around} {base h₀ : Heap} {L : Addr} {m : Str → Option Value} {s : Shared} {Q E : Value → Shared → Prop}
    (B : Below A₀ base outer h₀) (F : Fr h₀ L s.heap m) (X : (Mine.hd.heap_39 w.params).In h₀) (T : Top p loose mean mg mb h₀) (hk : cs.kind = .function) (N : News h₀ L s.heap (TT ++ news)) (hT : Tabs TT) (hne : ∀ q ∈ news, q.1 ≠ 30 ∧ q.1 ≠ 37)
    (h0 : 0 ≤ a) (h1 : a < 2 ^ 50) (h2 : 1 < b) (h3 : b < 2 ^ 9) (hd : dp + 100 < recursionLimit) (hu : un + 800 < cLine)
    (hret : ∀ r its nn TT' h' tk', Fr h₀ L h' m → News h₀ L h' ((r, W.listOf (List.toArray its) nn) :: (TT' ++ news)) → IntsAre its (figs b 30 a) → Tabs TT' → Grew news TT TT' → (∀ q ∈ TT', q.1 ≠ r) → (∀ q ∈ news, q.1 < r) → Q (.ref r) { s with heap := h', toks := tk' }) :
    wpAny (model PySem.Challenge.rw_ht0001_01.row.prog w) (ktrTop dp un gd cn cs L a' ccd cl outer) (call (.ref 77) [.int a ta, .int b tb]) Q E s := by
  w_top off
  revert X; k_fill; intro X
  refine wpAny_call ?_
  k_dflt (refine' code_def ?k1 ?k2 ?k3 ?k4 ?k5 ?kA ?kF ?kK ?k6 ?k7 ?k8 ?k9 ?kB ?_ ?c2 ?c3 ?c4 ?c5; (case kA => exact rfl); (case kF => exact rfl); (case kK => assumption); (case k1 => k_asm); (case k2 => k_asm); (case k3 => k_asm); (case k4 => k_asm); (case k5 => k_asm); (case k6 => k_is); (case k7 => k_is); (case k8 => ktr_room); (case k9 => exact BindsTo.of_eq rfl); (case c5 => decide); (case kB => exact locs rfl); (case c2 => exact rfl); (case c3 => exact rfl); (case c4 => exact rfl); k_whole)
  intro g' L' h' FG' F' N' B' X' T'
  (try dsimp only)
  (try k_lift B')
  (try k_fold)
  k_steps
  rename_i lf _ hlf _ _ _ _ _ _ _ _ hr F2 N2 _
  have h30 := hT.lt (d := lf) (fun q hq => hlf q (List.mem_append_left _ hq))
  have hnl0 : ∀ q ∈ news, q.1 ≠ lf := fun q hq => Nat.ne_of_lt (hlf q (List.mem_append_right _ hq))
  unfold Halt
  refine range_loop (n := 30) (J := fun i mm nx => Kp [PySem.Str.ofString "turn", PySem.Str.ofString "number", PySem.Str.ofString "rest"] _ mm ∧
      ∃ num tn fs us cnt TT1, mm (PySem.Str.ofString "number") = some (.int num tn) ∧ nx = (lf, W.listOf (List.toArray us) cnt) :: (TT1 ++ news) ∧ IntsAre us fs ∧ Tabs TT1 ∧ Grew news TT TT1 ∧ (∀ q ∈ TT1, q.1 ≠ lf) ∧
        fs ++ figs b (30 - i) num = figs b 30 a ∧ 0 ≤ num ∧ num < 2 ^ 50 ∧ fs.length ≤ i)
    rfl (by assumption) (by decide) (by decide) F2 N2 ⟨Kp.refl, a, ta, [], [], 0, TT, rfl, rfl, .nil, hT, .refl, fun q hq => Nat.ne_of_lt (hlf q (List.mem_append_left _ hq)), rfl, h0, h1, Nat.le_refl _⟩ ?_ ?_
  · rintro I i t m₁ news₁ h tk own o hI hi ⟨hK, num, tn, fs, us, cnt, TT1, hr1, rfl, hU, hT1, hgr1, hlf1, hfs, hn0, hn1, hfl⟩ hoff hown hIo F₁ N₁
    rw [hK.ov] at F₁
    dsimp only [ov, List.map] at F₁
    rw [hr1] at F₁
    simp only [List.cons_append, List.append_assoc] at N₁
    have hus : us.length ≤ 64 := by rw [hU.length]; omega
    have hlI : lf < I := hI _ (.head _)
    have hnl : ∀ q ∈ news ++ own, q.1 ≠ lf := ne_join hnl0 fun q hq => by rw [hown q hq]; exact Nat.ne_of_gt hlI
    have hne2 : ∀ q ∈ ((lf, W.listOf (List.toArray us) cnt) :: (news ++ own) : List (Addr × Obj)), q.1 ≠ 30 ∧ q.1 ≠ 37 := fun q hq => by
      rcases List.mem_cons.mp hq with rfl | hq
      · refine ⟨neN ?_, neN ?_⟩ <;> (dsimp only; omega)
      rcases List.mem_append.mp hq with hq | hq
      · exact hne q hq
      · have hlI' := ltN hlI
        rw [hown q hq]; refine ⟨neN ?_, neN ?_⟩ <;> omega
    have hd0 : num ≠ 0 → 0 ≤ num / b ∧ num / b ≤ num := fun _ => ⟨Int.ediv_nonneg hn0 (by omega), Int.ediv_le_self _ hn0⟩
    k_steps
    · dsimp only
      dsimp only [TEnd]
      k_steps
      rename_i kF kN _ _
      have hz : num = 0 := by assumption
      rw [hz, figs_zero, List.append_nil] at hfs
      refine hret lf us cnt TT1 _ _ kF (fun q hq => kN q ?_) (hfs ▸ hU) hT1 hgr1 hlf1 (fun q hq => hlf q (List.mem_append_right _ hq))
      rcases List.mem_cons.mp hq with rfl | hq
      · exact .head _
      rcases List.mem_append.mp hq with hq | hq
      · exact .tail _ (List.mem_append_left _ hq)
      · exact .tail _ (List.mem_append_right _ (List.mem_append_left _ hq))
    · rename_i F9 N9
      have hz : num ≠ 0 := by assumption
      try simp only [List.push_toArray] at N9
      have hdz := hd0 hz
      refine ⟨_, _, _, (lf, _) :: (TT2 ++ news), rfl, F9, fun q hq => N9 q ?_, fun q hq e => ?_, ?_, num / b, td, fs ++ [num % b], us ++ [.int (num % b) ud], cnt + 1, TT2, rfl, rfl, hU.append (.cons _ _ .nil), hT2, hgr1.trans hgr2 fun z hz => ⟨z, .tail _ (List.mem_append_left _ hz), rfl⟩, hlf2, ?_, hdz.1, Int.lt_of_le_of_lt hdz.2 hn1, by simp; exact hfl⟩
      · simp only [List.cons_append, List.append_assoc] at hq
        rcases List.mem_cons.mp hq with rfl | hq
        · exact .tail _ (.head _)
        · exact .tail _ (.tail _ hq)
      · have e := List.mem_singleton.mp e
        rcases List.mem_cons.mp hq with rfl | hq
        · exact absurd e (Nat.ne_of_lt hlI)
        rcases List.mem_append.mp hq with hq | hq
        · rcases hgr2 q hq with ⟨z, hz, e2⟩ | h2
          · exact hoff z (.tail _ (List.mem_append_left _ hz)) (e2.trans e)
          · exact absurd (h2 _ (.tail _ (List.mem_append_right _ hIo))) (by rw [e]; exact Nat.lt_irrefl _)
        · exact hoff q (.tail _ (List.mem_append_right _ hq)) e
      · intro z hz
        have z1 : z ≠ PySem.Str.ofString "turn" := fun e => hz (by simp [e])
        have z2 : z ≠ PySem.Str.ofString "number" := fun e => hz (by simp [e])
        have z3 : z ≠ PySem.Str.ofString "rest" := fun e => hz (by simp [e])
        simp only [if_neg z1, if_neg z2, if_neg z3]
        rfl
      · rw [← hfs, show 30 - i = (30 - (i + 1)) + 1 by omega, figs, if_neg hz]
        simp
  · rintro m₁ news₁ h tk ⟨hK, num, tn, fs, us, cnt, TT1, hr1, rfl, hU, hT1, hgr1, hlf1, hfs, hn0, hn1, hfl⟩ F₁ N₁
    rw [hK.ov] at F₁
    dsimp only [ov, List.map] at F₁
    rw [hr1] at F₁
    dsimp only
    k_steps
    rename_i kF kN _ _
    rw [show figs b (30 - 30) num = [] from rfl, List.append_nil] at hfs
    refine hret lf us cnt TT1 _ _ kF kN (hfs ▸ hU) hT1 hgr1 hlf1 (fun q hq => hlf q (List.mem_append_right _ hq))
end Mine
end
section
open PySem PySem.W PyProof.Rows PySem.Spec PySem.Calls
set_option Elab.async false
set_option maxRecDepth 100000
namespace Mine
local macro_rules | `(tactic| walk_at "pad 0 of A10") => `(tactic| fail "pad")
local macro_rules | `(tactic| walk_at "pad 1 of A10") => `(tactic| fail "pad")
local macro_rules | `(tactic| walk_at "pad 2 of A10") => `(tactic| fail "pad")
local macro_rules | `(tactic| walk_at "pad 3 of A10") => `(tactic| fail "pad")
local macro_rules | `(tactic| walk_at "pad 4 of A10") => `(tactic| fail "pad")
local macro_rules | `(tactic| walk_at "pad 5 of A10") => `(tactic| fail "pad")
local macro_rules | `(tactic| k_all) => `(tactic| (refine' ne_of_allLt (by assumption) ?hd; (case hd => omega)))
local macro_rules | `(tactic| k_all) => `(tactic| with_reducible assumption)

local macro_rules | `(tactic| walk_at "exec For Tuple Call") => `(tactic| (k_here; (rename Fr _ _ _ _ => lF'); (rename News _ _ _ _ => lN'); with_unfolding_all ((refine' For_turns lF' ?_); k_whole; (refine MethodCall_ ?_); (refine ld lF' (by rfl) ?_); (refine getMethod_tab (knd := PySem.strKind _ _) (enc := PyData.str) PySem.F.slot_dict_items PySem.F.type_dict_items (by k_tabat) ?_); (refine callWith_method0 ?_); (refine call_items_tab (knd := PySem.strKind _ _) (enc := PyData.str) (by k_tabat) lF' lN' ?_); intro h' o' hv' F' N'; (replace N' := kti_tail N'); (refine kti_items (knd := PySem.strKind _ _) (enc := PyData.str) (xs := []) (by rfl) F' N' hv' (by k_tabat) (by k_mem) (fun _ _ h => Value.isStrOf_shape h) (by rfl) ?_)); clear lF' lN'; intro i' l1; (try k_lt l1)))
set_option maxHeartbeats 1000000 in
theorem adc_c {w : World} {t1 t2 : Addr} {o1 o2 : Obj} {news : List (Addr × Obj)} {p : Program} {loose : List Str} {mean : ExcName → Option Value} {mg mb : Str → Option Value} {dp un : Nat} {gd : Option (List Code)} {cn : Str} {cs : Scope} {a' : Addr} {ccd : Value} {cl : List (Str × Addr)} {outer : List Env} {A₀ : Around} {base h₀ : Heap} {L : Addr} {m : Str → Option Value} {s : Shared} {Q E : Value → Shared → Prop}
    (B : Below A₀ base outer h₀) (F : Fr h₀ L s.heap m) (X : (Mine.hd.heap_39 w.params).In h₀) (T : Top p loose mean mg mb h₀) (hk : cs.kind = .function) (N : News h₀ L s.heap ((t1, o1) :: (t2, o2) :: news)) (hs1 : (t1 == sysModules) = false) (hs2 : (t2 == sysModules) = false)
    (d1 : o1.IsDictOf (strKind PySem.Challenge.rw_ht0001_01.row.prog w) []) (d2 : o1.IsDictOf (intKind PySem.Challenge.rw_ht0001_01.row.prog w) []) (e1 : o2.IsDictOf (strKind PySem.Challenge.rw_ht0001_01.row.prog w) []) (e2 : o2.IsDictOf (intKind PySem.Challenge.rw_ht0001_01.row.prog w) []) (f1 : PyProof.V.FlatPairs PyData.str [] []) (f2 : PyProof.V.FlatPairs PyData.int [] [])
    (hd : dp + 2 < recursionLimit) (hu : un + 16 < cLine)
    (hret : ∀ r o h' tk', Fr h₀ L h' m → News h₀ L h' ((r, o) :: (t1, o1) :: (t2, o2) :: news) → (r == sysModules) = false → o.IsDictOf (strKind PySem.Challenge.rw_ht0001_01.row.prog w) [] → o.IsDictOf (intKind PySem.Challenge.rw_ht0001_01.row.prog w) [] → (∀ q ∈ news, q.1 < r) → Q (.ref r) { s with heap := h', toks := tk' }) :
    wpAny (model PySem.Challenge.rw_ht0001_01.row.prog w) (ktrTop dp un gd cn cs L a' ccd cl outer) (call (.ref 70) [.ref t1, .ref t2]) Q E s := by
  w_top off
  revert X; k_fill; intro X
  refine wpAny_call ?_
  k_dflt (refine' code_def ?k1 ?k2 ?k3 ?k4 ?k5 ?kA ?kF ?kK ?k6 ?k7 ?k8 ?k9 ?kB ?_ ?c2 ?c3 ?c4 ?c5; (case kA => exact rfl); (case kF => exact rfl); (case kK => assumption); (case k1 => k_asm); (case k2 => k_asm); (case k3 => k_asm); (case k4 => k_asm); (case k5 => k_asm); (case k6 => k_is); (case k7 => k_is); (case k8 => ktr_room); (case k9 => exact BindsTo.of_eq rfl); (case c5 => decide); (case kB => exact locs rfl); (case c2 => exact rfl); (case c3 => exact rfl); (case c4 => exact rfl); k_whole)
  intro g' L' h' FG' F' N' B' X' T'
  (try dsimp only)
  (try k_lift B')
  (try k_fold)
  k_steps
  rename_i kF kN _ _
  exact hret _ _ _ _ kF kN (by assumption) (by assumption) (by assumption) (fun q hq => allLt_all (And.right (And.right (by assumption))) q hq)

set_option hygiene false in
local macro_rules | `(tactic| walk_at "call ref") => `(tactic| (k_here; (with_reducible show wpAny _ _ (call (Value.ref 70) _) _ _ _); k_dflt (refine' adc_c ?B ?F ?X ?T ?hk ?N hs1 hs2 d1 d2 e1 e2 f1 f2 ?hd ?hu ?_; (case B => k_asm); (case F => k_asm); (case X => k_asm); (case T => k_asm); (case hk => first | exact rfl | assumption); (case N => k_asm); (case hd => ktr_room); (case hu => ktr_units); k_whole); intro rd od h' tk' F' N' hr3 hr1 hr2 hlt'; (try dsimp only)))

theorem drop4 {h₀ h : Heap} {L : Addr} {x y a b c d : Addr × Obj} {n : List (Addr × Obj)} (N : News h₀ L h (x :: y :: a :: b :: c :: d :: n)) : News h₀ L h (x :: y :: n) := fun q hq => by
  rcases List.mem_cons.mp hq with rfl | hq
  · exact N _ (.head _)
  rcases List.mem_cons.mp hq with rfl | hq
  · exact N _ (.tail _ (.head _))
  · exact N q (.tail _ (.tail _ (.tail _ (.tail _ (.tail _ (.tail _ hq))))))
set_option maxHeartbeats 1000000 in
theorem afs_c {w : World} {t1 t2 t s' : Addr} {o1 o2 : Obj} {a1 a2 a3 a4 b1 b2 b3 b4 : Int} {x1 x2 x3 x4 y1 y2 y3 y4 : Tok} {news : List (Addr × Obj)} {p : Program} {loose : List Str} {mean : ExcName → Option Value} {mg mb : Str → Option Value} {dp un : Nat} {gd : Option (List Code)} {cn : Str} {cs : Scope} {a' : Addr} {ccd : Value} {cl : List (Str × Addr)} {outer : List Env} {A₀ : Around} {base h₀ : Heap} {L : Addr} {m : Str → Option Value} {s : Shared} {Q E : Value → Shared → Prop}
    (B : Below A₀ base outer h₀) (F : Fr h₀ L s.heap m) (X : (Mine.hd.heap_39 w.params).In h₀) (T : Top p loose mean mg mb h₀) (hk : cs.kind = .function) (N : News h₀ L s.heap ((t1, o1) :: (t2, o2) :: (t, tupObj [.int a1 x1, .int a2 x2, .int a3 x3, .int a4 x4, .ref t1]) :: (s', tupObj [.int b1 y1, .int b2 y2, .int b3 y3, .int b4 y4, .ref t2]) :: news)) (hs1 : (t1 == sysModules) = false) (hs2 : (t2 == sysModules) = false)
    (d1 : o1.IsDictOf (strKind PySem.Challenge.rw_ht0001_01.row.prog w) []) (d2 : o1.IsDictOf (intKind PySem.Challenge.rw_ht0001_01.row.prog w) []) (e1 : o2.IsDictOf (strKind PySem.Challenge.rw_ht0001_01.row.prog w) []) (e2 : o2.IsDictOf (intKind PySem.Challenge.rw_ht0001_01.row.prog w) []) (f1 : PyProof.V.FlatPairs PyData.str [] []) (f2 : PyProof.V.FlatPairs PyData.int [] [])
    (hd : dp + 4 < recursionLimit) (hu : un + 32 < cLine)
    (hret : ∀ r r1 o z1 z2 z3 z4 h' tk', Fr h₀ L h' m → News h₀ L h' ((r, tupObj [.int (b1 + a1) z1, .int (b2 + a2) z2, .int (b3 + a3) z3, .int (b4 + a4) z4, .ref r1]) :: (r1, o) :: news) → (r1 == sysModules) = false → o.IsDictOf (strKind PySem.Challenge.rw_ht0001_01.row.prog w) [] → o.IsDictOf (intKind PySem.Challenge.rw_ht0001_01.row.prog w) [] → (∀ q ∈ news, q.1 < r) → (∀ q ∈ news, q.1 < r1) → Q (.ref r) { s with heap := h', toks := tk' }) :
    wpAny (model PySem.Challenge.rw_ht0001_01.row.prog w) (ktrTop dp un gd cn cs L a' ccd cl outer) (call (.ref 63) [.ref t, .ref s']) Q E s := by
  w_top off
  revert X; k_fill; intro X
  refine wpAny_call ?_
  k_dflt (refine' code_def ?k1 ?k2 ?k3 ?k4 ?k5 ?kA ?kF ?kK ?k6 ?k7 ?k8 ?k9 ?kB ?_ ?c2 ?c3 ?c4 ?c5; (case kA => exact rfl); (case kF => exact rfl); (case kK => assumption); (case k1 => k_asm); (case k2 => k_asm); (case k3 => k_asm); (case k4 => k_asm); (case k5 => k_asm); (case k6 => k_is); (case k7 => k_is); (case k8 => ktr_room); (case k9 => exact BindsTo.of_eq rfl); (case c5 => decide); (case kB => exact locs rfl); (case c2 => exact rfl); (case c3 => exact rfl); (case c4 => exact rfl); k_whole)
  intro g' L' h' FG' F' N' B' X' T'
  (try dsimp only)
  (try k_lift B')
  (try k_fold)
  k_steps
  rename_i kF kN _ _
  refine hret _ rd od _ _ _ _ _ _ kF (drop4 kN) hr3 hr1 hr2 (fun q hq => ?_) (fun q hq => hlt' q (.tail _ (.tail _ hq)))
  have := ltN (hlt' q (.tail _ (.tail _ hq)))
  refine ltN ?_
  omega
end Mine
end
section
open PySem PySem.W PyProof.Rows PySem.Spec PySem.Calls
set_option Elab.async false
set_option maxRecDepth 100000
namespace Mine
local macro_rules | `(tactic| k_all) => `(tactic| (refine' ne_of_allLt (by assumption) ?hd; (case hd => omega)))
local macro_rules | `(tactic| k_all) => `(tactic| with_reducible assumption)

local macro_rules | `(tactic| walk_at "exec For Tuple Call") => `(tactic| (k_here; (rename Fr _ _ _ _ => lF'); with_unfolding_all (refine' For_turns lF' ?_); k_whole))
local macro_rules | `(tactic| walk_at "subscriptTail Name Slice ref ref") => `(tactic| (k_here; k_dflt (refine' slice3 ?F ?N ?t ?_ ?hs ?hg; (case F => k_asm); (case N => k_asm); (case t => exact News.isTup (by k_asm) (by k_mem)); (case hs => with_unfolding_all rfl); (case hg => intro _; with_unfolding_all rfl)); intro h' F' N'))
local macro_rules | `(tactic| walk_at "call type:enumerate") => `(tactic| (k_here; refine halt ?_))
set_option hygiene false in
local macro_rules | `(tactic| walk_at "call ref") => `(tactic| (k_here; (with_reducible show wpAny _ _ (call (Value.ref 77) _) _ _ _); k_dflt (refine' fig_c ?B ?F ?X ?T ?hk (toT2 ?N) ?hT ?hne ?h0 ?h1 ?h2 ?h3 ?hd ?hu ?_; (case B => k_asm); (case F => k_asm); (case X => k_asm); (case T => k_asm); (case hk => first | exact rfl | assumption); (case N => k_asm); (case hT => assumption); (case hne => exact off2 hT hne (by assumption) (And.left (by assumption))); (case h0 => omega); (case h1 => omega); (case h2 => omega); (case h3 => omega); (case hd => ktr_room); (case hu => ktr_units); k_whole); intro rf its nf TT1 h' tk' F' N' hI' hT1 hgr1 hrf1 hrf2; (replace N' := ofH2 N'); (try dsimp only)))
set_option hygiene false in
local macro_rules | `(tactic| walk_at "call ref") => `(tactic| (k_here; (with_reducible show wpAny _ _ (call (Value.ref 63) _) _ _ _); k_dflt (refine' afs_c ?B ?F ?X ?T ?hk (dup4 ?N ?m1 ?m2 ?m3 ?m4) ?hs1 ?hs2 ?d1 ?d2 ?e1 ?e2 ff1 ff2 ?hd ?hu ?_; (case B => k_asm); (case F => k_asm); (case X => k_asm); (case T => k_asm); (case hk => first | exact rfl | assumption); (case N => k_asm); (case m3 => k_mem); (case m1 => k_mem); (case m4 => k_mem); (case m2 => k_mem); (case hs1 => assumption); (case hs2 => assumption); (case d1 => assumption); (case d2 => assumption); (case e1 => assumption); (case e2 => assumption); (case hd => ktr_room); (case hu => ktr_units); k_whole); intro r9 r8 o9 z1 z2 z3 z4 h' tk' F' N' hr9 hd9 hi9 lt9 lt8; (try dsimp only)))

set_option maxHeartbeats 1000000 in
theorem sum_c {w : World} {a b : Int} {ta tb : Tok} {TT news : List (Addr × Obj)} {p : Program} {loose : List Str} {mean : ExcName → Option Value} {mg mb : Str → Option Value} {dp un : Nat} {gd : Option (List Code)} {cn : Str} {cs : Scope} {a' : Addr} {ccd : Value} {cl : List (Str × Addr)} {outer : List Env} {A₀ : Around} {base h₀ : Heap} {L : Addr} {m : Str → Option Value} {s : Shared} {Q E : Value → Shared → Prop}
    (B : Below A₀ base outer h₀) (F : Fr h₀ L s.heap m) (X : (Mine.hd.heap_39 w.params).In h₀) (T : Top p loose mean mg mb h₀) (hk : cs.kind = .function) (N : News h₀ L s.heap (TT ++ news)) (hT : Tabs TT) (hne : ∀ q ∈ news, q.1 ≠ 30 ∧ q.1 ≠ 37)
    (h0 : 0 ≤ a) (h1 : a < 2 ^ 50) (h2 : 1 < b) (h3 : b < 2 ^ 9) (hd : dp + 110 < recursionLimit) (hu : un + 880 < cLine)
    (hret : ∀ r t1 t2 t3 TT' h' tk', Fr h₀ L h' m → News h₀ L h' ((r, tupObj [.int (figs b 30 a).sum t1, .int (alts (figs b 30 a)) t2, .int (figs b 30 a).length t3]) :: (TT' ++ news)) → Tabs TT' → Grew news TT TT' → Q (.ref r) { s with heap := h', toks := tk' }) :
    wpAny (model PySem.Challenge.rw_ht0001_01.row.prog w) (ktrTop dp un gd cn cs L a' ccd cl outer) (call (.ref 84) [.int a ta, .int b tb]) Q E s := by
  w_top off
  revert X; k_fill; intro X
  refine wpAny_call ?_
  k_dflt (refine' code_def ?k1 ?k2 ?k3 ?k4 ?k5 ?kA ?kF ?kK ?k6 ?k7 ?k8 ?k9 ?kB ?_ ?c2 ?c3 ?c4 ?c5; (case kA => exact rfl); (case kF => exact rfl); (case kK => assumption); (case k1 => k_asm); (case k2 => k_asm); (case k3 => k_asm); (case k4 => k_asm); (case k5 => k_asm); (case k6 => k_is); (case k7 => k_is); (case k8 => ktr_room); (case k9 => exact BindsTo.of_eq rfl); (case c5 => decide); (case kB => exact locs rfl); (case c2 => exact rfl); (case c3 => exact rfl); (case c4 => exact rfl); k_whole)
  intro g' L' h' FG' F' N' B' X' T'
  (try dsimp only)
  (try k_lift B')
  (try k_fold)
  k_steps
  rename_i d _ od hld hdm hds ff1 hdi ff2 D _ hlD _ F2 N2
  unfold Halt
  have hLen := hI'.length
  have hfd := figs_dig (b := b) (by omega) 30 a
  obtain ⟨m₀, em, F0⟩ := named_map F'
  refine enum_loop (lo := W.listOf (List.toArray its) nf) (vs := its) (n := nf) (m₀ := m₀) (J := fun i mm nx => Kp [PySem.Str.ofString "place", PySem.Str.ofString "figure", PySem.Str.ofString "whole"] m₀ mm ∧
      ∃ wh d od t1 t2 t3 t4, mm (PySem.Str.ofString "whole") = some (.ref wh) ∧ nx = (rf, W.listOf (List.toArray its) nf) :: (wh, tupObj [.int ((figs b 30 a).take i).sum t1, .int (alts ((figs b 30 a).take i)) t2, .int (i : Int) t3, .int 0 t4, .ref d]) :: (d, od) :: (TT1 ++ news) ∧
        (d == sysModules) = false ∧ od.IsDictOf (strKind PySem.Challenge.rw_ht0001_01.row.prog w) [] ∧ od.IsDictOf (intKind PySem.Challenge.rw_ht0001_01.row.prog w) [])
    rfl F0 N' (List.Mem.head _) rfl rfl ?_ ?_ ?_
  · subst em; exact ⟨Kp.refl, D, d, od, _, _, _, _, rfl, rfl, hdm, hds, hdi⟩
  · rintro I i x m₁ news₁ T9 t h tk o1 o2 hx ⟨hK, wh, d1, od1, t1, t2, t3, t4, hW, rfl, hdm1, hds1, hdi1⟩ hoff hl hTp F₁ N₁
    obtain ⟨f, tf, rfl, hf⟩ := int_item hI' hx
    have hf2 := hfd f (List.mem_of_getElem? hf)
    subst em
    rw [hK.ov] at F₁
    dsimp only [ov, List.map] at F₁
    rw [hW] at F₁
    k_steps
    rename_i F9 N9
    have hil : i < (figs b 30 a).length := by
      rcases Nat.lt_or_ge i (figs b 30 a).length with h | h
      · exact h
      · rw [List.getElem?_eq_none h] at hf; cases hf
    have e0 : (figs b 30 a).take (i + 1) = (figs b 30 a).take i ++ [f] := by rw [List.take_add_one, hf]; rfl
    have elen : ((figs b 30 a).take i).length = i := by rw [List.length_take]; omega
    have e1 : f + ((figs b 30 a).take i).sum = ((figs b 30 a).take (i + 1)).sum := by rw [e0, List.sum_append, List.sum_singleton]; omega
    have e2 : f * (1 - 2 * ((i : Nat) : Int).fmod 2) + alts ((figs b 30 a).take i) = alts ((figs b 30 a).take (i + 1)) := by
      rw [e0, alts_snoc, elen, Int.fmod_eq_emod_of_nonneg _ (by decide), Int.add_comm]
    have e3 : 1 + ((i : Nat) : Int) = ((i + 1 : Nat) : Int) := by omega
    rw [e1, e2, e3, show (0 : Int) + 0 = 0 from rfl] at N9
    refine ⟨_, _, _, (rf, W.listOf (List.toArray its) nf) :: (r9, _) :: (r8, o9) :: (TT1 ++ news), rfl, F9, fun q hq => N9 q ?_, fun p hp q hq => ?_, .head _, ?_, r9, r8, o9, z1, z2, z3, z4, rfl, rfl, hr9, hd9, hi9⟩
    · simp only [List.cons_append, List.nil_append] at hq
      rcases List.mem_cons.mp hq with rfl | hq
      · k_mem
      rcases List.mem_cons.mp hq with rfl | hq
      · k_mem
      rcases List.mem_cons.mp hq with rfl | hq
      · k_mem
      rcases List.mem_cons.mp hq with rfl | hq
      · k_mem
      rcases List.mem_cons.mp hq with rfl | hq
      · k_mem
      repeat (first | exact hq | apply List.mem_cons_of_mem)
    · rcases List.mem_cons.mp hp with rfl | hp
      · exact hoff _ (.head _) q hq
      rcases List.mem_cons.mp hp with rfl | hp
      · rcases List.mem_cons.mp hq with rfl | hq
        · exact Nat.ne_of_gt (lt9 _ (by k_mem))
        · rw [List.mem_singleton.mp hq]; exact Nat.ne_of_gt (lt9 _ (by k_mem))
      rcases List.mem_cons.mp hp with rfl | hp
      · rcases List.mem_cons.mp hq with rfl | hq
        · exact Nat.ne_of_gt (lt8 _ (by k_mem))
        · rw [List.mem_singleton.mp hq]; exact Nat.ne_of_gt (lt8 _ (by k_mem))
      · exact hoff p (.tail _ (.tail _ (.tail _ hp))) q hq
    · intro z hz
      have y1 : z ≠ PySem.Str.ofString "place" := fun e => hz (by simp [e])
      have y2 : z ≠ PySem.Str.ofString "figure" := fun e => hz (by simp [e])
      have y3 : z ≠ PySem.Str.ofString "whole" := fun e => hz (by simp [e])
      simp only [if_neg y1, if_neg y2, if_neg y3]
      rfl
  · rintro m₁ news₁ h tk ⟨hK, wh, d1, od1, t1, t2, t3, t4, hW, rfl, hdm1, hds1, hdi1⟩ F₁ N₁
    subst em
    rw [hK.ov] at F₁
    dsimp only [ov, List.map] at F₁
    rw [hW] at F₁
    dsimp only
    k_steps
    rename_i kF kN _ _
    rw [hLen, List.take_length] at kN
    refine hret _ t1 t2 t3 TT1 _ _ kF (fun q hq => kN q ?_) hT1 (fun q hq => (hgr1 q hq).imp id fun h z hz => h z (.tail _ (.tail _ hz)))
    rcases List.mem_cons.mp hq with rfl | hq
    · exact .head _
    · exact .tail _ (.tail _ (.tail _ (.tail _ hq)))
end Mine
end
section
open PySem PySem.W PyProof.Rows PySem.Spec PySem.Calls
set_option Elab.async false
set_option maxRecDepth 100000
namespace Mine
local macro_rules | `(tactic| k_all) => `(tactic| (refine' ne_of_allLt (by assumption) ?hd; (case hd => omega)))
local macro_rules | `(tactic| k_all) => `(tactic| with_reducible assumption)

local macro_rules | `(tactic| walk_at "exec While BoolOp") => `(tactic| (k_here; refine halt ?_))
set_option hygiene false in
local macro_rules | `(tactic| walk_at "call ref") => `(tactic| (k_here; (with_reducible show wpAny _ _ (call (Value.ref 84) _) _ _ _); k_dflt (refine' sum_c ?B ?F ?X ?T ?hk ?N ?hT ?hne ?h0 ?h1 ?h2 ?h3 ?hd ?hu ?_; (case B => k_asm); (case F => k_asm); (case X => k_asm); (case T => k_asm); (case hk => first | exact rfl | assumption); (case N => k_asm); (case hT => assumption); (case hne => exact hne); (case h0 => omega); (case h1 => omega); (case h2 => omega); (case h3 => omega); (case hd => ktr_room); (case hu => ktr_units); k_whole); intro rs y1 y2 y3 TT2 h' tk' F' N' hT2 hgr2; (try dsimp only)))

set_option maxHeartbeats 1000000 in
theorem last_c {w : World} {a b : Int} {ta tb : Tok} {TT news : List (Addr × Obj)} {p : Program} {loose : List Str} {mean : ExcName → Option Value} {mg mb : Str → Option Value} {dp un : Nat} {gd : Option (List Code)} {cn : Str} {cs : Scope} {a' : Addr} {ccd : Value} {cl : List (Str × Addr)} {outer : List Env} {A₀ : Around} {base h₀ : Heap} {L : Addr} {m : Str → Option Value} {s : Shared} {Q E : Value → Shared → Prop}
    (B : Below A₀ base outer h₀) (F : Fr h₀ L s.heap m) (X : (Mine.hd.heap_39 w.params).In h₀) (T : Top p loose mean mg mb h₀) (hk : cs.kind = .function) (N : News h₀ L s.heap (TT ++ news)) (hT : Tabs TT) (hne : ∀ q ∈ news, q.1 ≠ 30 ∧ q.1 ≠ 37)
    (h0 : 0 ≤ a) (h1 : a < 2 ^ 50) (h2 : 1 < b) (h3 : b < 2 ^ 9) (hd : dp + 120 < recursionLimit) (hu : un + 960 < cLine)
    (hret : ∀ r t1 t2 TT' h' tk', Fr h₀ L h' m → News h₀ L h' ((r, tupObj [.int (lst b 20 a).1 t1, .int (lst b 20 a).2 t2]) :: (TT' ++ news)) → Tabs TT' → Grew news TT TT' → Q (.ref r) { s with heap := h', toks := tk' }) :
    wpAny (model PySem.Challenge.rw_ht0001_01.row.prog w) (ktrTop dp un gd cn cs L a' ccd cl outer) (call (.ref 91) [.int a ta, .int b tb]) Q E s := by
  w_top off
  revert X; k_fill; intro X
  refine wpAny_call ?_
  k_dflt (refine' code_def ?k1 ?k2 ?k3 ?k4 ?k5 ?kA ?kF ?kK ?k6 ?k7 ?k8 ?k9 ?kB ?_ ?c2 ?c3 ?c4 ?c5; (case kA => exact rfl); (case kF => exact rfl); (case kK => assumption); (case k1 => k_asm); (case k2 => k_asm); (case k3 => k_asm); (case k4 => k_asm); (case k5 => k_asm); (case k6 => k_is); (case k7 => k_is); (case k8 => ktr_room); (case k9 => exact BindsTo.of_eq rfl); (case c5 => decide); (case kB => exact locs rfl); (case c2 => exact rfl); (case c3 => exact rfl); (case c4 => exact rfl); k_whole)
  intro g' L' h' FG' F' N' B' X' T'
  (try dsimp only)
  (try k_lift B')
  (try k_fold)
  k_steps
  rename_i F2 N2
  obtain ⟨m₀, em, F0⟩ := named_map F2
  unfold Halt
  refine whl_start (0 + 1) (while_loop (h₀ := g') (L := L') (J := fun k mm nx => Kp [PySem.Str.ofString "number", PySem.Str.ofString "times"] m₀ mm ∧
      ∃ num tn tt TT1, k ≤ 20 ∧ mm (PySem.Str.ofString "number") = some (.int num tn) ∧ mm (PySem.Str.ofString "times") = some (.int (20 - (k : Int)) tt) ∧ nx = TT1 ++ news ∧ Tabs TT1 ∧ Grew news TT TT1 ∧ 0 ≤ num ∧ num < 2 ^ 50 ∧
        (lst b k num).1 = (lst b 20 a).1 ∧ (lst b k num).2 + (20 - (k : Int)) = (lst b 20 a).2) ?hE ?turn 20 m₀ _ _ _ ?start F0 N2)
  case hE => first | passes_own | with_unfolding_all passes_own
  case start => subst em; exact ⟨Kp.refl, a, ta, _, TT, Nat.le_refl _, rfl, rfl, rfl, hT, .refl, h0, h1, rfl, by simp⟩
  case turn =>
    rintro k m₁ news₁ h tk ⟨hK, num, tn, tt, TT1, hk20, hr1, hr2, rfl, hT1, hgr1, hn0, hn1, hl1, hl2⟩ F₁ N₁
    subst em
    rw [hK.ov] at F₁
    dsimp only [ov, List.map] at F₁
    rw [hr1, hr2] at F₁
    k_steps
    · rename_i F9 N9
      obtain ⟨j, rfl⟩ : ∃ j, k = j + 1 := ⟨k - 1, by omega⟩
      have hb : b ≤ num := by assumption
      have hl : lst b (j + 1) num = ((lst b j (figs b 30 num).sum).1, (lst b j (figs b 30 num).sum).2 + 1) := by rw [lst, if_pos hb]
      rw [hl] at hl1 hl2
      have e : 20 - ((j + 1 : Nat) : Int) + 1 = 20 - (j : Int) := by omega
      rw [e] at F9
      have hs0 := figs_sum_nonneg (b := b) (by omega) 30 num
      have hs1 := figs_sum_le (b := b) (by omega) 30 num
      refine ⟨_, _, _, TT2 ++ news, rfl, F9, fun q hq => N9 q ?_, j, by omega, ?_, (figs b 30 num).sum, y1, _, TT2, by omega, rfl, rfl, rfl, hT2, hgr1.trans hgr2 fun z hz => ⟨z, hz, rfl⟩, hs0, by omega, hl1, by dsimp only at hl2; omega⟩
      · repeat (first | exact hq | apply List.mem_cons_of_mem)
      · intro z hz
        have y1 : z ≠ PySem.Str.ofString "number" := fun e => hz (by simp [e])
        have y2 : z ≠ PySem.Str.ofString "times" := fun e => hz (by simp [e])
        simp only [if_neg y1, if_neg y2]
        rfl
    · rename_i kF kN _ _
      have hk0 : k = 0 := by omega
      subst hk0
      rw [show lst b 0 num = (num, 0) from rfl] at hl1 hl2
      simp only [Int.zero_add] at hl1 hl2
      rw [← hl1, ← hl2] at hret
      exact hret _ tn tt TT1 _ _ kF kN hT1 hgr1
    · rename_i kF kN _ _
      have hb : ¬ b ≤ num := by assumption
      have hl : lst b k num = (num, 0) := by
        cases k with
        | zero => rfl
        | succ k => rw [lst, if_neg hb]
      rw [hl] at hl1 hl2
      simp only [Int.zero_add] at hl1 hl2
      rw [← hl1, ← hl2] at hret
      exact hret _ tn tt TT1 _ _ kF kN hT1 hgr1
end Mine
end
section
open PySem PySem.W PyProof.Rows PySem.Spec PySem.Calls
set_option Elab.async false
set_option maxRecDepth 100000
namespace Mine
local macro_rules | `(tactic| k_all) => `(tactic| (refine' ne_of_allLt (by assumption) ?hd; (case hd => omega)))
local macro_rules | `(tactic| k_all) => `(tactic| with_reducible assumption)
set_option hygiene false in
local macro_rules | `(tactic| k_mem) => `(tactic| exact List.mem_append_right _ hmem)

theorem sz_of {its : List Value} {ns : List Int} (h : IntsAre its ns) : (List.toArray its).size = ns.length := by rw [List.size_toArray, h.length]
theorem figs_len_of {its : List Value} {b n : Int} {k : Nat} (_h : IntsAre its (figs b k n)) : (figs b k n).length ≤ k := figs_length b k n
set_option hygiene false in
local macro_rules | `(tactic| walk_at "call ref") => `(tactic| (k_here; (with_reducible show wpAny _ _ (call (Value.ref 84) _) _ _ _); k_dflt (refine' sum_c (news := news) ?B ?F ?X ?T ?hk ?N ?hT ?hne ?h0 ?h1 ?h2 ?h3 ?hd ?hu ?_; (case B => k_asm); (case F => k_asm); (case X => k_asm); (case T => k_asm); (case hk => first | exact rfl | assumption); (case hT => assumption); (case N => (rename News _ _ _ _ => N99; exact fun q hq => N99 q (by repeat (first | exact hq | apply List.mem_cons_of_mem)))); (case hne => exact hkb); (case h0 => omega); (case h1 => omega); (case h2 => omega); (case h3 => omega); (case hd => ktr_room); (case hu => ktr_units); k_whole); intro rs y1 y2 y3 TT2 h' tk' F' N' hT2 hgr2; (replace hgr0 := hgr0.trans hgr2 fun z hz => ⟨z, hz, rfl⟩); (try dsimp only)))
set_option hygiene false in
local macro_rules | `(tactic| walk_at "call ref") => `(tactic| (k_here; (with_reducible show wpAny _ _ (call (Value.ref 91) _) _ _ _); k_dflt (refine' last_c (news := news) ?B ?F ?X ?T ?hk ?N ?hT ?hne ?h0 ?h1 ?h2 ?h3 ?hd ?hu ?_; (case B => k_asm); (case F => k_asm); (case X => k_asm); (case T => k_asm); (case hk => first | exact rfl | assumption); (case hT => assumption); (case N => (rename News _ _ _ _ => N99; exact fun q hq => N99 q (by repeat (first | exact hq | apply List.mem_cons_of_mem)))); (case hne => exact hkb); (case h0 => omega); (case h1 => omega); (case h2 => omega); (case h3 => omega); (case hd => ktr_room); (case hu => ktr_units); k_whole); intro rl y1 y2 TT2 h' tk' F' N' hT2 hgr2; (replace hgr0 := hgr0.trans hgr2 fun z hz => ⟨z, hz, rfl⟩); (try dsimp only)))
set_option hygiene false in
local macro_rules | `(tactic| walk_at "call ref") => `(tactic| (k_here; (with_reducible show wpAny _ _ (call (Value.ref 77) _) _ _ _); k_dflt (refine' fig_c (news := news) ?B ?F ?X ?T ?hk ?N ?hT ?hne ?h0 ?h1 ?h2 ?h3 ?hd ?hu ?_; (case B => k_asm); (case F => k_asm); (case X => k_asm); (case T => k_asm); (case hk => first | exact rfl | assumption); (case hT => assumption); (case N => (rename News _ _ _ _ => N99; exact fun q hq => N99 q (by repeat (first | exact hq | apply List.mem_cons_of_mem)))); (case hne => exact hkb); (case h0 => omega); (case h1 => omega); (case h2 => omega); (case h3 => omega); (case hd => ktr_room); (case hu => ktr_units); k_whole); intro rf its nf TT2 h' tk' F' N' hI' hT2 hgr2 hrf1 hrf2; (have hsz' := sz_of hI'); (have hfl' := figs_len_of hI'); (replace hgr0 := hgr0.trans hgr2 fun z hz => ⟨z, hz, rfl⟩); (try dsimp only)))
theorem ite_f {c : Bool} {P R : Prop} (h : c = false) (r : R) : if c = true then P else R := by subst h; exact r
theorem ite_t {c : Bool} {P R : Prop} (h : c = true) (r : P) : if c = true then P else R := by subst h; exact r
theorem ite_z {a b : Int} {P R : Prop} (h : a = b → P) (r : a ≠ b → R) : if (a == b) = true then P else R := by
  by_cases e : a = b
  · simp [e]; exact h e
  · simp [e]; exact r e
local macro_rules | `(tactic| walk_at "ite") => `(tactic| (k_here; first
  | (with_reducible refine ite_t rfl ?_)
  | (with_reducible refine ite_f rfl ?_)
  | (with_reducible refine ite_f (bne_eq_false_iff_eq.mpr (by omega)) ?_)
  | (with_reducible refine ite_f (decide_eq_false (by omega)) ?_)
  | (with_reducible refine ite_z ?_ ?_ <;> intro hz)
  | refine halt ?_))
local macro_rules | `(tactic| walk_at "execs nil") => `(tactic| (k_here; refine wpAny_execs_nil ?_; dsimp only))
set_option hygiene false in
local macro_rules | `(tactic| walk_at "eval ListComp") => `(tactic| (k_here; k_dflt (refine' enum_ListComp (cl := [(PySem.Str.ofString "base", kb)]) ?hc ?hk ?hn ?_ ?hs; (case hc => exact rfl); (case hk => exact rfl); (case hn => decide); (case hs => intro x; exact rfl))))
set_option hygiene false in
local macro_rules | `(tactic| walk_at "call type:enumerate") => `(tactic| (k_here; k_dflt (refine' enum_src (fun i f => f * b ^ i) ?hh ?hcell ?hkind ?hxa ?hxb ?hab ?F ?N ?hm hI' ?hsz ?helt ?_; (case hh => with_unfolding_all rfl); (case hcell => decide); (case hkind => with_unfolding_all rfl); (case hxa => with_unfolding_all rfl); (case hxb => with_unfolding_all rfl); (case hab => decide); (case F => k_asm); (case N => k_asm); (case hm => exact List.Mem.head _); (case hsz => rw [hI'.length]; omega); (case helt => (intro C i f t tf h tk m₃ E' hf hn ha hb2 hN; have hfm := hfd f (by simpa using List.mem_of_getElem? hf); have hfi := (List.getElem?_eq_some_iff.mp hf).1; exact elt_pow rfl (by with_unfolding_all rfl) (by with_unfolding_all rfl) (by with_unfolding_all rfl) (by with_unfolding_all rfl) hN (by k_mem) hob hn ha hb2 (by omega) ⟨hfm.1, by omega⟩ (by omega))); k_whole); intro D ys h' tk' F' N' hD hIy))
set_option hygiene false in
local macro_rules | `(tactic| walk_at "call builtin:sum") => `(tactic| (k_here; (with_reducible show wpAny _ _ (call (Value.builtin "sum") [Value.ref _]) _ _ _); k_dflt (refine' sum_led ?hh ?F ?N ?hm hIy ?_; (case hh => with_unfolding_all rfl); (case F => k_asm); (case N => k_asm); (case hm => exact List.Mem.head _); k_whole); intro h' tk' t' F' N'))
set_option hygiene false in
local macro_rules | `(tactic| walk_at "call builtin:len") => `(tactic| (k_here; (with_reducible show wpAny _ _ (call (Value.builtin "len") [Value.ref _]) _ _ _); k_dflt (refine' len_led ?N ?hm hI' ?hl ?_; (case N => k_asm); (case hm => exact List.Mem.head _); (case hl => omega); k_whole); intro t' tk'))

set_option maxHeartbeats 4000000 in
theorem num_c {w : World} {num b : Int} {tn tb : Tok} {TT : List (Addr × Obj)} {p : Program} {loose : List Str} {mean : ExcName → Option Value} {mg mb : Str → Option Value} {dp un : Nat} {gd : Option (List Code)} {a' : Addr} {ccd : Value} {kb : Addr} {ob : Obj} {news : List (Addr × Obj)} {outer : List Env} {A₀ : Around} {base h₀ : Heap} {L : Addr} {m : Str → Option Value} {s : Shared} {Q : Flow → Shared → Prop} {E : Value → Shared → Prop}
    (B : Below A₀ base outer h₀) (F : Fr h₀ L s.heap (fun y => if y = PySem.Str.ofString "number" then some (.int num tn) else m y)) (X : (Mine.hd.heap_39 w.params).In h₀) (T : Top p loose mean mg mb h₀) (N : News h₀ L s.heap (TT ++ news)) (hob : ob.data = .cell (some (.int b tb))) (hT : Tabs TT) (hmem : (kb, ob) ∈ news) (hkb : ∀ q ∈ news, q.1 ≠ 30 ∧ q.1 ≠ 37)
    (b0 : 3 ≤ b) (b1 : b ≤ 16) (h0 : 0 ≤ num) (h1 : num < 2 ^ 41) (hd : dp + 130 < recursionLimit) (hu : un + 1040 < cLine)
    (f1 : num = 0 → (lst b 20 num).1 = 0) (f2 : num ≠ 0 → (lst b 20 num).1 = 1 + (num - 1).fmod (b - 1)) (f3 : (num - (figs b 30 num).sum).fmod (b - 1) = 0) (f4 : (num - alts (figs b 30 num)).fmod (b + 1) = 0) (f5 : (lst b 20 num).2 ≤ 6)
    (f6 : ((figs b 30 num).mapIdx fun i f => f * b ^ i).sum = num)
    (hret : ∀ m' TT' h' tk', Kp [PySem.Str.ofString "told", PySem.Str.ofString "signs", PySem.Str.ofString "many", PySem.Str.ofString "last", PySem.Str.ofString "times", PySem.Str.ofString "due", PySem.Str.ofString "number"] m m' → Fr h₀ L h' m' → News h₀ L h' (TT' ++ news) → Tabs TT' → Grew news TT TT' → Q .next { s with heap := h', toks := tk' }) :
    wpAny (model PySem.Challenge.rw_ht0001_01.row.prog w) (ktrTop dp un gd (PySem.Str.ofString "law") lawScope.1 L a' ccd [(PySem.Str.ofString "base", kb)] outer) (execs numTurn.1 (envX (PySem.Str.ofString "law") lawScope.1 L a' ccd [(PySem.Str.ofString "base", kb)])) Q E s := by
  w_top off
  revert X; k_fill; intro X
  dsimp only [numTurn, lawScope]
  have hfd := figs_dig (b := b) (by omega) 30 num
  have hgr0 : Grew news TT TT := .refl
  k_steps
  all_goals (refine hret _ TT2 _ _ ?_ F' (fun q hq => N' q (.tail _ (.tail _ hq))) hT2 hgr0)
  all_goals (intro z hz; have z0 : z ≠ PySem.Str.ofString "told" := fun e => hz (by simp [e]); have z1 : z ≠ PySem.Str.ofString "signs" := fun e => hz (by simp [e]); have z2 : z ≠ PySem.Str.ofString "many" := fun e => hz (by simp [e]); have z3 : z ≠ PySem.Str.ofString "last" := fun e => hz (by simp [e]); have z4 : z ≠ PySem.Str.ofString "times" := fun e => hz (by simp [e]); have z5 : z ≠ PySem.Str.ofString "due" := fun e => hz (by simp [e]); have z6 : z ≠ PySem.Str.ofString "number" := fun e => hz (by simp [e]); simp only [if_neg z0, if_neg z1, if_neg z2, if_neg z3, if_neg z4, if_neg z5, if_neg z6])
end Mine
end
section
open PySem PySem.W PyProof.Rows PySem.Spec PySem.Calls
set_option Elab.async false
set_option maxRecDepth 100000
namespace Mine
local macro_rules | `(tactic| k_all) => `(tactic| (refine' ne_of_allLt (by assumption) ?hd; (case hd => omega)))
local macro_rules | `(tactic| k_all) => `(tactic| with_reducible assumption)
set_option hygiene false in
local macro_rules | `(tactic| k_mem) => `(tactic| exact List.mem_append_right _ hmem)

structure NumF (b n : Int) : Prop where
  f1 : n = 0 → (lst b 20 n).1 = 0
  f2 : n ≠ 0 → (lst b 20 n).1 = 1 + (n - 1).fmod (b - 1)
  f3 : (n - (figs b 30 n).sum).fmod (b - 1) = 0
  f4 : (n - alts (figs b 30 n)).fmod (b + 1) = 0
  f5 : (lst b 20 n).2 ≤ 6
  f6 : ((figs b 30 n).mapIdx fun i f => f * b ^ i).sum = n
def nd1 (n : Int) : Nat := ((Builtin.Int.intBits n : Int) + ((1 : Nat) : Int) - 1).fdiv ((1 : Nat) : Int) |>.toNat
structure Facts (b x y : Int) : Prop where
  nx : NumF b x
  ny : NumF b y
  ns : NumF b (x + y)
  np : NumF b (x * y)
  p0 : 0 ≤ x * y
  p1 : x * y < 2 ^ 41
  l0 : 0 ≤ (lst b 20 x).1 ∧ (lst b 20 x).1 < 2 ^ 9
  l1 : 0 ≤ (lst b 20 y).1 ∧ (lst b 20 y).1 < 2 ^ 9
  l2 : 0 ≤ (lst b 20 x).1 * (lst b 20 y).1 ∧ (lst b 20 x).1 * (lst b 20 y).1 < 2 ^ 20
  g1 : (lst b 20 ((lst b 20 x).1 + (lst b 20 y).1)).1 = (lst b 20 (x + y)).1
  g2 : (lst b 20 ((lst b 20 x).1 * (lst b 20 y).1)).1 = (lst b 20 (x * y)).1
  g3 : (((figs b 30 x).reverse.mapIdx fun i f => f * b ^ i).sum - x).fmod (b - 1) = 0
  b2 : 9 ≤ b * b ∧ b * b ≤ 256
  g4 : ((figs (b * b) 30 x).sum - x).fmod (b * b - 1) = 0
  g5 : (ds 1 (x + y) (nd1 (x + y))).sum ≤ (ds 1 x (nd1 x)).sum + (ds 1 y (nd1 y)).sum
  g6 : 0 ≤ (figs b 30 x).sum + (figs b 30 y).sum - (figs b 30 (x + y)).sum
  g7 : ((figs b 30 x).sum + (figs b 30 y).sum - (figs b 30 (x + y)).sum).fmod (b - 1) = 0
set_option hygiene false in
local macro_rules | `(tactic| walk_at "call ref") => `(tactic| (k_here; (with_reducible show wpAny _ _ (call (Value.ref 84) _) _ _ _); k_dflt (refine' sum_c (news := news) ?B ?F ?X ?T ?hk ?N ?hT ?hne ?h0 ?h1 ?h2 ?h3 ?hd ?hu ?_; (case B => k_asm); (case F => k_asm); (case X => k_asm); (case T => k_asm); (case hk => first | exact rfl | assumption); (case hT => assumption); (case N => (rename News _ _ _ _ => N99; exact fun q hq => N99 q (by repeat (first | exact hq | apply List.mem_cons_of_mem)))); (case hne => exact hkb); (case h0 => omega); (case h1 => omega); (case h2 => omega); (case h3 => omega); (case hd => ktr_room); (case hu => ktr_units); k_whole); intro rs y1 y2 y3 TT2 h' tk' F' N' hT2 hgr2; (replace hgr0 := hgr0.trans hgr2 fun z hz => ⟨z, hz, rfl⟩); (try dsimp only)))
set_option hygiene false in
local macro_rules | `(tactic| walk_at "call ref") => `(tactic| (k_here; (with_reducible show wpAny _ _ (call (Value.ref 91) _) _ _ _); k_dflt (refine' last_c (news := news) ?B ?F ?X ?T ?hk ?N ?hT ?hne ?h0 ?h1 ?h2 ?h3 ?hd ?hu ?_; (case B => k_asm); (case F => k_asm); (case X => k_asm); (case T => k_asm); (case hk => first | exact rfl | assumption); (case hT => assumption); (case N => (rename News _ _ _ _ => N99; exact fun q hq => N99 q (by repeat (first | exact hq | apply List.mem_cons_of_mem)))); (case hne => exact hkb); (case h0 => omega); (case h1 => omega); (case h2 => omega); (case h3 => omega); (case hd => ktr_room); (case hu => ktr_units); k_whole); intro rl y1 y2 TT2 h' tk' F' N' hT2 hgr2; (replace hgr0 := hgr0.trans hgr2 fun z hz => ⟨z, hz, rfl⟩); (try dsimp only)))
set_option hygiene false in
local macro_rules | `(tactic| walk_at "call ref") => `(tactic| (k_here; (with_reducible show wpAny _ _ (call (Value.ref 77) _) _ _ _); k_dflt (refine' fig_c (news := news) ?B ?F ?X ?T ?hk ?N ?hT ?hne ?h0 ?h1 ?h2 ?h3 ?hd ?hu ?_; (case B => k_asm); (case F => k_asm); (case X => k_asm); (case T => k_asm); (case hk => first | exact rfl | assumption); (case hT => assumption); (case N => (rename News _ _ _ _ => N99; exact fun q hq => N99 q (by repeat (first | exact hq | apply List.mem_cons_of_mem)))); (case hne => exact hkb); (case h0 => omega); (case h1 => omega); (case h2 => omega); (case h3 => omega); (case hd => ktr_room); (case hu => ktr_units); k_whole); intro rf its nf TT2 h' tk' F' N' hI' hT2 hgr2 hrf1 hrf2; (have hsz' := sz_of hI'); (have hfl' := figs_len_of hI'); (replace hgr0 := hgr0.trans hgr2 fun z hz => ⟨z, hz, rfl⟩); (try dsimp only)))
local macro_rules | `(tactic| walk_at "ite") => `(tactic| (k_here; first
  | (with_reducible refine ite_t rfl ?_)
  | (with_reducible refine ite_f rfl ?_)
  | (with_reducible refine ite_f (bne_eq_false_iff_eq.mpr (by omega)) ?_)
  | (with_reducible refine ite_f (decide_eq_false (by omega)) ?_)
  | (with_reducible refine ite_z ?_ ?_ <;> intro hz)
  | refine halt ?_))
local macro_rules | `(tactic| walk_at "execs nil") => `(tactic| (k_here; refine wpAny_execs_nil ?_; dsimp only))
set_option hygiene false in
local macro_rules | `(tactic| walk_at "eval ListComp") => `(tactic| (k_here; k_dflt (refine' enum_ListComp (cl := [(PySem.Str.ofString "base", kb)]) ?hc ?hk ?hn ?_ ?hs; (case hc => exact rfl); (case hk => exact rfl); (case hn => decide); (case hs => intro x; exact rfl))))
set_option hygiene false in
local macro_rules | `(tactic| walk_at "call type:enumerate") => `(tactic| (k_here; k_dflt (refine' enum_src (fun i f => f * b ^ i) ?hh ?hcell ?hkind ?hxa ?hxb ?hab ?F ?N ?hm hI' ?hsz ?helt ?_; (case hh => with_unfolding_all rfl); (case hcell => decide); (case hkind => with_unfolding_all rfl); (case hxa => with_unfolding_all rfl); (case hxb => with_unfolding_all rfl); (case hab => decide); (case F => k_asm); (case N => k_asm); (case hm => exact List.Mem.head _); (case hsz => rw [hI'.length]; omega); (case helt => (intro C i f t tf h tk m₃ E' hf hn ha hb2 hN; have hfm := hfd f (by simpa using List.mem_of_getElem? hf); have hfi := (List.getElem?_eq_some_iff.mp hf).1; exact elt_pow rfl (by with_unfolding_all rfl) (by with_unfolding_all rfl) (by with_unfolding_all rfl) (by with_unfolding_all rfl) hN (by k_mem) hob hn ha hb2 (by omega) ⟨hfm.1, by omega⟩ (by omega))); k_whole); intro D ys h' tk' F' N' hD hIy))
set_option hygiene false in
local macro_rules | `(tactic| walk_at "call builtin:sum") => `(tactic| (k_here; (with_reducible show wpAny _ _ (call (Value.builtin "sum") [Value.ref _]) _ _ _); k_dflt (refine' sum_led ?hh ?F ?N ?hm hIy ?_; (case hh => with_unfolding_all rfl); (case F => k_asm); (case N => k_asm); (case hm => exact List.Mem.head _); k_whole); intro h' tk' t' F' N'))
set_option hygiene false in
local macro_rules | `(tactic| walk_at "call builtin:len") => `(tactic| (k_here; (with_reducible show wpAny _ _ (call (Value.builtin "len") [Value.ref _]) _ _ _); k_dflt (refine' len_led ?N ?hm hI' ?hl ?_; (case N => k_asm); (case hm => exact List.Mem.head _); (case hl => omega); k_whole); intro t' tk'))
set_option hygiene false in
local macro_rules | `(tactic| walk_at "call ref") => `(tactic| (k_here; (with_reducible show wpAny _ _ (call (Value.ref 35) _) _ _ _); k_dflt (refine' i2d_t (n := 1) (news := news) ?B ?F ?X ?T ?hk ?N ?hT ?hne ?h0 ?h1 ?h2 ?h3 ?hd ?hu ?_; (case B => k_asm); (case F => k_asm); (case X => k_asm); (case T => k_asm); (case hk => first | exact rfl | assumption); (case hT => assumption); (case N => (rename News _ _ _ _ => N99; exact fun q hq => N99 q (by repeat (first | exact hq | apply List.mem_cons_of_mem)))); (case hne => exact hkb); (case h0 => omega); (case h1 => omega); (case h2 => omega); (case h3 => omega); (case hd => ktr_room); (case hu => ktr_units); k_whole); intro rp itp TT2 h' tk' F' N' hIy hT2 hlt2 hrp hgr2; (replace hgr0 := hgr0.trans hgr2 fun z hz => ⟨z, hz, rfl⟩); (try dsimp only)))
set_option hygiene false in
local macro_rules | `(tactic| walk_at "call type:enumerate") => `(tactic| (k_here; (rename IntsAre _ (List.reverse _) => hI9); k_dflt (refine' enum_src (fun i f => f * b ^ i) ?hh ?hcell ?hkind ?hxa ?hxb ?hab ?F ?N ?hm hI9 ?hsz ?helt ?_; (case hh => with_unfolding_all rfl); (case hcell => decide); (case hkind => with_unfolding_all rfl); (case hxa => with_unfolding_all rfl); (case hxb => with_unfolding_all rfl); (case hab => decide); (case F => k_asm); (case N => k_asm); (case hm => exact List.Mem.head _); (case hsz => rw [hI9.length]; omega); (case helt => (intro C i f t tf h tk m₃ E' hf hn ha hb2 hN; have hfm := hfd f (by simpa using List.mem_of_getElem? hf); have hfi := (List.getElem?_eq_some_iff.mp hf).1; exact elt_pow rfl (by with_unfolding_all rfl) (by with_unfolding_all rfl) (by with_unfolding_all rfl) (by with_unfolding_all rfl) hN (by k_mem) hob hn ha hb2 (by omega) ⟨hfm.1, by omega⟩ (by omega))); k_whole); intro D ys h' tk' F' N' hD hIy))
local macro_rules | `(tactic| walk_at "exec For Name List cons nil") => `(tactic| (k_here; refine halt ?_))
theorem newsDrop {h₀ h : Heap} {L : Addr} {z : Addr × Obj} {T : List (Addr × Obj)} (N : News h₀ L h (z :: T)) : News h₀ L h T := fun q hq => N q (.tail _ hq)
local macro_rules | `(tactic| walk_at "pyIter ref") => `(tactic| (k_here; refine halt ?_))

set_option maxHeartbeats 4000000 in
theorem turn_c {w : World} {b k : Int} {tb tk₀ : Tok} {TT : List (Addr × Obj)} {p : Program} {loose : List Str} {mean : ExcName → Option Value} {mg mb : Str → Option Value} {dp un : Nat} {gd : Option (List Code)} {a' : Addr} {ccd : Value} {kb : Addr} {ob : Obj} {news : List (Addr × Obj)} {l : Addr} {its : List Value} {ns : List Int} {outer : List Env} {A₀ : Around} {base h₀ : Heap} {L : Addr} {m : Str → Option Value} {s : Shared} {Q : Flow → Shared → Prop} {E : Value → Shared → Prop}
    (B : Below A₀ base outer h₀) (F : Fr h₀ L s.heap (fun y => if y = PySem.Str.ofString "k" then some (.int k tk₀) else if y = PySem.Str.ofString "script" then some (.ref l) else m y)) (X : (Mine.hd.heap_39 w.params).In h₀) (T : Top p loose mean mg mb h₀) (N : News h₀ L s.heap (TT ++ news)) (hl : h₀.IsList l its.toArray) (hI : IntsAre its ns) (hob : ob.data = .cell (some (.int b tb))) (hT : Tabs TT) (hmem : (kb, ob) ∈ news) (hkb : ∀ q ∈ news, q.1 ≠ 30 ∧ q.1 ≠ 37)
    (b0 : 3 ≤ b) (b1 : b ≤ 16) (k0 : 0 ≤ k) (k1 : k + 1 < ns.length) (k2 : ns.length ≤ 63) (hd : dp + 140 < recursionLimit) (hu : un + 1120 < cLine)
    (hf : ∀ x y, 0 ≤ x → x < 10 ^ 6 → 0 ≤ y → y < 10 ^ 6 → Facts b x y)
    (hE : PassesOwn (model PySem.Challenge.rw_ht0001_01.row.prog w) (ktrTop dp un gd (PySem.Str.ofString "law") lawScope.1 L a' ccd [(PySem.Str.ofString "base", kb)] outer) (envX (PySem.Str.ofString "law") lawScope.1 L a' ccd [(PySem.Str.ofString "base", kb)]) E)
    (hret : ∀ m' TT' h' tk', Kp [PySem.Str.ofString "told", PySem.Str.ofString "signs", PySem.Str.ofString "many", PySem.Str.ofString "last", PySem.Str.ofString "times", PySem.Str.ofString "due", PySem.Str.ofString "number", PySem.Str.ofString "one", PySem.Str.ofString "other", PySem.Str.ofString "left", PySem.Str.ofString "right", PySem.Str.ofString "turned", PySem.Str.ofString "carries", PySem.Str.ofString "k"] (fun y => if y = PySem.Str.ofString "script" then some (.ref l) else m y) m' → Fr h₀ L h' m' → News h₀ L h' (TT' ++ news) → Tabs TT' → Grew news TT TT' → Q .next { s with heap := h', toks := tk' }) :
    wpAny (model PySem.Challenge.rw_ht0001_01.row.prog w) (ktrTop dp un gd (PySem.Str.ofString "law") lawScope.1 L a' ccd [(PySem.Str.ofString "base", kb)] outer) (execs lawTurn.1 (envX (PySem.Str.ofString "law") lawScope.1 L a' ccd [(PySem.Str.ofString "base", kb)])) Q E s := by
  w_top off
  revert X; k_fill; intro X
  dsimp only [lawTurn, lawScope]
  have hgr0 : Grew news TT TT := .refl
  k_steps
  rename_i Fz Nz
  have hpow : (10 : Int) ^ Int.toNat 6 = 1000000 := by decide
  have hx0 := Int.fmod_nonneg_of_pos (ns.getD k.toNat 0) (b := 10 ^ Int.toNat 6) (by rw [hpow]; decide)
  have hx1 := Int.fmod_lt_of_pos (ns.getD k.toNat 0) (b := 10 ^ Int.toNat 6) (by rw [hpow]; decide)
  have hy0 := Int.fmod_nonneg_of_pos (ns.getD (k + 1).toNat 0) (b := 10 ^ Int.toNat 6) (by rw [hpow]; decide)
  have hy1 := Int.fmod_lt_of_pos (ns.getD (k + 1).toNat 0) (b := 10 ^ Int.toNat 6) (by rw [hpow]; decide)
  replace Nz := newsDrop Nz
  generalize (ns.getD k.toNat 0).fmod (10 ^ Int.toNat 6) = x at *
  generalize (ns.getD (k + 1).toNat 0).fmod (10 ^ Int.toNat 6) = y at *
  generalize (s.toks + 1 + 1 + 1) = tx at *
  rw [hpow] at hx1 hy1
  have hF := hf x y hx0 (by omega) hy0 (by omega)
  have hxs : 0 ≤ x + y ∧ x + y < 2 ^ 41 := by omega
  have hp0 := hF.p0
  have hp1 := hF.p1
  have hl0 := hF.l0
  have hl1 := hF.l1
  have hl2 := hF.l2
  have hb2 := hF.b2
  unfold Halt
  refine' For_invVF ?F ?k1 ?k2 ?_ ?hsf ?hE
  case F => exact Fz
  case hE => exact hE
  case k1 => exact rfl
  case k2 => exact rfl
  case hsf => intro _; exact rfl
  k_steps
  rename_i lo hlo F1 N1 l1
  unfold Halt
  obtain ⟨m₀, em, F2⟩ := named_map F1
  refine list_loop (nn := 0) (vs := [Value.int x tx, Value.int y (tx + 1 + 1 + 1 + 1 + 1 + 1), Value.int (x + y) tk, Value.int (x * y) (tk + 1)]) (m₀ := m₀) (J := fun _ mm nx => Kp [PySem.Str.ofString "told", PySem.Str.ofString "signs", PySem.Str.ofString "many", PySem.Str.ofString "last", PySem.Str.ofString "times", PySem.Str.ofString "due", PySem.Str.ofString "number"] m₀ mm ∧ ∃ TT1, nx = TT1 ++ news ∧ Tabs TT1 ∧ Grew news TT TT1)
    rfl F2 N1 (fun p hp => Nat.ne_of_lt (l1 p hp)) ⟨Kp.refl, TT, rfl, hT, .refl⟩ ?_ ?_
  · rintro I i v m₁ news₁ h tk own hI1 hlI hv ⟨hK, TT1, rfl, hT1, hgr1⟩ hown ⟨o1, ho1⟩ ⟨o2, ho2⟩ hoff F₁ N₁
    have h30 := hT.lt (d := lo) (fun q hq => l1 q (List.mem_append_left _ hq))
    have hlIn := ltN hlI
    have hkb2 : ∀ q ∈ news ++ own, q.1 ≠ 30 ∧ q.1 ≠ 37 := fun q hq => by
      rcases List.mem_append.mp hq with hq | hq
      · exact hkb q hq
      · rcases hown q hq with e | e
        · rw [e]; refine ⟨neN ?_, neN ?_⟩ <;> omega
        · rw [e]; refine ⟨neN ?_, neN ?_⟩ <;> omega
    rw [List.append_assoc] at N₁
    suffices go : ∃ num tn, 0 ≤ num ∧ num < 2 ^ 41 ∧ NumF b num ∧ v = .int num tn by
      obtain ⟨num, tn, n0, n1, nf, rfl⟩ := go
      refine' num_c (news := news ++ own) ?B ?F ?X ?T ?N hob hT1 (List.mem_append_left _ hmem) hkb2 b0 b1 n0 n1 ?hd ?hu nf.f1 nf.f2 nf.f3 nf.f4 nf.f5 nf.f6 ?_
      case B => exact B
      case F => exact F₁
      case X => exact X
      case T => exact T
      case N => exact N₁
      case hd => omega
      case hu => omega
      intro m' TT' h' tk' hK' F' N' hT' hgr'
      rw [← List.append_assoc] at N'
      refine ⟨_, _, m', TT' ++ news, rfl, F', N', fun q hq e => ?_, fun z hz => ?_, TT', rfl, hT', hgr1.trans hgr' fun z hz => ⟨z, List.mem_append_left _ hz, rfl⟩⟩
      · have e := List.mem_singleton.mp e
        rcases List.mem_append.mp hq with hq | hq
        · rcases hgr' q hq with ⟨z, hz, e2⟩ | h2
          · exact hoff z (List.mem_append_left _ hz) (e2.trans e)
          · exact absurd (h2 _ (List.mem_append_right _ ho1)) (by rw [e]; exact Nat.lt_irrefl _)
        · exact hoff q (List.mem_append_right _ hq) e
      · rw [hK' z hz]
        exact hK z hz
    match i, hv with
    | 0, hv => exact ⟨x, _, hx0, by omega, hF.nx, (Option.some.inj hv).symm⟩
    | 1, hv => exact ⟨y, _, hy0, by omega, hF.ny, (Option.some.inj hv).symm⟩
    | 2, hv => exact ⟨x + y, _, hxs.1, hxs.2, hF.ns, (Option.some.inj hv).symm⟩
    | 3, hv => exact ⟨x * y, _, hp0, hp1, hF.np, (Option.some.inj hv).symm⟩
    | n + 4, hv => exact nomatch hv
  · rintro m₁ news₁ h tk ⟨hK, TT1, rfl, hT1, hgr1⟩ F₁ N₁
    subst em
    rw [hK.ov] at F₁
    dsimp only [ov, List.map] at F₁
    replace hgr0 := hgr1
    have hg1 := hF.g1
    have hg2 := hF.g2
    have hg3 := hF.g3
    have hg4 := hF.g4
    have hg5 := hF.g5
    have hg6 := hF.g6
    have hg7 := hF.g7
    (try dsimp only)
    unfold nd1 at hg5
    have hfd := figs_dig (b := b) (by omega) 30 x
    k_steps
    rename Fr _ _ _ _ => F9
    rename News _ _ _ _ => N9
    refine hret _ TT2 _ _ ?_ F9 (fun q hq => N9 q (by repeat (first | exact hq | apply List.mem_cons_of_mem))) hT2 hgr0
    (intro z hz; have z0 : z ≠ PySem.Str.ofString "told" := fun e => hz (by simp [e]); have z1 : z ≠ PySem.Str.ofString "signs" := fun e => hz (by simp [e]); have z2 : z ≠ PySem.Str.ofString "many" := fun e => hz (by simp [e]); have z3 : z ≠ PySem.Str.ofString "last" := fun e => hz (by simp [e]); have z4 : z ≠ PySem.Str.ofString "times" := fun e => hz (by simp [e]); have z5 : z ≠ PySem.Str.ofString "due" := fun e => hz (by simp [e]); have z6 : z ≠ PySem.Str.ofString "number" := fun e => hz (by simp [e]); have z7 : z ≠ PySem.Str.ofString "one" := fun e => hz (by simp [e]); have z8 : z ≠ PySem.Str.ofString "other" := fun e => hz (by simp [e]); have z9 : z ≠ PySem.Str.ofString "left" := fun e => hz (by simp [e]); have z10 : z ≠ PySem.Str.ofString "right" := fun e => hz (by simp [e]); have z11 : z ≠ PySem.Str.ofString "turned" := fun e => hz (by simp [e]); have z12 : z ≠ PySem.Str.ofString "carries" := fun e => hz (by simp [e]); have z13 : z ≠ PySem.Str.ofString "k" := fun e => hz (by simp [e]); simp only [if_neg z0, if_neg z1, if_neg z2, if_neg z3, if_neg z4, if_neg z5, if_neg z6, if_neg z7, if_neg z8, if_neg z9, if_neg z10, if_neg z11, if_neg z12, if_neg z13])
end Mine
end
section
open PySem PySem.W PyProof.Rows PyProof.V PySem.Spec PySem.Calls
set_option maxRecDepth 100000
namespace Mine
def val (b : Int) : List Int → Int
  | [] => 0
  | f :: r => f + b * val b r
theorem figs_val {b : Int} (hb : 3 ≤ b) : ∀ (k : Nat) (n : Int), 0 ≤ n → n < 3 ^ k → val b (figs b k n) = n
  | 0, n, h0, h1 => by
    have : n = 0 := by simp at h1; omega
    subst this; rfl
  | k + 1, n, h0, h1 => by
    unfold figs
    split
    · rename_i h; rw [h]; rfl
    · have hq : n / b < 3 ^ k := by
        refine Int.ediv_lt_of_lt_mul (by omega) (Int.lt_of_lt_of_le h1 ?_)
        rw [Int.pow_succ]
        exact Int.mul_le_mul_of_nonneg_left hb (Int.le_of_lt (Int.pow_pos (by decide)))
      rw [val, figs_val hb k (n / b) (Int.ediv_nonneg h0 (by omega)) hq]
      exact Int.emod_add_mul_ediv n b
theorem val_sum (b : Int) : ∀ l : List Int, (b - 1) ∣ val b l - l.sum
  | [] => by simp [val]
  | f :: r => by
    rw [val, List.sum_cons, show f + b * val b r - (f + r.sum) = (b - 1) * val b r + (val b r - r.sum) by rw [Int.sub_mul]; omega]
    exact Int.dvd_add (Int.dvd_mul_right _ _) (val_sum b r)
theorem val_alts (b : Int) : ∀ l : List Int, (b + 1) ∣ val b l - alts l
  | [] => by simp [val, alts]
  | f :: r => by
    rw [val, alts, show f + b * val b r - (f - alts r) = (b + 1) * val b r - (val b r - alts r) by rw [Int.add_mul]; omega]
    exact Int.dvd_sub (Int.dvd_mul_right _ _) (val_alts b r)
theorem val_mapIdx (b : Int) : ∀ (l : List Int) (j : Nat), (l.mapIdx fun i f => f * b ^ (i + j)).sum = b ^ j * val b l
  | [], j => by simp [val]
  | f :: r, j => by
    rw [List.mapIdx_cons, List.sum_cons]
    have e : (fun i f => f * b ^ (i + 1 + j)) = (fun i (f : Int) => f * b ^ (i + (j + 1))) := by
      funext i f; rw [show i + 1 + j = i + (j + 1) by omega]
    rw [e, val_mapIdx b r (j + 1), val, Nat.zero_add, Int.mul_add, Int.pow_succ, Int.mul_assoc, Int.mul_comm f]
theorem val_mapIdx0 (b : Int) (l : List Int) : (l.mapIdx fun i f => f * b ^ i).sum = val b l := by
  have := val_mapIdx b l 0
  simpa using this
theorem sum_reverse (l : List Int) : l.reverse.sum = l.sum := by
  induction l with
  | nil => rfl
  | cons a l ih => rw [List.reverse_cons, List.sum_append, ih]; simp; omega
theorem fmod_zero {a b : Int} (hb : 0 < b) (h : b ∣ a) : a.fmod b = 0 := by
  rw [Int.fmod_eq_emod_of_nonneg _ (by omega)]
  exact Int.emod_eq_zero_of_dvd h
theorem sum_nonneg' : ∀ {l : List Int}, (∀ f ∈ l, 0 ≤ f) → 0 ≤ l.sum
  | [], _ => by simp
  | f :: r, h => by
    have := sum_nonneg' fun x hx => h x (List.mem_cons_of_mem _ hx)
    have := h f (List.mem_cons_self ..)
    rw [List.sum_cons]; omega
theorem val_zero (b : Int) : ∀ {l : List Int}, (∀ f ∈ l, 0 ≤ f) → l.sum = 0 → val b l = 0
  | [], _, _ => rfl
  | f :: r, h, e => by
    have h1 := sum_nonneg' fun x hx => h x (List.mem_cons_of_mem _ hx)
    have h2 := h f (List.mem_cons_self ..)
    rw [List.sum_cons] at e
    rw [val, val_zero b (fun x hx => h x (List.mem_cons_of_mem _ hx)) (by omega)]
    omega
theorem figs_fuel {b : Int} (hb : 1 < b) : ∀ (k j : Nat) (n : Int), 0 ≤ n → n < b ^ k → figs b (k + j) n = figs b k n
  | 0, j, n, h0, h1 => by
    have : n = 0 := by simp at h1; omega
    subst this
    rw [figs_zero, figs_zero]
  | k + 1, j, n, h0, h1 => by
    rw [show k + 1 + j = (k + j) + 1 by omega]
    unfold figs
    split
    · rfl
    · have hq : n / b < b ^ k := Int.ediv_lt_of_lt_mul (by omega) (by rw [← Int.pow_succ]; exact h1)
      rw [figs_fuel hb k j (n / b) (Int.ediv_nonneg h0 (by omega)) hq]
theorem figs_sum_succ (b : Int) (k : Nat) (n : Int) : (figs b (k + 1) n).sum = n % b + (figs b k (n / b)).sum := by
  rw [figs]
  split
  · rename_i h; subst h; simp [figs_zero]
  · rw [List.sum_cons]
/-- how a number and what is left stand -/
structure Res (b n : Int) (p : Int × Int) (j : Int) : Prop where
  lo : 0 ≤ p.1
  hi : p.1 < b
  dv : (b - 1) ∣ n - p.1
  z : n = 0 ↔ p.1 = 0
  t : p.2 ≤ j
theorem res_small {b n : Int} (h0 : 0 ≤ n) (h1 : n < b) (k : Nat) : Res b n (lst b k n) 0 := by
  have e : lst b k n = (n, 0) := by
    cases k with
    | zero => rfl
    | succ k => rw [lst, if_neg (by omega)]
  rw [e]
  exact ⟨h0, h1, by simp, Iff.rfl, Int.le_refl _⟩
theorem res_step {b n j : Int} {k : Nat} (hb : 3 ≤ b) (h0 : 0 ≤ n) (h1 : n < 3 ^ 30) (hj : 0 ≤ j) (h : Res b (figs b 30 n).sum (lst b k (figs b 30 n).sum) j) : Res b n (lst b (k + 1) n) (j + 1) := by
  by_cases hlt : n < b
  · have := res_small h0 hlt (k + 1)
    exact ⟨this.lo, this.hi, this.dv, this.z, Int.le_trans this.t (by omega)⟩
  · rw [lst, if_pos (by omega)]
    have hv := figs_val hb 30 n h0 h1
    have hs := val_sum b (figs b 30 n)
    rw [hv] at hs
    refine ⟨h.lo, h.hi, ?_, ?_, by have := h.t; dsimp only; omega⟩
    · have := Int.dvd_add hs h.dv
      rwa [show n - (figs b 30 n).sum + ((figs b 30 n).sum - (lst b k (figs b 30 n).sum).1) = n - (lst b k (figs b 30 n).sum).1 by omega] at this
    · refine ⟨fun e => by omega, fun e => ?_⟩
      have e2 := h.z.mpr e
      have := val_zero b (fun f hf => (figs_dig (b := b) (by omega) 30 n f hf).1) e2
      rw [← hv]; exact this
theorem res_mono {b n i j : Int} {p : Int × Int} (h : Res b n p i) (hij : i ≤ j) : Res b n p j := ⟨h.lo, h.hi, h.dv, h.z, Int.le_trans h.t hij⟩
theorem sum_of_lt {b n : Int} {k : Nat} (hb : 3 ≤ b) (h0 : 0 ≤ n) (h1 : n < b ^ k) (hk : k ≤ 30) : 0 ≤ (figs b 30 n).sum ∧ (figs b 30 n).sum ≤ (b - 1) * k := by
  have e := figs_fuel (b := b) (by omega) k (30 - k) n h0 h1
  rw [show k + (30 - k) = 30 by omega] at e
  rw [e]
  exact ⟨figs_sum_nonneg (by omega) k n, figs_sum_le (by omega) k n⟩
theorem b_cases {b : Int} (b0 : 3 ≤ b) (b1 : b ≤ 16) : b = 3 ∨ b = 4 ∨ b = 5 ∨ b = 6 ∨ b = 7 ∨ b = 8 ∨ b = 9 ∨ b = 10 ∨ b = 11 ∨ b = 12 ∨ b = 13 ∨ b = 14 ∨ b = 15 ∨ b = 16 := by omega
theorem b_facts {b : Int} (b0 : 3 ≤ b) (b1 : b ≤ 16) : 30 * (b - 1) < b ^ 4 ∧ 4 * (b - 1) < b ^ 2 ∧ 9 ≤ b * b ∧ b * b ≤ 256 ∧ (3 : Int) ^ 30 ≤ b ^ 30 := by
  rcases b_cases b0 b1 with rfl | rfl | rfl | rfl | rfl | rfl | rfl | rfl | rfl | rfl | rfl | rfl | rfl | rfl <;> decide
theorem sum_two {b n : Int} (b0 : 3 ≤ b) (h0 : 0 ≤ n) (h1 : n ≤ 2 * (b - 1)) : (figs b 30 n).sum < b := by
  have e : (figs b 30 n).sum = n % b + (n / b % b + (figs b 28 (n / b / b)).sum) := by rw [← figs_sum_succ b 28, ← figs_sum_succ b 29]
  by_cases h : n < b
  · rw [e, Int.emod_eq_of_lt h0 h, Int.ediv_eq_zero_of_lt h0 h, Int.zero_emod, Int.zero_ediv, figs_zero]
    simpa using h
  · have e1 : n = (n - b) + b * 1 := by omega
    have e2 : n % b = n - b := by rw [e1, Int.add_mul_emod_self_left, Int.emod_eq_of_lt (by omega) (by omega)]; omega
    have e3 : n / b = 1 := by rw [e1, Int.add_mul_ediv_left _ _ (by omega), Int.ediv_eq_zero_of_lt (by omega) (by omega)]; rfl
    rw [e, e2, e3, Int.emod_eq_of_lt (a := 1) (by omega) (by omega), Int.ediv_eq_zero_of_lt (a := 1) (by omega) (by omega), figs_zero, List.sum_nil]
    omega
theorem lst_res {b n : Int} (b0 : 3 ≤ b) (b1 : b ≤ 16) (h0 : 0 ≤ n) (h1 : n < 3 ^ 30) : Res b n (lst b 20 n) 4 := by
  have hb := b_facts b0 b1
  have p30 : (205891132094649 : Int) = 3 ^ 30 := by decide
  have s1 := sum_of_lt (k := 30) b0 h0 (by omega) (by decide)
  generalize e1 : (figs b 30 n).sum = n1 at s1
  have s2 := sum_of_lt (k := 4) b0 s1.1 (by omega) (by decide)
  generalize e2 : (figs b 30 n1).sum = n2 at s2
  have s3 := sum_of_lt (k := 2) b0 s2.1 (by omega) (by decide)
  generalize e3 : (figs b 30 n2).sum = n3 at s3
  have s4 := sum_two b0 s3.1 (by omega)
  have s5 := figs_sum_nonneg (b := b) (by omega) 30 n3
  refine res_step (k := 19) (j := 3) b0 h0 h1 (by decide) ?_
  rw [e1]
  refine res_step (k := 18) (j := 2) b0 s1.1 (by omega) (by decide) ?_
  rw [e2]
  refine res_step (k := 17) (j := 1) b0 s2.1 (by omega) (by decide) ?_
  rw [e3]
  refine res_step (k := 16) (j := 0) b0 s3.1 (by omega) (by decide) ?_
  exact res_small s5 s4 _
theorem emod_of_dvd {m k d : Int} (h : d ∣ m - k) : m % d = k % d := Int.emod_eq_emod_iff_emod_sub_eq_zero.mpr (Int.emod_eq_zero_of_dvd h)
theorem root_eq {b n : Int} {p : Int × Int} {j : Int} (b0 : 3 ≤ b) (h : Res b n p j) (hn : n ≠ 0) : p.1 = 1 + (n - 1) % (b - 1) := by
  have h1 : p.1 ≠ 0 := fun e => hn (h.z.mpr e)
  have h2 := h.lo
  have h3 := h.hi
  have e : (n - 1) % (b - 1) = (p.1 - 1) % (b - 1) := emod_of_dvd (by rw [show n - 1 - (p.1 - 1) = n - p.1 by omega]; exact h.dv)
  rw [e, Int.emod_eq_of_lt (by omega) (by omega)]
  omega
theorem root_same {b n m : Int} {p q : Int × Int} {i j : Int} (b0 : 3 ≤ b) (h : Res b n p i) (h' : Res b m q j) (hd : (b - 1) ∣ n - m) (hz : n = 0 ↔ m = 0) : p.1 = q.1 := by
  by_cases hn : n = 0
  · rw [h.z.mp hn, h'.z.mp (hz.mp hn)]
  · rw [root_eq b0 h hn, root_eq b0 h' fun e => hn (hz.mpr e), emod_of_dvd (m := n - 1) (k := m - 1) (by rw [show n - 1 - (m - 1) = n - m by omega]; exact hd)]
theorem num_facts {b n : Int} (b0 : 3 ≤ b) (b1 : b ≤ 16) (h0 : 0 ≤ n) (h1 : n < 3 ^ 30) : NumF b n := by
  have hv := figs_val b0 30 n h0 h1
  have R := lst_res b0 b1 h0 h1
  refine ⟨R.z.mp, fun hn => ?_, ?_, ?_, Int.le_trans R.t (by decide), ?_⟩
  · rw [root_eq b0 R hn, Int.fmod_eq_emod_of_nonneg _ (by omega)]
  · have := val_sum b (figs b 30 n)
    rw [hv] at this
    exact fmod_zero (by omega) this
  · have := val_alts b (figs b 30 n)
    rw [hv] at this
    exact fmod_zero (by omega) this
  · rw [val_mapIdx0, hv]
theorem sum_carry {b : Int} (hb : 1 < b) : ∀ (k : Nat) (x y c : Int), 0 ≤ x → 0 ≤ y → 0 ≤ c → c ≤ 1 → (figs b k (x + y + c)).sum ≤ (figs b k x).sum + (figs b k y).sum + c
  | 0, x, y, c, _, _, hc, _ => by simpa [figs] using hc
  | k + 1, x, y, c, hx, hy, hc, hc1 => by
    rw [figs_sum_succ, figs_sum_succ, figs_sum_succ]
    have x1 := Int.emod_nonneg x (b := b) (by omega)
    have x2 := Int.emod_lt_of_pos x (b := b) (by omega)
    have y1 := Int.emod_nonneg y (b := b) (by omega)
    have y2 := Int.emod_lt_of_pos y (b := b) (by omega)
    have ex := Int.emod_add_mul_ediv x b
    have ey := Int.emod_add_mul_ediv y b
    have qx := Int.ediv_nonneg hx (b := b) (by omega)
    have qy := Int.ediv_nonneg hy (b := b) (by omega)
    generalize hX : x / b = X at *
    generalize hY : y / b = Y at *
    generalize hr : x % b = r at *
    generalize ht : y % b = t at *
    by_cases hcar : r + t + c < b
    · have e : x + y + c = r + t + c + b * (X + Y) := by rw [Int.mul_add]; omega
      have e1 : (x + y + c) % b = r + t + c := by rw [e, Int.add_mul_emod_self_left, Int.emod_eq_of_lt (by omega) hcar]
      have e2 : (x + y + c) / b = X + Y + 0 := by rw [e, Int.add_mul_ediv_left _ _ (by omega), Int.ediv_eq_zero_of_lt (by omega) hcar]; omega
      have ih := sum_carry hb k X Y 0 qx qy (by decide) (by decide)
      rw [e1, e2]
      omega
    · have e : x + y + c = r + t + c - b + b * (X + Y + 1) := by rw [Int.mul_add, Int.mul_add]; omega
      have e1 : (x + y + c) % b = r + t + c - b := by rw [e, Int.add_mul_emod_self_left, Int.emod_eq_of_lt (by omega) (by omega)]
      have e2 : (x + y + c) / b = X + Y + 1 := by rw [e, Int.add_mul_ediv_left _ _ (by omega), Int.ediv_eq_zero_of_lt (by omega) (by omega)]; omega
      have ih := sum_carry hb k X Y 1 qx qy (by decide) (by decide)
      rw [e1, e2]
      omega
theorem pc_carry : ∀ (k : Nat) (x y c : Int), 0 ≤ c → c ≤ 1 → (ds 1 (x + y + c) k).sum ≤ (ds 1 x k).sum + (ds 1 y k).sum + c
  | 0, x, y, c, hc, _ => by simpa [ds] using hc
  | k + 1, x, y, c, hc, hc1 => by
    simp only [ds, List.sum_cons, Int.pow_succ, Int.pow_zero, Int.one_mul]
    by_cases h : x % 2 + y % 2 + c < 2
    · have e : (x + y + c) / 2 = x / 2 + y / 2 + 0 := by omega
      have ih := pc_carry k (x / 2) (y / 2) 0 (by decide) (by decide)
      rw [e]; omega
    · have e : (x + y + c) / 2 = x / 2 + y / 2 + 1 := by omega
      have ih := pc_carry k (x / 2) (y / 2) 1 (by decide) (by decide)
      rw [e]; omega
theorem pc_nonneg : ∀ (k : Nat) (x : Int), 0 ≤ (ds 1 x k).sum
  | 0, _ => by simp [ds]
  | k + 1, x => by
    have := pc_nonneg k (x / 2)
    simp only [ds, List.sum_cons, Int.pow_succ, Int.pow_zero, Int.one_mul]
    omega
theorem pc_fuel : ∀ (k j : Nat) (x : Int), 0 ≤ x → x < 2 ^ j → (ds 1 x k).sum ≤ (ds 1 x j).sum
  | 0, j, x, _, _ => by simpa [ds] using pc_nonneg j x
  | k + 1, 0, x, h0, h1 => by
    have e : x = 0 := by simp at h1; omega
    have ih := pc_fuel k 0 0 (by decide) (by decide)
    simp only [ds, List.sum_cons, Int.pow_succ, Int.pow_zero, Int.one_mul, e, List.sum_nil] at ih ⊢
    simpa using ih
  | k + 1, j + 1, x, h0, h1 => by
    rw [Int.pow_succ] at h1
    have ih := pc_fuel k j (x / 2) (by omega) (by omega)
    simp only [ds, List.sum_cons, Int.pow_succ, Int.pow_zero, Int.one_mul]
    omega
theorem law_facts {b : Int} (b0 : 3 ≤ b) (b1 : b ≤ 16) (x y : Int) (x0 : 0 ≤ x) (x1 : x < 10 ^ 6) (y0 : 0 ≤ y) (y1 : y < 10 ^ 6) : Facts b x y := by
  have p30 : (205891132094649 : Int) = 3 ^ 30 := by decide
  have hb := b_facts b0 b1
  have xy0 := Int.mul_nonneg x0 y0
  have xy1 : x * y ≤ 1000000 * 1000000 := Int.mul_le_mul (by omega) (by omega) y0 (by omega)
  have Rx := lst_res b0 b1 x0 (by omega)
  have Ry := lst_res b0 b1 y0 (by omega)
  have Rs := lst_res b0 b1 (n := x + y) (by omega) (by omega)
  have Rp := lst_res b0 b1 (n := x * y) xy0 (by omega)
  have vx := figs_val b0 30 x x0 (by omega)
  have vy := figs_val b0 30 y y0 (by omega)
  have vs := figs_val b0 30 (x + y) (by omega) (by omega)
  have l0 := Rx.lo
  have l1 := Rx.hi
  have m0 := Ry.lo
  have m1 := Ry.hi
  have q0 := Int.mul_nonneg l0 m0
  have q1 : (lst b 20 x).1 * (lst b 20 y).1 ≤ 16 * 16 := Int.mul_le_mul (by omega) (by omega) m0 (by omega)
  have Rl := lst_res b0 b1 (n := (lst b 20 x).1 + (lst b 20 y).1) (by omega) (by omega)
  have Rm := lst_res b0 b1 (n := (lst b 20 x).1 * (lst b 20 y).1) q0 (by omega)
  have sx := val_sum b (figs b 30 x)
  have sy := val_sum b (figs b 30 y)
  have ss := val_sum b (figs b 30 (x + y))
  rw [vx] at sx
  rw [vy] at sy
  rw [vs] at ss
  have zx := Rx.z
  have zy := Ry.z
  refine ⟨num_facts b0 b1 x0 (by omega), num_facts b0 b1 y0 (by omega), num_facts b0 b1 (by omega) (by omega), num_facts b0 b1 xy0 (by omega), xy0, by omega, ⟨l0, by omega⟩, ⟨m0, by omega⟩, ⟨q0, by omega⟩, ?_, ?_, ?_, ⟨hb.2.2.1, hb.2.2.2.1⟩, ?_, ?_, ?_, ?_⟩
  · refine root_same b0 Rl Rs ?_ ⟨fun e => ?_, fun e => ?_⟩
    · rw [show (lst b 20 x).1 + (lst b 20 y).1 - (x + y) = -((x - (lst b 20 x).1) + (y - (lst b 20 y).1)) by omega]
      exact Int.dvd_neg.mpr (Int.dvd_add Rx.dv Ry.dv)
    · have h1 := zx.mpr (by omega)
      have h2 := zy.mpr (by omega)
      omega
    · have h1 := zx.mp (by omega)
      have h2 := zy.mp (by omega)
      omega
  · refine root_same b0 Rm Rp ?_ ?_
    · rw [show (lst b 20 x).1 * (lst b 20 y).1 - x * y = -((x - (lst b 20 x).1) * y + (lst b 20 x).1 * (y - (lst b 20 y).1)) by rw [Int.sub_mul, Int.mul_sub]; omega]
      exact Int.dvd_neg.mpr (Int.dvd_add (Int.dvd_mul_of_dvd_left Rx.dv) (Int.dvd_mul_of_dvd_right Ry.dv))
    · rw [Int.mul_eq_zero, Int.mul_eq_zero, zx, zy]
  · rw [val_mapIdx0]
    have h := val_sum b (figs b 30 x).reverse
    rw [sum_reverse] at h
    refine fmod_zero (by omega) ?_
    have := Int.dvd_sub h sx
    rwa [show val b (figs b 30 x).reverse - (figs b 30 x).sum - (x - (figs b 30 x).sum) = val b (figs b 30 x).reverse - x by omega] at this
  · have h := val_sum (b * b) (figs (b * b) 30 x)
    rw [figs_val (b := b * b) (by omega) 30 x x0 (by omega)] at h
    refine fmod_zero (by omega) ?_
    rw [show (figs (b * b) 30 x).sum - x = -(x - (figs (b * b) 30 x).sum) by omega]
    exact Int.dvd_neg.mpr h
  · have e : ∀ n : Int, 0 ≤ n → n < 2 ^ nd1 n := fun n h => by
      have := lt_pow_nd (n := 1) h (by decide)
      rwa [Nat.one_mul] at this
    have h1 := pc_carry (nd1 (x + y)) x y 0 (by decide) (by decide)
    have h2 := pc_fuel (nd1 (x + y)) (nd1 x) x x0 (e x x0)
    have h3 := pc_fuel (nd1 (x + y)) (nd1 y) y y0 (e y y0)
    rw [Int.add_zero] at h1
    omega
  · have := sum_carry (b := b) (by omega) 30 x y 0 x0 y0 (by decide) (by decide)
    rw [Int.add_zero] at this
    omega
  · refine fmod_zero (by omega) ?_
    have := Int.dvd_sub ss (Int.dvd_add sx sy)
    rwa [show x + y - (figs b 30 (x + y)).sum - (x - (figs b 30 x).sum + (y - (figs b 30 y).sum)) = (figs b 30 x).sum + (figs b 30 y).sum - (figs b 30 (x + y)).sum by omega] at this
end Mine
end
section
open PySem PySem.W PyProof.Rows PySem.Spec PySem.Calls
set_option Elab.async false
set_option maxRecDepth 100000
namespace Mine
local macro_rules | `(tactic| k_all) => `(tactic| (refine' ne_of_allLt (by assumption) ?hd; (case hd => omega)))
local macro_rules | `(tactic| k_all) => `(tactic| with_reducible assumption)

theorem script_map {m : Str → Option Value} {u v : Value} (e : m (PySem.Str.ofString "script") = some u) : (fun y => if y = PySem.Str.ofString "k" then some v else m y) = (fun y => if y = PySem.Str.ofString "k" then some v else if y = PySem.Str.ofString "script" then some u else m y) := by
  funext y
  by_cases h : y = PySem.Str.ofString "k"
  · simp only [if_pos h]
  · simp only [if_neg h]
    by_cases h2 : y = PySem.Str.ofString "script"
    · rw [if_pos h2, h2, e]
    · rw [if_neg h2]
theorem tab_start {h₀ h : Heap} {L : Addr} {x y z : Addr × Obj} (N : News h₀ L h [x, y, z]) : News h₀ L h ([z, y] ++ [x]) := fun q hq => N q (by simp at hq ⊢; rcases hq with h | h | h <;> simp [h])
def turns (n : Nat) : Nat := if n < 2 then 0 else if n < 4 then 1 else 2
theorem turns_ok (n : Nat) : Builtin.Range.small 0 ((if (n : Int) < 4 then (n : Int) else 4) - 1) 2 = true ∧ Builtin.Range.rangeSize 0 ((if (n : Int) < 4 then (n : Int) else 4) - 1) 2 = ((turns n : Nat) : Int) := by
  have h : n = 0 ∨ n = 1 ∨ n = 2 ∨ n = 3 ∨ 4 ≤ n := by omega
  rcases h with rfl | rfl | rfl | rfl | h
  · decide
  · decide
  · decide
  · decide
  · have e : turns n = 2 := by unfold turns; rw [if_neg (by omega), if_neg (by omega)]
    rw [if_neg (by omega), e]
    decide
theorem turns_lt {n i : Nat} (h : i < turns n) : i * 2 + 1 < n := by
  unfold turns at h
  split at h
  · omega
  · split at h <;> omega
theorem Tab.grown {P : Nat} {line : Nat} {q : Str} {tb : List (Addr × Obj)} {h : Heap} (T : Tab P line q tb) (N : ∀ p ∈ tb, h.get? p.1 = some p.2) : GrownAt P h := by
  rcases T with rfl | ⟨c, oc, vs, t, rfl, _⟩
  · exact ⟨_, N _ (.head _)⟩
  · exact ⟨_, N _ (.head _)⟩
theorem grown_tabs {h₀ h : Heap} {L : Addr} {TT news : List (Addr × Obj)} (T : Tabs TT) (N : News h₀ L h (TT ++ news)) : GrownAll [(41, 37), (34, 30)] h := by
  obtain ⟨a, b, hA, hB, rfl, _, _⟩ := T
  exact ⟨hB.grown fun p hp => (N p (List.mem_append_left _ (List.mem_append_right _ hp))).1, hA.grown fun p hp => (N p (List.mem_append_left _ (List.mem_append_left _ hp))).1, trivial⟩
set_option maxHeartbeats 1000000 in
theorem law_loop {w : World} {b : Int} {tb : Tok} {r : Addr} {t₀ u₀ v₀ : Tok} {p : Program} {loose : List Str} {mean : ExcName → Option Value} {mg mb : Str → Option Value} {dp un : Nat} {gd : Option (List Code)} {a' : Addr} {ccd : Value} {kb : Addr} {ob : Obj} {l : Addr} {its : List Value} {ns : List Int} {outer : List Env} {A₀ : Around} {base h₀ : Heap} {L : Addr} {m : Str → Option Value} {s : Shared} {Q : Flow → Shared → Prop} {E : Value → Shared → Prop}
    (B : Below A₀ base outer h₀) (F : Fr h₀ L s.heap m) (X : (Mine.hd.heap_39 w.params).In h₀) (T : Top p loose mean mg mb h₀) (N : News h₀ L s.heap ([(30, tabObj #[]), (37, tabObj #[])] ++ [(kb, ob)])) (hl : h₀.IsList l its.toArray) (hI : IntsAre its ns) (hob : ob.data = .cell (some (.int b tb))) (hk37 : @LT.lt Nat _ 37 kb)
    (b0 : 3 ≤ b) (b1 : b ≤ 16) (k2 : ns.length ≤ 63) (hd : dp + 140 < recursionLimit) (hu : un + 1120 < cLine)
    (hE : PassesOwn (model PySem.Challenge.rw_ht0001_01.row.prog w) (ktrTop dp un gd (PySem.Str.ofString "law") lawScope.1 L a' ccd [(PySem.Str.ofString "base", kb)] outer) (envX (PySem.Str.ofString "law") lawScope.1 L a' ccd [(PySem.Str.ofString "base", kb)]) E)
    (hms : m (PySem.Str.ofString "script") = some (.ref l))
    (hR : IsRange s.heap r 0 ((if (ns.length : Int) < 4 then (ns.length : Int) else 4) - 1) 2 t₀ u₀ v₀)
    (hret : ∀ m' TT' h' tk', Fr h₀ L h' m' → News h₀ L h' (TT' ++ [(kb, ob)]) → Tabs TT' → Q .next { s with heap := h', toks := tk' }) :
    wpAny (model PySem.Challenge.rw_ht0001_01.row.prog w) (ktrTop dp un gd (PySem.Str.ofString "law") lawScope.1 L a' ccd [(PySem.Str.ofString "base", kb)] outer) (pyIter (.ref r)) (fun it s₂ => LoopAtV PySem.Challenge.rw_ht0001_01.row.prog w (ktrTop dp un gd (PySem.Str.ofString "law") lawScope.1 L a' ccd [(PySem.Str.ofString "base", kb)] outer) h₀ (envX (PySem.Str.ofString "law") lawScope.1 L a' ccd [(PySem.Str.ofString "base", kb)]) (PySem.Str.ofString "k") lawTurn.1 Q E it s₂) E s := by
  refine range_loopc (J := fun _ mm nx => Kp [PySem.Str.ofString "told", PySem.Str.ofString "signs", PySem.Str.ofString "many", PySem.Str.ofString "last", PySem.Str.ofString "times", PySem.Str.ofString "due", PySem.Str.ofString "number", PySem.Str.ofString "one", PySem.Str.ofString "other", PySem.Str.ofString "left", PySem.Str.ofString "right", PySem.Str.ofString "turned", PySem.Str.ofString "carries", PySem.Str.ofString "k"] m mm ∧ ∃ TT1, nx = TT1 ++ [(kb, ob)] ∧ Tabs TT1 ∧ Grew [(kb, ob)] [(30, tabObj #[]), (37, tabObj #[])] TT1)
    rfl hR (turns_ok _).1 (turns_ok _).2 F N ⟨Kp.refl, _, rfl, ⟨[(30, tabObj #[])], [(37, tabObj #[])], .inl rfl, .inl rfl, rfl, by simp, by simp⟩, .refl⟩ ?_ ?_
  · rintro I i t m₁ news₁ h tk own o hI1 hi ⟨hK, TT1, rfl, hT1, hgr1⟩ hoff hown hIo F₁ N₁
    have hlt := turns_lt hi
    have hIn := ltN (hI1 _ (.tail _ (.head _)))
    have hms1 : m₁ (PySem.Str.ofString "script") = some (.ref l) := by
      rw [hK _ (by decide)]; exact hms
    rw [script_map hms1] at F₁
    have hkb2 : ∀ q ∈ ([(kb, ob)] ++ own : List (Addr × Obj)), q.1 ≠ 30 ∧ q.1 ≠ 37 := fun q hq => by
      have hk := ltN hk37
      rcases List.mem_append.mp hq with hq | hq
      · rw [List.mem_singleton.mp hq]
        refine ⟨neN ?_, neN ?_⟩ <;> (dsimp only; omega)
      · rw [hown q hq]; refine ⟨neN ?_, neN ?_⟩ <;> (dsimp only at hIn ⊢; omega)
    rw [List.append_assoc] at N₁
    refine' turn_c (news := [(kb, ob)] ++ own) (m := m₁) (k := 0 + (i : Int) * 2) ?B ?F ?X ?T ?N hl hI hob hT1 (List.mem_append_left _ (.head _)) hkb2 b0 b1 ?k0 ?k1 k2 hd hu (law_facts b0 b1) hE ?_
    case B => exact B
    case F => exact F₁
    case X => exact X
    case T => exact T
    case N => exact N₁
    case k0 => omega
    case k1 => omega
    intro m' TT' h' tk' hK' F' N' hT' hgr'
    rw [← List.append_assoc] at N'
    refine ⟨_, _, m', TT' ++ [(kb, ob)], rfl, F', N', fun q hq e => ?_, fun z hz => ?_, TT', rfl, hT', hgr1.trans hgr' fun z hz => ⟨z, List.mem_append_left _ hz, rfl⟩⟩
    · have e := List.mem_singleton.mp e
      rcases List.mem_append.mp hq with hq | hq
      · rcases hgr' q hq with ⟨z, hz, e2⟩ | h2
        · exact hoff z (List.mem_append_left _ hz) (e2.trans e)
        · exact absurd (h2 _ (List.mem_append_right _ hIo)) (by rw [e]; exact Nat.lt_irrefl _)
      · exact hoff q (List.mem_append_right _ hq) e
    · rw [hK' z hz]
      (try dsimp only)
      by_cases hs : z = PySem.Str.ofString "script"
      · rw [if_pos hs, hs]; exact hms.symm
      · rw [if_neg hs]; exact hK z hz
  · rintro m₁ news₁ h tk ⟨hK, TT1, rfl, hT1, hgr1⟩ F₁ N₁
    exact hret m₁ TT1 h tk F₁ N₁ hT1
end Mine
end
section
open PySem PySem.W PyProof.Rows PySem.Spec PySem.Calls
set_option Elab.async false
set_option maxRecDepth 100000
namespace Mine
local macro_rules | `(tactic| k_all) => `(tactic| (refine' ne_of_allLt (by assumption) ?hd; (case hd => omega)))
local macro_rules | `(tactic| k_all) => `(tactic| with_reducible assumption)

local macro_rules | `(tactic| walk_at "pyIter ref") => `(tactic| (k_here; refine halt ?_))
set_option hygiene false in
local macro_rules | `(tactic| walk_at "GrownAll") => `(tactic| (k_dflt (exact grown_tabs hT1 (by k_asm))))
theorem b_lo (x : Int) : 3 ≤ 3 + x.fmod 14 := by
  have := Int.fmod_nonneg_of_pos x (b := 14) (by decide)
  omega
theorem b_hi (x : Int) : 3 + x.fmod 14 ≤ 16 := by
  have := Int.fmod_lt_of_pos x (b := 14) (by decide)
  omega
set_option maxHeartbeats 1000000 in
theorem law_x : PySem.Challenge.rw_ht0001_01.Holds := Mine.hd (by
  w_top off
  k_go0
  all_goals try k_fold
  k_steps
  rename IsRange _ _ _ _ _ _ _ _ => hR
  rename Fr _ _ _ _ => F1
  rename News _ _ _ _ => N1
  rename (_ = Data.cell (some (Value.int _ _))) => dO
  rename IntsAre _ _ => hI
  rename Below _ _ _ _ => B1
  rename (Mine.hd.heap_39 _).In _ => X1
  rename (Top topProg _ _ _ _ _) => T1
  rename (37 < _ ∧ 30 < _) => l37
  rename (¬ _ < _) => h63
  unfold Halt
  obtain ⟨m₀, em, F2⟩ := named_map F1
  replace N1 := tab_start N1
  refine' law_loop (l := _) (kb := _) (outer := []) ?B ?F ?X ?T ?N ?hl ?hI ?hob ?hk37 ?b0 ?b1 ?k2 ?hd ?hu ?hE ?hms ?hR ?_
  case B => exact B1
  case F => exact F2
  case X => exact X1
  case T => exact T1
  case N => exact N1
  case hl => exact lifted
  case hI => exact hI
  case hob => exact dO
  case hR => exact hR
  case hms => rw [em]; exact rfl
  case hd => decide
  case hu => decide
  case hk37 => exact Nat.lt_succ_of_lt l37.1
  case b0 => exact b_lo _
  case b1 => exact b_hi _
  case k2 => omega
  case hE => passes_own
  intro m₁ TT1 h tk F₁ N₁ hT1
  (try dsimp only)
  k_steps)
end Mine
end
set_option maxRecDepth 100000 in
theorem PySem.Challenge.cw_ht0001_01_holds : PySem.Challenge.rw_ht0001_01.Holds := by
  exact Mine.law_x
