import PyProof.Rows.All
import Wide.All
import OpenK.AllK
import Wide.FinOn
import PySem.Challenge.RW_hl0004_01
open PySem PySem.W PyProof.Rows
set_option Elab.async false
namespace Mine
set_option maxRecDepth 100000 in
set_option maxHeartbeats 8000000 in
open_top hd for PySem.Challenge.rw_hl0004_01
theorem bits_le {x : Int} (h0 : 0 ≤ x) (k : Nat) (h : x < 2 ^ k) : Builtin.Int.intBits x ≤ k := by
  unfold Builtin.Int.intBits
  split
  · exact Nat.zero_le _
  · rename_i hx
    have hx' : x.natAbs ≠ 0 := by simp at hx; omega
    have : x.natAbs.log2 < k := (Nat.log2_lt hx').mpr (by
      have : (x.natAbs : Int) < ((2 ^ k : Nat) : Int) := by
        have e : ((2 ^ k : Nat) : Int) = 2 ^ k := by simp
        rw [e]; omega
      omega)
    omega
/-- a pair of ints on the ledger -/
abbrev tup2 (q r : Int) (tq tr : Tok) : Obj := { cls := .type "tuple", data := .seq #[.int q tq, .int r tr] 0 }
/-- all of the ledger's tail lies below this frame -/
structure RB (L : Addr) (R : List (Addr × Obj)) : Prop where
  h : ∀ p ∈ R, p.1 < L
theorem RB.ne {L d : Nat} {R : List (Addr × Obj)} (r : RB L R) (h : L ≤ d) : ∀ p ∈ R, p.1 ≠ d := fun p hp e => by
  have := r.h p hp; rw [e] at this; exact absurd (Nat.lt_of_lt_of_le this h) (Nat.lt_irrefl d)
theorem allLt_mem {d : Addr} : ∀ {l : List (Addr × Obj)}, AllLt d l → ∀ p ∈ l, p.1 < d
  | [], _, _, hp => nomatch hp
  | _ :: _, h, _, .head _ => h.1
  | _ :: _, h, _, .tail _ hp => allLt_mem h.2 _ hp
theorem allLt_ne {d : Addr} {l : List (Addr × Obj)} (h : AllLt d l) : ∀ p ∈ l, p.1 ≠ d := fun p hp => Nat.ne_of_lt (allLt_mem h p hp)
/-- a table of nested code: untouched, or holding the one code object of the nested def -/
def TabSt (P : Addr) (line col : Nat) (qual : Str) (R : List (Addr × Obj)) : Prop :=
  ∃ ps, (P, tabObj ps) ∈ R ∧ (ps = #[] ∨ ∃ c oc vs t, ps = #[rawInt line, rawInt col, .ref c] ∧ (c, oc) ∈ R ∧ oc.data = .fields vs ∧ vs[1]? = some (.str qual t) ∧ c ≠ 30 ∧ c ≠ 37)
theorem iediv {B x c : Int} (hB : 0 < B) : x / B / c = x / (B * c) := by
  rw [Int.ediv_ediv, if_neg (by omega)]; simp
def digs (B : Int) : Int → Nat → List Int
  | _, 0 => []
  | x, k + 1 => x % B :: digs B (x / B) k
theorem digs_length (B : Int) : ∀ (k : Nat) (x : Int), (digs B x k).length = k
  | 0, _ => rfl
  | k + 1, x => by rw [digs, List.length_cons, digs_length B k]
theorem digs_one {B x : Int} (h0 : 0 ≤ x) (h1 : x < B) : digs B x 1 = [x] := by
  rw [digs, digs, Int.emod_eq_of_lt h0 h1]
theorem digs_split {B : Int} (hB : 0 < B) (k : Nat) : ∀ (j : Nat) (x : Int), digs B x (j + k) = digs B (x % B ^ j) j ++ digs B (x / B ^ j) k
  | 0, x => by simp [digs]
  | j + 1, x => by
    have e : j + 1 + k = (j + k) + 1 := by omega
    have hBj : 0 < B ^ j := Int.pow_pos hB
    have e1 : x % B ^ (j + 1) % B = x % B := by
      rw [Int.pow_succ, Int.mul_comm]; exact Int.emod_emod_of_dvd _ ⟨_, rfl⟩
    have e2 : x % B ^ (j + 1) / B = x / B % B ^ j := by
      rw [Int.pow_succ, Int.mul_comm]
      have := Int.emod_def x (B * B ^ j)
      rw [this, Int.sub_eq_add_neg, Int.mul_assoc, ← Int.mul_neg, Int.add_mul_ediv_left _ _ (Int.ne_of_gt hB), Int.emod_def, ← iediv hB]
      omega
    have e3 : x / B ^ (j + 1) = x / B / B ^ j := by
      rw [Int.pow_succ, Int.mul_comm, ← iediv hB]
    rw [e, digs, digs_split hB k j, digs, e1, e2, e3, List.cons_append]
def put (ns : List Int) (lo hi : Nat) (d : List Int) : List Int := ns.take lo ++ d ++ ns.drop hi
theorem put_length {ns : List Int} {lo hi : Nat} {d : List Int} (h1 : lo ≤ hi) (h2 : hi ≤ ns.length) (hd : d.length = hi - lo) : (put ns lo hi d).length = ns.length := by
  unfold put; simp; omega
theorem put_one {ns : List Int} {lo : Nat} {x : Int} (h : lo < ns.length) : ns.set lo x = put ns lo (lo + 1) [x] := by
  unfold put
  rw [List.set_eq_take_append_cons_drop, if_pos h]; simp
theorem put_put {ns d1 d2 : List Int} {lo mid hi : Nat} (h1 : lo ≤ mid) (h2 : mid ≤ hi) (h3 : hi ≤ ns.length) (hd : d1.length = mid - lo) :
    put (put ns lo mid d1) mid hi d2 = put ns lo hi (d1 ++ d2) := by
  unfold put
  have e1 : (ns.take lo ++ d1).length = mid := by simp; omega
  have e2 : List.take mid (ns.take lo ++ d1 ++ ns.drop mid) = ns.take lo ++ d1 := by
    rw [List.take_append_of_le_length (by omega), List.take_of_length_le (by omega)]
  have e3 : List.drop hi (ns.take lo ++ d1 ++ ns.drop mid) = ns.drop hi := by
    rw [List.drop_append, e1, List.drop_of_length_le (by omega), List.drop_drop]
    simp; congr 1; omega
  rw [e2, e3]; simp
theorem put_all {ns d : List Int} : put ns 0 ns.length d = d := by unfold put; simp
theorem nat_and_high (x s : Nat) : x &&& (x / 2 ^ s * 2 ^ s) = x / 2 ^ s * 2 ^ s := by
  apply Nat.eq_of_testBit_eq
  intro i
  rw [← Nat.shiftRight_eq_div_pow, ← Nat.shiftLeft_eq]
  simp only [Nat.testBit_and, Nat.testBit_shiftLeft, Nat.testBit_shiftRight]
  by_cases h : i < s
  · have : ¬ (s ≤ i) := by omega
    simp [this]
  · have h2 : s ≤ i := by omega
    have e : s + (i - s) = i := by omega
    simp [h2, e]
theorem xor_low {x : Int} (hx : 0 ≤ x) (s : Nat) : Builtin.bitXor x (x / 2 ^ s * 2 ^ s) = x % 2 ^ s := by
  obtain ⟨n, rfl⟩ := Int.eq_ofNat_of_zero_le hx
  have e1 : ((n : Int) / 2 ^ s * 2 ^ s) = ((n / 2 ^ s * 2 ^ s : Nat) : Int) := by simp
  have e2 : ((n : Int) % 2 ^ s) = ((n % 2 ^ s : Nat) : Int) := by simp
  rw [e1, e2, bitXor_and, bitAnd_pp (by omega) (by omega), Int.toNat_natCast, Int.toNat_natCast, nat_and_high]
  have := Nat.div_add_mod n (2 ^ s)
  rw [Nat.mul_comm] at this
  omega
/-- the contract of _int2digits' inner, of size k -/
def I2 (w : World) (p : Program) (loose : List Str) (mean : ExcName → Option Value) (mg mb : Str → Option Value) (f l : Addr) (n : Int) (ro : List (Addr × Obj)) (k : Nat) : Prop :=
  ∀ (dp un : Nat) (gd : Option (List Code)) (cn : Str) (cs : Scope) (a : Addr) (ccd : Value) (cl : List (Str × Addr)) (outer : List Env) (A₀ : Around) (base h₀ : Heap) (L : Addr) (m : Str → Option Value) (s : Shared) (Q E : Value → Shared → Prop)
    (x lo hi : Int) (tx tl th : Tok) (vs : List Value) (ns : List Int) (nn : Nat),
    Below A₀ base outer h₀ → Fr h₀ L s.heap m → Frag.In (hd.heap_39 (World.params w)) h₀ → News h₀ L s.heap ((l, listOf vs.toArray nn) :: ro) → Top p loose mean mg mb h₀ → cs.kind = .function →
    0 ≤ lo → hi = lo + k → 0 < k → hi ≤ ns.length → ns.length ≤ 1000 → IntsAre vs ns → 0 ≤ x → x < (2 ^ n.toNat) ^ k → x < 1073741824 → dp + 2 * k + 20 < recursionLimit → un + 8 * k + 200 < cLine →
    (∀ vs' nn' h' tk', Fr h₀ L h' m → News h₀ L h' ((l, listOf vs'.toArray nn') :: ro) → IntsAre vs' (put ns lo.toNat hi.toNat (digs (2 ^ n.toNat) x k)) → Q .none { s with heap := h', toks := tk' }) →
    wpAny (model (RowW.prog (OpenRow.toRowW (OpenLaw.row PySem.Challenge.rw_hl0004_01))) w) (ktrTop dp un gd cn cs L a ccd cl outer) (call (.ref f) [.int x tx, .int lo tl, .int hi th]) Q E s
structure IH (P : Nat → Prop) (k : Nat) : Prop where
  h : ∀ j, j < k → P j
theorem ih_all {P : Nat → Prop} (step : ∀ k, IH P k → P k) : ∀ k, P k := fun k => Nat.strongRecOn k fun k ih => step k ⟨ih⟩
section
variable {w : World} {p : Program} {loose : List Str} {mean : ExcName → Option Value} {mg mb : Str → Option Value} {f l : Addr} {n : Int} {ro : List (Addr × Obj)} {k : Nat}
   {dp un : Nat} {gd : Option (List Code)} {cn : Str} {cs : Scope} {a : Addr} {ccd : Value} {cl : List (Str × Addr)} {outer : List Env} {A₀ : Around} {base h₀ : Heap} {L : Addr} {m : Str → Option Value} {s : Shared} {Q E : Value → Shared → Prop}
   {x v up lo mid hi S : Int} {tx tl th : Tok} {vs : List Value} {ns : List Int} {nn : Nat}
theorem emod_le' {x m : Int} (hx : 0 ≤ x) (hm : 0 < m) : x % m ≤ x := by
  rw [Int.emod_def]
  have := Int.mul_nonneg (Int.le_of_lt hm) (Int.ediv_nonneg hx (Int.le_of_lt hm))
  omega
theorem i2_bits {n q : Int} (hn : 0 ≤ n) (hq : 0 ≤ q) : ((2 : Int) ^ n.toNat) ^ q.toNat = 2 ^ (q * n).toNat := by
  rw [← Int.pow_mul]
  congr 1
  obtain ⟨a, rfl⟩ := Int.eq_ofNat_of_zero_le hn
  obtain ⟨b, rfl⟩ := Int.eq_ofNat_of_zero_le hq
  have : ((b : Int) * (a : Int)) = ((b * a : Nat) : Int) := by simp
  rw [this, Int.toNat_natCast, Int.toNat_natCast, Int.toNat_natCast, Nat.mul_comm]
theorem i2_use0 (C : ∀ k, I2 w p loose mean mg mb f l n ro k) (B : Below A₀ base outer h₀) (F : Fr h₀ L s.heap m) (X : Frag.In (hd.heap_39 (World.params w)) h₀) (N : News h₀ L s.heap ((l, listOf vs.toArray nn) :: ro)) (T : Top p loose mean mg mb h₀) (hk : cs.kind = .function)
    (hi : IntsAre vs ns) (h1 : ns.length = k) (h0 : 0 < k) (h2 : k ≤ 1000) (hx0 : 0 ≤ x) (hx1 : x < (2 ^ n.toNat) ^ k) (hx2 : x < 1073741824) (hd : dp + 2 * k + 20 < recursionLimit) (hu : un + 8 * k + 200 < cLine)
    (hret : ∀ vs' nn' h' tk', Fr h₀ L h' m → News h₀ L h' ((l, listOf vs'.toArray nn') :: ro) → IntsAre vs' (digs (2 ^ n.toNat) x k) → Q .none { s with heap := h', toks := tk' }) :
    wpAny (model (RowW.prog (OpenRow.toRowW (OpenLaw.row PySem.Challenge.rw_hl0004_01))) w) (ktrTop dp un gd cn cs L a ccd cl outer) (call (.ref f) [.int x tx, .int 0 tl, .int (k : Int) th]) Q E s :=
  C k _ _ _ _ _ _ _ _ _ _ _ _ _ _ _ _ _ _ _ _ _ _ _ _ _ _ B F X N T hk (Int.le_refl _) (by omega) h0 (by omega) (by omega) hi hx0 hx1 hx2 hd hu fun vs' nn' h' tk' F' N' hi' => hret vs' nn' h' tk' F' N' (by
    have e : put ns (0 : Int).toNat (k : Int).toNat (digs (2 ^ n.toNat) x k) = digs (2 ^ n.toNat) x k := by
      have : (k : Int).toNat = ns.length := by omega
      rw [this]; exact put_all
    rw [e] at hi'; exact hi')
theorem i2_use1 (I : IH (I2 w p loose mean mg mb f l n ro) k) (B : Below A₀ base outer h₀) (F : Fr h₀ L s.heap m) (X : Frag.In (hd.heap_39 (World.params w)) h₀) (N : News h₀ L s.heap ((l, listOf vs.toArray nn) :: ro)) (T : Top p loose mean mg mb h₀) (hk : cs.kind = .function)
    (hv : v = x % 2 ^ S.toNat) (hS : S = (mid - lo) * n) (hmid : mid = (lo + hi) / 2) (h0 : 0 ≤ lo) (hhi : hi = lo + k) (hk2 : ¬ lo + 1 = hi) (hk0 : 0 < k) (hn : 0 < n) (hns : hi ≤ ns.length) (hns2 : ns.length ≤ 1000) (hi' : IntsAre vs ns)
    (hx : 0 ≤ x) (hx2 : x < 1073741824) (hd : dp + 2 * k + 18 < recursionLimit) (hu : un + 8 * k + 192 < cLine)
    (hret : ∀ vs' ns' nn' h' tk', Fr h₀ L h' m → News h₀ L h' ((l, listOf vs'.toArray nn') :: ro) → IntsAre vs' ns' → ns' = put ns lo.toNat mid.toNat (digs (2 ^ n.toNat) v (mid - lo).toNat) → ns'.length = ns.length → Q .none { s with heap := h', toks := tk' }) :
    wpAny (model (RowW.prog (OpenRow.toRowW (OpenLaw.row PySem.Challenge.rw_hl0004_01))) w) (ktrTop dp un gd cn cs L a ccd cl outer) (call (.ref f) [.int v tx, .int lo tl, .int mid th]) Q E s := by
  have hp : (0 : Int) < 2 ^ S.toNat := Int.pow_pos (by decide)
  have hv0 : 0 ≤ v := by rw [hv]; exact Int.emod_nonneg _ (Int.ne_of_gt hp)
  have hv1 : v < 2 ^ S.toNat := by rw [hv]; exact Int.emod_lt_of_pos _ hp
  have hv2 : v ≤ x := by rw [hv]; exact emod_le' hx hp
  refine I.h (mid - lo).toNat (by omega) _ _ _ _ _ _ _ _ _ _ _ _ _ _ _ _ _ _ _ _ _ _ _ _ _ _ B F X N T hk h0 (by omega) (by omega) (by omega) hns2 hi' hv0 ?_ (by omega) (by omega) (by omega) fun vs' nn' h' tk' F' N' hi'' => hret vs' _ nn' h' tk' F' N' hi'' rfl (put_length (by omega) (by omega) (by rw [digs_length]; omega))
  rw [i2_bits (by omega) (by omega), ← hS]; exact hv1
theorem i2_use2 (I : IH (I2 w p loose mean mg mb f l n ro) k) (B : Below A₀ base outer h₀) (F : Fr h₀ L s.heap m) (X : Frag.In (hd.heap_39 (World.params w)) h₀) (N : News h₀ L s.heap ((l, listOf vs.toArray nn) :: ro)) (T : Top p loose mean mg mb h₀) (hk : cs.kind = .function)
    (hv : v = x % 2 ^ S.toNat) (hup : up = x / 2 ^ S.toNat) (hS : S = (mid - lo) * n) (hmid : mid = (lo + hi) / 2) (h0 : 0 ≤ lo) (hhi : hi = lo + k) (hk2 : ¬ lo + 1 = hi) (hk0 : 0 < k) (hn : 0 < n) {ns0 : List Int} (hns : hi ≤ ns0.length) (hns2 : ns0.length ≤ 1000) (hi' : IntsAre vs ns)
    (hput : ns = put ns0 lo.toNat mid.toNat (digs (2 ^ n.toNat) v (mid - lo).toNat)) (hx : 0 ≤ x) (hx1 : x < (2 ^ n.toNat) ^ k) (hx2 : x < 1073741824) (hd : dp + 2 * k + 18 < recursionLimit) (hu : un + 8 * k + 192 < cLine)
    (hret : ∀ vs' nn' h' tk', Fr h₀ L h' m → News h₀ L h' ((l, listOf vs'.toArray nn') :: ro) → IntsAre vs' (put ns0 lo.toNat hi.toNat (digs (2 ^ n.toNat) x k)) → Q .none { s with heap := h', toks := tk' }) :
    wpAny (model (RowW.prog (OpenRow.toRowW (OpenLaw.row PySem.Challenge.rw_hl0004_01))) w) (ktrTop dp un gd cn cs L a ccd cl outer) (call (.ref f) [.int up tx, .int mid tl, .int hi th]) Q E s := by
  have hp : (0 : Int) < 2 ^ S.toNat := Int.pow_pos (by decide)
  have hB : (0 : Int) < 2 ^ n.toNat := Int.pow_pos (by decide)
  have hup0 : 0 ≤ up := by rw [hup]; exact Int.ediv_nonneg hx (Int.le_of_lt hp)
  have hup2 : up ≤ x := by rw [hup]; exact Int.ediv_le_self _ hx
  have eb : ((2 : Int) ^ n.toNat) ^ (mid - lo).toNat = 2 ^ S.toNat := by rw [i2_bits (by omega) (by omega), hS]
  have hsp : k = (mid - lo).toNat + (hi - mid).toNat := by omega
  have hlen : ns.length = ns0.length := by rw [hput]; exact put_length (by omega) (by omega) (by rw [digs_length]; omega)
  refine I.h (hi - mid).toNat (by omega) _ _ _ _ _ _ _ _ _ _ _ _ _ _ _ _ _ _ _ _ _ _ _ _ _ _ B F X N T hk (by omega) (by omega) (by omega) (by omega) (by omega) hi' hup0 ?_ (by omega) (by omega) (by omega) fun vs' nn' h' tk' F' N' hi'' => hret vs' nn' h' tk' F' N' ?_
  · rw [hup]
    refine Int.ediv_lt_of_lt_mul hp ?_
    rw [← eb, ← Int.pow_add, Nat.add_comm, ← hsp]
    exact hx1
  · have e : put ns mid.toNat hi.toNat (digs (2 ^ n.toNat) up (hi - mid).toNat) = put ns0 lo.toNat hi.toNat (digs (2 ^ n.toNat) x k) := by
      rw [hput, put_put (by omega) (by omega) (by omega) (by rw [digs_length]; omega)]
      congr 1
      have hk' : digs (2 ^ n.toNat) x k = digs (2 ^ n.toNat) x ((mid - lo).toNat + (hi - mid).toNat) := by rw [← hsp]
      rw [hk', digs_split hB, eb, ← hv, ← hup]
    rw [e] at hi''; exact hi''
theorem i2_fin1 (h : lo + 1 = hi) (hk : hi = lo + (k : Int)) (h0 : 0 ≤ lo) (hns : hi ≤ ns.length) (hx0 : 0 ≤ x) (hx1 : x < (2 ^ n.toNat) ^ k) (hi' : IntsAre vs (ns.set lo.toNat x)) : IntsAre vs (put ns lo.toNat hi.toNat (digs (2 ^ n.toNat) x k)) := by
  have e : k = 1 := by omega
  subst e
  rw [Int.pow_succ, Int.pow_zero, Int.one_mul] at hx1
  rw [digs_one hx0 hx1]
  have : hi.toNat = lo.toNat + 1 := by omega
  rw [this, ← put_one (by omega)]
  exact hi'
end
section
variable {prog : Program} {w : World} {A : Around} {E : Value → Shared → Prop} {s : Shared} {a b n x up : Int} {t u : Tok} {Q : Value → Shared → Prop}
theorem rshift_v (hn : 0 ≤ n) (ha : 0 ≤ a) (h : ∀ v, v = a / 2 ^ n.toNat → 0 ≤ v → v ≤ a → Q (.int v s.toks) { s with toks := s.toks + 1 }) : wpAny (model prog w) A (binaryOp .RShift (.int a t) (.int n u)) Q E s := by
  have hp : (0 : Int) < 2 ^ n.toNat := Int.pow_pos (by decide)
  refine rshift_int hn (h _ (Int.fdiv_eq_ediv_of_nonneg _ (Int.le_of_lt hp)) ?_ ?_)
  · rw [Int.fdiv_eq_ediv_of_nonneg _ (Int.le_of_lt hp)]; exact Int.ediv_nonneg ha (Int.le_of_lt hp)
  · rw [Int.fdiv_eq_ediv_of_nonneg _ (Int.le_of_lt hp)]; exact Int.ediv_le_self _ ha
theorem rshift1_v (h : ∀ v, v = a / 2 → Q (.int v s.toks) { s with toks := s.toks + 1 }) : wpAny (model prog w) A (binaryOp .RShift (.int a t) (.int 1 u)) Q E s :=
  rshift_int (by decide) (h _ (by rw [Int.fdiv_eq_ediv_of_nonneg _ (by decide)]; rfl))
theorem mul_v (ha0 : 0 ≤ a) (hb0 : 0 ≤ b) (ha : a ≤ 1000) (hb : b ≤ 1000) (h : ∀ v, v = a * b → 0 ≤ v → v ≤ 1000000 → Q (.int v s.toks) { s with toks := s.toks + 1 }) : wpAny (model prog w) A (binaryOp .Mult (.int a t) (.int b u)) Q E s :=
  mul_int (h _ rfl (Int.mul_nonneg ha0 hb0) (Int.le_trans (Int.mul_le_mul ha hb hb0 (by decide)) (by decide))) (.of_left (intBits_le_64 (by omega) (by omega)))
theorem lshift_v (hn : 0 ≤ n) (hn2 : n ≤ 1000000) (ha0 : 0 ≤ a) (ha : a < 1073741824) (h : ∀ v, v = a * 2 ^ n.toNat → Q (.int v s.toks) { s with toks := s.toks + 1 }) : wpAny (model prog w) A (binaryOp .LShift (.int a t) (.int n u)) Q E s :=
  lshift_int_small hn hn2 (by omega) (h _ rfl)
theorem xor_v {k : Nat} (hx : 0 ≤ x) (hup : up = x / 2 ^ k) (hb : b = up * 2 ^ k) (h : ∀ v, v = x % 2 ^ k → Q (.int v s.toks) { s with toks := s.toks + 1 }) : wpAny (model prog w) A (binaryOp .BitXor (.int x t) (.int b u)) Q E s :=
  xor_int (h _ (by rw [hb, hup]; exact xor_low hx k))
end
theorem mul_zero {w : World} {prog : Program} {A : Around} {E : Value → Shared → Prop} {s : Shared} {h₀ : Heap} {L : Addr} {m : Str → Option Value} {news : List (Addr × Obj)} {l : Addr} {t : Tok} {nn : Nat} {x : Int} {u : Tok} {Q : Value → Shared → Prop}
    (Fm : Fr h₀ L s.heap m) (N : News h₀ L s.heap news) (hm : (l, listOf #[.int 0 t] nn) ∈ news) (hx0 : 0 ≤ x) (hx1 : x ≤ 1000)
    (h : ∀ D h', Fr h₀ L h' m → News h₀ L h' ((D, listOf (List.replicate x.toNat (.int 0 t)).toArray 0) :: news) → (∀ p ∈ news, p.1 < D) → Q (.ref D) { s with heap := h' }) :
    wpAny (model prog w) A (binaryOp .Mult (.ref l) (.int x u)) Q E s := by
  have hl : s.heap.IsList l [Value.int 0 t].toArray := News.isList N hm
  refine KM.mul Fm N hl (.cons _ _ .nil) (by omega) (by omega) (by simp; omega) ?_
  intro D h' F' N' l1 _ _ _ _ _ _
  refine h D h' F' ?_ l1
  have e : (List.replicate x.toNat [Value.int 0 t]).flatten = List.replicate x.toNat (Value.int 0 t) := by
    induction x.toNat with
    | zero => rfl
    | succ k ih => rw [List.replicate_succ, List.flatten_cons, ih, List.replicate_succ]; rfl
  rw [e] at N'
  exact N'
theorem len_rep {w : World} {prog : Program} {A : Around} {E : Value → Shared → Prop} {s : Shared} {h₀ : Heap} {L : Addr} {news : List (Addr × Obj)} {l : Addr} {v : Value} {k nn : Nat} {Q : Value → Shared → Prop}
    (N : News h₀ L s.heap news) (hm : (l, listOf (List.replicate k v).toArray nn) ∈ news) (hk : k ≤ 1000) (h : Q (.int (k : Nat) (s.toks + 1)) { s with toks := s.toks + 1 + 1 }) :
    wpAny (model prog w) A (call (.builtin "len") [.ref l]) Q E s :=
  kst_len N hm (by simp) (by omega) h
theorem i2_count {x n : Int} (hx0 : 0 ≤ x) (hx9 : x ≠ 0) (hn : 0 < n) : 0 < (Int.fdiv ((Builtin.Int.intBits x : Int) + n - 1) n).toNat ∧ x < (2 ^ n.toNat) ^ (Int.fdiv ((Builtin.Int.intBits x : Int) + n - 1) n).toNat := by
  rw [Int.fdiv_eq_ediv_of_nonneg _ (by omega)]
  have hb : x < 2 ^ Builtin.Int.intBits x := by
    have hz : (x == 0) = false := by simpa using hx9
    unfold Builtin.Int.intBits
    rw [hz]
    simp only [Bool.false_eq_true, if_false]
    have h1 : x.natAbs < 2 ^ (x.natAbs.log2 + 1) := Nat.lt_log2_self
    have h2 : ((x.natAbs : Nat) : Int) < ((2 ^ (x.natAbs.log2 + 1) : Nat) : Int) := Int.ofNat_lt.mpr h1
    have h3 : ((2 ^ (x.natAbs.log2 + 1) : Nat) : Int) = 2 ^ (x.natAbs.log2 + 1) := by simp
    omega
  generalize Builtin.Int.intBits x = b at hb ⊢
  have hb1 : 0 < b := by
    rcases Nat.eq_zero_or_pos b with h | h
    · subst h; rw [Int.pow_zero] at hb; omega
    · exact h
  have hk1 : 1 ≤ ((b : Int) + n - 1) / n := (Int.le_ediv_iff_mul_le hn).mpr (by omega)
  refine ⟨by omega, Int.lt_of_lt_of_le hb ?_⟩
  rw [← Int.pow_mul]
  have hm : b ≤ n.toNat * (((b : Int) + n - 1) / n).toNat := by
    have h1 := Int.emod_add_mul_ediv ((b : Int) + n - 1) n
    have h2 := Int.emod_lt_of_pos ((b : Int) + n - 1) hn
    have h3 : ((n.toNat * (((b : Int) + n - 1) / n).toNat : Nat) : Int) = n * (((b : Int) + n - 1) / n) := by
      rw [Int.natCast_mul, Int.toNat_of_nonneg (by omega), Int.toNat_of_nonneg (by omega)]
    omega
  have h4 : ((2 ^ b : Nat) : Int) ≤ ((2 ^ (n.toNat * (((b : Int) + n - 1) / n).toNat) : Nat) : Int) := Int.ofNat_le.mpr (Nat.pow_le_pow_right (by decide) hm)
  simpa using h4
theorem news_third {h₀ h : Heap} {L : Addr} {a b c : Addr × Obj} {r : List (Addr × Obj)} (N : News h₀ L h (a :: b :: c :: r)) : News h₀ L h (c :: a :: b :: r) := fun q hq => N q (by
  simp only [List.mem_cons] at hq ⊢
  rcases hq with h | h | h | h
  · exact .inr (.inr (.inl h))
  · exact .inl h
  · exact .inr (.inl h)
  · exact .inr (.inr (.inr h)))
theorem news_second {h₀ h : Heap} {L : Addr} {a b : Addr × Obj} {r : List (Addr × Obj)} (N : News h₀ L h (a :: b :: r)) : News h₀ L h (b :: a :: r) := fun q hq => N q (by
  simp only [List.mem_cons] at hq ⊢
  rcases hq with h | h | h
  · exact .inr (.inl h)
  · exact .inl h
  · exact .inr (.inr h))
theorem news_one {h₀ h : Heap} {L : Addr} {a : Addr × Obj} {l r : List (Addr × Obj)} (N : News h₀ L h l) (hm : a ∈ l) (hr : News h₀ L h r) : News h₀ L h (a :: r) := fun q hq => (List.mem_cons.mp hq).elim (fun e => e ▸ N a hm) (hr q)
theorem ints_zero (t : Tok) : ∀ k : Nat, IntsAre (List.replicate k (.int 0 t)) (List.replicate k 0)
  | 0 => .nil
  | k + 1 => by rw [List.replicate_succ, List.replicate_succ]; exact .cons _ _ (ints_zero t k)
abbrev Q30 : Str := Str.ofString "_int2digits.<locals>.inner"
abbrev Q37 : Str := Str.ofString "_digits2int.<locals>.inner"
/-- both tables of nested code lie on the ledger's tail -/
def TabsIn (R : List (Addr × Obj)) : Prop := TabSt 30 32 4 Q30 R ∧ TabSt 37 47 4 Q37 R
/-- what a call may do to the ledger's tail -/
def Evol (R R' : List (Addr × Obj)) : Prop := TabsIn R' ∧ ∀ p ∈ R, p.1 ≠ 30 → p.1 ≠ 37 → p ∈ R'
theorem Evol.refl {R : List (Addr × Obj)} (h : TabsIn R) : Evol R R := ⟨h, fun _ hp _ _ => hp⟩
theorem Evol.trans {R R' R'' : List (Addr × Obj)} (h : Evol R R') (h' : Evol R' R'') : Evol R R'' := ⟨h'.1, fun p hp a b => h'.2 p (h.2 p hp a b) a b⟩
def off (P : Nat) (R : List (Addr × Obj)) : List (Addr × Obj) := R.filter fun p => !(Nat.beq p.1 P)
theorem mem_off {P : Nat} {R : List (Addr × Obj)} {p : Addr × Obj} : p ∈ off P R ↔ p ∈ R ∧ p.1 ≠ P := by
  unfold off
  rw [List.mem_filter]
  refine and_congr_right fun _ => ?_
  rw [Bool.not_eq_true', ← Bool.not_eq_true, Nat.beq_eq]
theorem news_off {h₀ h : Heap} {L : Addr} {P : Nat} {o : Obj} {R : List (Addr × Obj)} (N : News h₀ L h R) (hm : (P, o) ∈ R) : News h₀ L h ((P, o) :: off P R) := fun q hq => by
  rcases List.mem_cons.mp hq with rfl | hq
  · exact N _ hm
  · exact N _ (mem_off.mp hq).1
theorem tabSt_off {P P' line col : Nat} {qual : Str} {R : List (Addr × Obj)} (h : TabSt P line col qual R) (hne : P ≠ P') (hc : P' = 30 ∨ P' = 37) : TabSt P line col qual (off P' R) := by
  obtain ⟨ps, hm, h⟩ := h
  refine ⟨ps, mem_off.mpr ⟨hm, hne⟩, ?_⟩
  rcases h with h | ⟨c, oc, vs, t, h1, h2, h3, h4, h5, h6⟩
  · exact .inl h
  · refine .inr ⟨c, oc, vs, t, h1, mem_off.mpr ⟨h2, ?_⟩, h3, h4, h5, h6⟩
    rcases hc with rfl | rfl
    · exact h5
    · exact h6
theorem tabSt_mono {P line col : Nat} {qual : Str} {R R' : List (Addr × Obj)} (h : TabSt P line col qual R) (hs : ∀ p ∈ R, p ∈ R') : TabSt P line col qual R' := by
  obtain ⟨ps, hm, h⟩ := h
  refine ⟨ps, hs _ hm, ?_⟩
  rcases h with h | ⟨c, oc, vs, t, h1, h2, h3, h4, h5, h6⟩
  · exact .inl h
  · exact .inr ⟨c, oc, vs, t, h1, hs _ h2, h3, h4, h5, h6⟩
theorem evol30_new {R : List (Addr × Obj)} {c : Addr} {oc : Obj} {vs : Array Value} {t : Tok} (hT : TabsIn R) (hd : oc.data = .fields vs) (hv : vs[1]? = some (.str Q30 t)) (h30 : c ≠ 30) (h37 : c ≠ 37) :
    Evol R ((30, tabObj #[rawInt 32, rawInt 4, .ref c]) :: (c, oc) :: off 30 R) :=
  ⟨⟨⟨_, .head _, .inr ⟨c, oc, vs, t, rfl, .tail _ (.head _), hd, hv, h30, h37⟩⟩, tabSt_mono (tabSt_off hT.2 (by decide) (.inl rfl)) fun _ hp => .tail _ (.tail _ hp)⟩,
    fun _ hp a _ => .tail _ (.tail _ (mem_off.mpr ⟨hp, a⟩))⟩
theorem evol30_hit {R : List (Addr × Obj)} {c : Addr} {oc : Obj} {vs : Array Value} {t : Tok} (hT : TabsIn R) (hm : (c, oc) ∈ R) (hd : oc.data = .fields vs) (hv : vs[1]? = some (.str Q30 t)) (h30 : c ≠ 30) (h37 : c ≠ 37) :
    Evol R ((30, tabObj #[rawInt 32, rawInt 4, .ref c]) :: off 30 R) :=
  ⟨⟨⟨_, .head _, .inr ⟨c, oc, vs, t, rfl, .tail _ (mem_off.mpr ⟨hm, h30⟩), hd, hv, h30, h37⟩⟩, tabSt_mono (tabSt_off hT.2 (by decide) (.inl rfl)) fun _ hp => .tail _ hp⟩,
    fun _ hp a _ => .tail _ (mem_off.mpr ⟨hp, a⟩)⟩
theorem evol37_new {R : List (Addr × Obj)} {c : Addr} {oc : Obj} {vs : Array Value} {t : Tok} (hT : TabsIn R) (hd : oc.data = .fields vs) (hv : vs[1]? = some (.str Q37 t)) (h30 : c ≠ 30) (h37 : c ≠ 37) :
    Evol R ((37, tabObj #[rawInt 47, rawInt 4, .ref c]) :: (c, oc) :: off 37 R) :=
  ⟨⟨tabSt_mono (tabSt_off hT.1 (by decide) (.inr rfl)) fun _ hp => .tail _ (.tail _ hp), ⟨_, .head _, .inr ⟨c, oc, vs, t, rfl, .tail _ (.head _), hd, hv, h30, h37⟩⟩⟩,
    fun _ hp _ a => .tail _ (.tail _ (mem_off.mpr ⟨hp, a⟩))⟩
theorem evol37_hit {R : List (Addr × Obj)} {c : Addr} {oc : Obj} {vs : Array Value} {t : Tok} (hT : TabsIn R) (hm : (c, oc) ∈ R) (hd : oc.data = .fields vs) (hv : vs[1]? = some (.str Q37 t)) (h30 : c ≠ 30) (h37 : c ≠ 37) :
    Evol R ((37, tabObj #[rawInt 47, rawInt 4, .ref c]) :: off 37 R) :=
  ⟨⟨tabSt_mono (tabSt_off hT.1 (by decide) (.inr rfl)) fun _ hp => .tail _ hp, ⟨_, .head _, .inr ⟨c, oc, vs, t, rfl, .tail _ (mem_off.mpr ⟨hm, h37⟩), hd, hv, h30, h37⟩⟩⟩,
    fun _ hp _ a => .tail _ (mem_off.mpr ⟨hp, a⟩)⟩
theorem TabsIn.mono {R R' : List (Addr × Obj)} (h : TabsIn R) (hs : ∀ p ∈ R, p ∈ R') : TabsIn R' := ⟨tabSt_mono h.1 hs, tabSt_mono h.2 hs⟩
theorem TabsIn.tail {a : Addr × Obj} {R : List (Addr × Obj)} (h : TabsIn R) : TabsIn (a :: R) := h.mono fun _ hp => .tail _ hp
theorem Evol.tail {a : Addr × Obj} {R R' : List (Addr × Obj)} (h : Evol (a :: R) R') : Evol R R' := ⟨h.1, fun p hp => h.2 p (.tail _ hp)⟩
/-- how many digits _int2digits makes -/
def kOf (x n : Int) : Nat := (Int.fdiv ((Builtin.Int.intBits x : Int) + n - 1) n).toNat
theorem kOf_le {x n : Int} (hx0 : 0 ≤ x) (hx1 : x < 1073741824) (hn : 0 < n) : kOf x n ≤ 30 := by
  have hb := bits_le hx0 30 (by omega)
  unfold kOf
  have hq1 : Int.fdiv ((Builtin.Int.intBits x : Int) + n - 1) n ≤ 30 := by
    rw [Int.fdiv_eq_ediv_of_nonneg _ (by omega)]
    refine Int.le_trans (Int.le_of_lt_add_one (Int.ediv_lt_of_lt_mul hn ?_)) (Int.ofNat_le.mpr hb)
    rw [Int.add_mul]
    have : (Builtin.Int.intBits x : Int) * 1 ≤ (Builtin.Int.intBits x : Int) * n := Int.mul_le_mul_of_nonneg_left (by omega) (by omega)
    omega
  omega
theorem kOf_fdiv {x n : Int} (hn : 0 < n) : Int.fdiv ((Builtin.Int.intBits x : Int) + n - 1) n = (kOf x n : Int) := by
  unfold kOf
  have hq0 : 0 ≤ Int.fdiv ((Builtin.Int.intBits x : Int) + n - 1) n := by rw [Int.fdiv_eq_ediv_of_nonneg _ (by omega)]; exact Int.ediv_nonneg (by omega) (by omega)
  omega
theorem digs_zero (B : Int) : ∀ k : Nat, digs B 0 k = List.replicate k 0
  | 0 => rfl
  | k + 1 => by rw [digs, Int.zero_emod, Int.zero_ediv, digs_zero B k, List.replicate_succ]
theorem ints_digs0 {x B : Int} {t : Tok} (h : x = 0) (k : Nat) : IntsAre (List.replicate k (.int 0 t)) (digs B x k) := by
  subst h; rw [digs_zero]; exact ints_zero t k
/-- what _int2digits hands back -/
def i2d (x n : Int) : List Int := digs (2 ^ n.toNat) x (kOf x n)
/-- the number that digits (lowest first) to the base B make -/
def dval (B : Int) : List Int → Int
  | [] => 0
  | d :: r => d + B * dval B r
theorem dval_append (B : Int) : ∀ a b : List Int, dval B (a ++ b) = dval B a + B ^ a.length * dval B b
  | [], b => by simp [dval]
  | d :: r, b => by
    rw [List.cons_append, dval, dval_append B r b, dval, List.length_cons, Int.pow_succ, Int.mul_add, Int.mul_comm (B ^ r.length) B, Int.mul_assoc]
    omega
theorem dval_range {B : Int} (hB : 0 < B) : ∀ l : List Int, (∀ d ∈ l, 0 ≤ d ∧ d < B) → 0 ≤ dval B l ∧ dval B l < B ^ l.length
  | [], _ => by simp [dval]
  | d :: r, h => by
    have ih := dval_range hB r fun q hq => h q (.tail _ hq)
    have hd := h d (.head _)
    rw [dval, List.length_cons, Int.pow_succ]
    have h1 : 0 ≤ B * dval B r := Int.mul_nonneg (Int.le_of_lt hB) ih.1
    have h2 : B * dval B r ≤ B * (B ^ r.length - 1) := Int.mul_le_mul_of_nonneg_left (by omega) (Int.le_of_lt hB)
    rw [Int.mul_sub, Int.mul_one] at h2
    rw [Int.mul_comm (B ^ r.length) B]
    omega
def seg (ns : List Int) (lo hi : Nat) : List Int := (ns.drop lo).take (hi - lo)
theorem seg_length {ns : List Int} {lo hi : Nat} (h : hi ≤ ns.length) : (seg ns lo hi).length = hi - lo := by unfold seg; simp; omega
theorem seg_split {ns : List Int} {lo mid hi : Nat} (h1 : lo ≤ mid) (h2 : mid ≤ hi) : seg ns lo hi = seg ns lo mid ++ seg ns mid hi := by
  unfold seg
  have e : hi - lo = (mid - lo) + (hi - mid) := by omega
  rw [e, List.take_add, List.drop_drop]
  congr 3; omega
theorem seg_one {ns : List Int} {lo : Nat} (h : lo < ns.length) : seg ns lo (lo + 1) = [ns.getD lo 0] := by
  unfold seg
  have e : lo + 1 - lo = 1 := by omega
  rw [e, List.drop_eq_getElem_cons h, List.getD_eq_getElem?_getD, List.getElem?_eq_getElem h, List.take_succ_cons, List.take_zero]
  rfl
theorem seg_all {ns : List Int} : seg ns 0 ns.length = ns := by unfold seg; simp
theorem seg_mem {ns : List Int} {lo hi : Nat} {d : Int} (h : d ∈ seg ns lo hi) : d ∈ ns := List.mem_of_mem_drop (List.mem_of_mem_take h)
theorem seg_bound {ns : List Int} {lo hi nn : Nat} (hd : ∀ d ∈ ns, 0 ≤ d ∧ d < 2 ^ nn) (hhi : hi ≤ ns.length) (hb : nn * ns.length ≤ 60) : 0 ≤ dval (2 ^ nn) (seg ns lo hi) ∧ dval (2 ^ nn) (seg ns lo hi) < 2 ^ 60 := by
  have h := dval_range (B := 2 ^ nn) (Int.pow_pos (by decide)) (seg ns lo hi) fun d q => hd d (seg_mem q)
  refine ⟨h.1, Int.lt_of_lt_of_le h.2 ?_⟩
  rw [← Int.pow_mul]
  have : nn * (seg ns lo hi).length ≤ 60 := by
    rw [seg_length hhi]
    exact Nat.le_trans (Nat.mul_le_mul_left _ (by omega)) hb
  have h4 : ((2 ^ (nn * (seg ns lo hi).length) : Nat) : Int) ≤ ((2 ^ 60 : Nat) : Int) := Int.ofNat_le.mpr (Nat.pow_le_pow_right (by decide) this)
  simpa using h4
/-- the contract of _digits2int's inner, of size k; the ledger stays -/
def D2 (w : World) (p : Program) (loose : List Str) (mean : ExcName → Option Value) (mg mb : Str → Option Value) (f : Addr) (n : Int) (ns : List Int) (ro : List (Addr × Obj)) (k : Nat) : Prop :=
  ∀ (dp un : Nat) (gd : Option (List Code)) (cn : Str) (cs : Scope) (a : Addr) (ccd : Value) (cl : List (Str × Addr)) (outer : List Env) (A₀ : Around) (base h₀ : Heap) (L : Addr) (m : Str → Option Value) (s : Shared) (Q E : Value → Shared → Prop)
    (lo hi : Int) (tl th : Tok),
    Below A₀ base outer h₀ → Fr h₀ L s.heap m → Frag.In (hd.heap_39 (World.params w)) h₀ → News h₀ L s.heap ro → Top p loose mean mg mb h₀ → cs.kind = .function →
    0 ≤ lo → hi = lo + k → 0 < k → hi ≤ ns.length → dp + 2 * k + 20 < recursionLimit → un + 8 * k + 200 < cLine →
    (∀ v t h' tk', Fr h₀ L h' m → News h₀ L h' ro → v = dval (2 ^ n.toNat) (seg ns lo.toNat hi.toNat) → Q (.int v t) { s with heap := h', toks := tk' }) →
    wpAny (model (RowW.prog (OpenRow.toRowW (OpenLaw.row PySem.Challenge.rw_hl0004_01))) w) (ktrTop dp un gd cn cs L a ccd cl outer) (call (.ref f) [.int lo tl, .int hi th]) Q E s
section
variable {w : World} {p : Program} {loose : List Str} {mean : ExcName → Option Value} {mg mb : Str → Option Value} {f : Addr} {n : Int} {ns : List Int} {ro : List (Addr × Obj)} {k : Nat}
   {dp un : Nat} {gd : Option (List Code)} {cn : Str} {cs : Scope} {a : Addr} {ccd : Value} {cl : List (Str × Addr)} {outer : List Env} {A₀ : Around} {base h₀ : Heap} {L : Addr} {m : Str → Option Value} {s : Shared} {Q E : Value → Shared → Prop}
   {lo mid hi S : Int} {tl th : Tok} {vs : List Value} {nn : Nat}
theorem d2_use0 (C : ∀ k, D2 w p loose mean mg mb f n ns ro k) (B : Below A₀ base outer h₀) (F : Fr h₀ L s.heap m) (X : Frag.In (hd.heap_39 (World.params w)) h₀) (N : News h₀ L s.heap ro) (T : Top p loose mean mg mb h₀) (hk : cs.kind = .function)
    (h1 : ns.length = k) (h0 : 0 < k) (hd : dp + 2 * k + 20 < recursionLimit) (hu : un + 8 * k + 200 < cLine)
    (hret : ∀ v t h' tk', Fr h₀ L h' m → News h₀ L h' ro → v = dval (2 ^ n.toNat) ns → Q (.int v t) { s with heap := h', toks := tk' }) :
    wpAny (model (RowW.prog (OpenRow.toRowW (OpenLaw.row PySem.Challenge.rw_hl0004_01))) w) (ktrTop dp un gd cn cs L a ccd cl outer) (call (.ref f) [.int 0 tl, .int (k : Int) th]) Q E s :=
  C k _ _ _ _ _ _ _ _ _ _ _ _ _ _ _ _ _ _ _ _ _ B F X N T hk (Int.le_refl _) (by omega) h0 (by omega) hd hu fun v t h' tk' F' N' hv => hret v t h' tk' F' N' (by
    have e : seg ns (0 : Int).toNat (k : Int).toNat = ns := by
      have : (k : Int).toNat = ns.length := by omega
      rw [this]; exact seg_all
    rw [e] at hv; exact hv)
theorem d2_use1 (I : IH (D2 w p loose mean mg mb f n ns ro) k) (B : Below A₀ base outer h₀) (F : Fr h₀ L s.heap m) (X : Frag.In (hd.heap_39 (World.params w)) h₀) (N : News h₀ L s.heap ro) (T : Top p loose mean mg mb h₀) (hk : cs.kind = .function)
    (hmid : mid = (lo + hi) / 2) (h0 : 0 ≤ lo) (hhi : hi = lo + k) (hk2 : ¬ lo + 1 = hi) (hk0 : 0 < k) (hns : hi ≤ ns.length) (hds : ∀ d ∈ ns, 0 ≤ d ∧ d < 2 ^ n.toNat) (hb : n.toNat * ns.length ≤ 60) (hd : dp + 2 * k + 18 < recursionLimit) (hu : un + 8 * k + 192 < cLine)
    (hret : ∀ v t h' tk', Fr h₀ L h' m → News h₀ L h' ro → v = dval (2 ^ n.toNat) (seg ns mid.toNat hi.toNat) → 0 ≤ v → v < 2 ^ 60 → Q (.int v t) { s with heap := h', toks := tk' }) :
    wpAny (model (RowW.prog (OpenRow.toRowW (OpenLaw.row PySem.Challenge.rw_hl0004_01))) w) (ktrTop dp un gd cn cs L a ccd cl outer) (call (.ref f) [.int mid tl, .int hi th]) Q E s := by
  refine I.h (hi - mid).toNat (by omega) _ _ _ _ _ _ _ _ _ _ _ _ _ _ _ _ _ _ _ _ _ B F X N T hk (by omega) (by omega) (by omega) hns (by omega) (by omega) fun v t h' tk' F' N' hv => ?_
  have := seg_bound (lo := mid.toNat) (hi := hi.toNat) hds (by omega) hb
  rw [← hv] at this
  exact hret v t h' tk' F' N' hv this.1 this.2
theorem d2_use2 (I : IH (D2 w p loose mean mg mb f n ns ro) k) (B : Below A₀ base outer h₀) (F : Fr h₀ L s.heap m) (X : Frag.In (hd.heap_39 (World.params w)) h₀) (N : News h₀ L s.heap ro) (T : Top p loose mean mg mb h₀) (hk : cs.kind = .function)
    (hmid : mid = (lo + hi) / 2) (h0 : 0 ≤ lo) (hhi : hi = lo + k) (hk2 : ¬ lo + 1 = hi) (hk0 : 0 < k) (hns : hi ≤ ns.length) (hd : dp + 2 * k + 18 < recursionLimit) (hu : un + 8 * k + 192 < cLine)
    (hret : ∀ v t h' tk', Fr h₀ L h' m → News h₀ L h' ro → v = dval (2 ^ n.toNat) (seg ns lo.toNat mid.toNat) → Q (.int v t) { s with heap := h', toks := tk' }) :
    wpAny (model (RowW.prog (OpenRow.toRowW (OpenLaw.row PySem.Challenge.rw_hl0004_01))) w) (ktrTop dp un gd cn cs L a ccd cl outer) (call (.ref f) [.int lo tl, .int mid th]) Q E s :=
  I.h (mid - lo).toNat (by omega) _ _ _ _ _ _ _ _ _ _ _ _ _ _ _ _ _ _ _ _ _ B F X N T hk (by omega) (by omega) (by omega) (by omega) (by omega) (by omega) hret
theorem d2_fin1 (h : lo + 1 = hi) (h0 : 0 ≤ lo) (hns : hi ≤ ns.length) : ns.getD lo.toNat 0 = dval (2 ^ n.toNat) (seg ns lo.toNat hi.toNat) := by
  have : hi.toNat = lo.toNat + 1 := by omega
  rw [this, seg_one (by omega), dval, dval]; simp
theorem d2_fin2 {v1 v2 v3 : Int} (e1 : v1 = dval (2 ^ n.toNat) (seg ns mid.toNat hi.toNat)) (hS : S = (mid - lo) * n) (e2 : v2 = v1 * 2 ^ S.toNat) (e3 : v3 = dval (2 ^ n.toNat) (seg ns lo.toNat mid.toNat)) (hmid : mid = (lo + hi) / 2) (h0 : 0 ≤ lo) (hhi : hi = lo + k) (_hk2 : ¬ lo + 1 = hi) (hk0 : 0 < k) (hn : 0 < n) (hns : hi ≤ ns.length) :
    v2 + v3 = dval (2 ^ n.toNat) (seg ns lo.toNat hi.toNat) := by
  rw [seg_split (mid := mid.toNat) (by omega) (by omega), dval_append, seg_length (by omega), ← e3, ← e1, e2]
  have e : mid.toNat - lo.toNat = (mid - lo).toNat := by omega
  rw [e, i2_bits (by omega) (by omega), ← hS, Int.mul_comm v1]
  omega
end
theorem lshift_v60 {prog : Program} {w : World} {A : Around} {E : Value → Shared → Prop} {s : Shared} {a n : Int} {t u : Tok} {Q : Value → Shared → Prop} (hn : 0 ≤ n) (hn2 : n ≤ 1000000) (ha0 : 0 ≤ a) (ha : a < 2 ^ 60) (h : ∀ v, v = a * 2 ^ n.toNat → Q (.int v s.toks) { s with toks := s.toks + 1 }) : wpAny (model prog w) A (binaryOp .LShift (.int a t) (.int n u)) Q E s :=
  lshift_int_small hn hn2 (by omega) (h _ rfl)
/-- long division, digit by digit: what holds after the digits `pre` (highest first) -/
structure DInv (B y : Int) (pre qs : List Int) (r : Int) : Prop where
  val : dval B pre.reverse = y * dval B qs.reverse + r
  r0 : 0 ≤ r
  r1 : r < y
  qb : ∀ q ∈ qs, 0 ≤ q ∧ q < B
  len : qs.length = pre.length
theorem DInv.start {B y : Int} (hy : 0 < y) : DInv B y [] [] 0 := ⟨by simp [dval], Int.le_refl _, hy, (fun _ h => nomatch h), rfl⟩
theorem DInv.step {B y r d : Int} {pre qs : List Int} (h : DInv B y pre qs r) (hy : 0 < y) (hd0 : 0 ≤ d) (hd1 : d < B) : DInv B y (pre ++ [d]) (qs ++ [(r * B + d) / y]) ((r * B + d) % y) := by
  have hB : 0 < B := by omega
  have hr := h.r0
  have hrB : 0 ≤ r * B := Int.mul_nonneg hr (Int.le_of_lt hB)
  refine ⟨?_, Int.emod_nonneg _ (by omega), Int.emod_lt_of_pos _ hy, ?_, by simp [h.len]⟩
  · rw [List.reverse_append, List.reverse_append]
    show dval B (d :: pre.reverse) = y * dval B ((r * B + d) / y :: qs.reverse) + (r * B + d) % y
    rw [dval, dval, h.val]
    have := Int.emod_add_mul_ediv (r * B + d) y
    rw [Int.mul_add, Int.mul_add, Int.mul_comm r B] at *
    have e : B * (y * dval B qs.reverse) = y * (B * dval B qs.reverse) := by rw [← Int.mul_assoc, ← Int.mul_assoc, Int.mul_comm B y]
    omega
  · intro q hq
    rcases List.mem_append.mp hq with hq | hq
    · exact h.qb q hq
    · rw [List.mem_singleton.mp hq]
      refine ⟨Int.ediv_nonneg (by omega) (by omega), Int.ediv_lt_of_lt_mul hy ?_⟩
      have h1 : r * B ≤ (y - 1) * B := Int.mul_le_mul_of_nonneg_right (by have := h.r1; omega) (Int.le_of_lt hB)
      rw [Int.sub_mul, Int.one_mul, Int.mul_comm y B] at h1
      omega
theorem DInv.fin {B y x r : Int} {ds qs : List Int} (h : DInv B y ds.reverse qs r) (hx : dval B ds = x) (hy : 0 < y) : dval B qs.reverse = x / y ∧ r = x % y := by
  have hv := h.val
  rw [List.reverse_reverse, hx] at hv
  have h0 := h.r0
  have h1 := h.r1
  constructor
  · rw [hv, Int.add_comm, Int.add_mul_ediv_left _ _ (Int.ne_of_gt hy), Int.ediv_eq_zero_of_lt h0 h1]; omega
  · rw [hv, Int.add_comm, Int.add_mul_emod_self_left, Int.emod_eq_of_lt h0 h1]
theorem dval_digs {B : Int} (hB : 0 < B) : ∀ (k : Nat) (x : Int), 0 ≤ x → x < B ^ k → dval B (digs B x k) = x
  | 0, x, h0, h1 => by simp [digs, dval] at *; omega
  | k + 1, x, h0, h1 => by
    rw [digs, dval, dval_digs hB k (x / B) (Int.ediv_nonneg h0 (Int.le_of_lt hB)) (Int.ediv_lt_of_lt_mul hB (by rw [← Int.pow_succ]; exact h1))]
    exact Int.emod_add_mul_ediv x B
theorem digs_mem {B : Int} (hB : 0 < B) : ∀ (k : Nat) (x d : Int), d ∈ digs B x k → 0 ≤ d ∧ d < B
  | k + 1, x, d, h => by
    rw [digs] at h
    rcases List.mem_cons.mp h with rfl | h
    · exact ⟨Int.emod_nonneg _ (Int.ne_of_gt hB), Int.emod_lt_of_pos _ hB⟩
    · exact digs_mem hB k _ d h
theorem i2d_val {x n : Int} (hx : 0 ≤ x) (hn : 0 < n) : dval (2 ^ n.toNat) (i2d x n) = x := by
  unfold i2d
  by_cases h : x = 0
  · subst h
    have : ∀ k : Nat, dval (2 ^ n.toNat) (List.replicate k 0) = 0 := by
      intro k
      induction k with
      | zero => rfl
      | succ k ih => rw [List.replicate_succ, dval, ih]; simp
    rw [digs_zero, this]
  · exact dval_digs (Int.pow_pos (by decide)) _ _ hx (i2_count hx h hn).2
theorem i2d_mem {x n d : Int} (h : d ∈ i2d x n) : 0 ≤ d ∧ d < 2 ^ n.toNat := digs_mem (Int.pow_pos (by decide)) _ _ _ h
theorem i2d_length (x n : Int) : (i2d x n).length = kOf x n := digs_length _ _ _
theorem kOf_mul {x n : Int} (hx0 : 0 ≤ x) (hx1 : x < 1073741824) (hn : 0 < n) (hn1 : n ≤ 30) : n.toNat * kOf x n ≤ 60 := by
  have hb := bits_le hx0 30 (by omega)
  have e := kOf_fdiv (x := x) hn
  rw [Int.fdiv_eq_ediv_of_nonneg _ (by omega)] at e
  have h1 := Int.emod_add_mul_ediv ((Builtin.Int.intBits x : Int) + n - 1) n
  have h2 := Int.emod_nonneg ((Builtin.Int.intBits x : Int) + n - 1) (Int.ne_of_gt hn)
  rw [e] at h1
  have h3 : ((n.toNat * kOf x n : Nat) : Int) = n * (kOf x n : Int) := by rw [Int.natCast_mul, Int.toNat_of_nonneg (by omega)]
  omega
theorem intBits_pos {y : Int} (h : 0 < y) : 0 < Builtin.Int.intBits y := by
  unfold Builtin.Int.intBits
  have : (y == 0) = false := by simp; omega
  rw [this]; simp
theorem lshift_b {prog : Program} {w : World} {A : Around} {E : Value → Shared → Prop} {s : Shared} {a n : Int} {t u : Tok} {Q : Value → Shared → Prop} (hn : 0 ≤ n) (hn2 : n ≤ 30) (ha0 : 0 ≤ a) (ha : a < 1073741824) (h : ∀ v, v = a * 2 ^ n.toNat → 0 ≤ v → v ≤ 1152921503533105152 → Q (.int v s.toks) { s with toks := s.toks + 1 }) : wpAny (model prog w) A (binaryOp .LShift (.int a t) (.int n u)) Q E s := by
  have hp : (0 : Int) < 2 ^ n.toNat := Int.pow_pos (by decide)
  have h4 : ((2 ^ n.toNat : Nat) : Int) ≤ ((2 ^ 30 : Nat) : Int) := Int.ofNat_le.mpr (Nat.pow_le_pow_right (by decide) (by omega))
  have h5 : (2 : Int) ^ n.toNat ≤ 1073741824 := by simpa using h4
  exact lshift_int_small hn (by omega) (by omega) (h _ rfl (Int.mul_nonneg ha0 (Int.le_of_lt hp)) (Int.le_trans (Int.mul_le_mul (Int.le_of_lt_add_one (b := 1073741823) (by omega)) h5 (Int.le_of_lt hp) (by decide)) (by decide)))
theorem rev_v {prog : Program} {w : World} {A : Around} {E : Value → Shared → Prop} {s : Shared} {h₀ : Heap} {L D : Addr} {m : Str → Option Value} {news news' : List (Addr × Obj)} {vs : List Value} {n : Nat} {Q : Value → Shared → Prop} (F : Fr h₀ L s.heap m) (N : News h₀ L s.heap news) (U : Upd D (listOf vs.toArray n) (listOf vs.reverse.toArray n) news news') (hz : vs.length ≤ 1000)
    (h : ∀ h', Fr h₀ L h' m → News h₀ L h' news' → Q .none { s with heap := h' }) : wpAny (model prog w) A (call (.builtin "list.reverse") [.ref D]) Q E s :=
  kl_reverse (its := vs.toArray) (l := vs.reverse) F N (by simp) U (by rw [sizeLine_eq]; simp; omega) h
theorem ints_reverse {vs : List Value} {ns : List Int} (h : IntsAre vs ns) : IntsAre vs.reverse ns.reverse := by
  induction h with
  | nil => exact .nil
  | cons n t _ ih => rw [List.reverse_cons, List.reverse_cons]; exact ih.append (.cons _ _ .nil)
theorem unr_mono {h₀ : Heap} {L I : Addr} {it : Obj} {s₁ s₂ : Shared} {f : Flow} {Q : Flow → Shared → Prop} {rest rest' : (Str → Option Value) → List (Addr × Obj) → Prop} (hr : ∀ m n, rest m n → rest' m n) (h : UnrPost h₀ L s₁ I it rest Q f s₂) : UnrPost h₀ L s₁ I it rest' Q f s₂ := by
  cases f with
  | ret v => exact h
  | brk => exact h
  | next => obtain ⟨h', tk, m', news', e, F, N, ho, hj⟩ := h; exact ⟨h', tk, m', news', e, F, N, ho, hr _ _ hj⟩
  | cont => obtain ⟨h', tk, m', news', e, F, N, ho, hj⟩ := h; exact ⟨h', tk, m', news', e, F, N, ho, hr _ _ hj⟩
section
variable {prog : Program} {w : World} {A : Around} {E : Value → Shared → Prop} {s : Shared} {env : Env} {h₀ : Heap} {x : Str} {body : List Stmt} {Q : Flow → Shared → Prop}
theorem rev_ind {I : Addr} {lp : Addr × Obj} (J : List Value → (Str → Option Value) → List (Addr × Obj) → Prop)
    (step : ∀ v r m news, J (v :: r) m news → ∀ (it : Obj) h tk, it.cls = .type "list_reverseiterator" → Fr h₀ env.locals h (fun y => if y = x then some v else m y) → News h₀ env.locals h ((I, it) :: news) →
      wpAny (model prog w) A (execs body env) (UnrPost h₀ env.locals { s with heap := h, toks := tk } I it (fun m' n' => lp ∈ n' ∧ J r m' n') Q) E { s with heap := h, toks := tk })
    (done : ∀ m news, J [] m news → ∀ h tk, Fr h₀ env.locals h m → News h₀ env.locals h news → Q .next { s with heap := h, toks := tk }) :
    ∀ l m news, J l m news → RevRest prog w A E h₀ env x body Q s I lp l m news
  | [], m, news, hj => RevRest.zero (done m news hj)
  | v :: r, m, news, hj => RevRest.succ fun it h tk hc F N => wpAny_mono (step v r m news hj it h tk hc F N) (fun _ _ q => unr_mono (fun m' n' hq => ⟨hq.1, rev_ind J step done r m' n' hq.2⟩) q) fun _ _ e => e
theorem list_ind {I : Addr} {lp : Addr × Obj} (J : List Value → (Str → Option Value) → List (Addr × Obj) → Prop)
    (step : ∀ v r m news, J (v :: r) m news → ∀ (it : Obj) h tk, it.cls = .type "list_iterator" → Fr h₀ env.locals h (fun y => if y = x then some v else m y) → News h₀ env.locals h ((I, it) :: news) →
      wpAny (model prog w) A (execs body env) (UnrPost h₀ env.locals { s with heap := h, toks := tk } I it (fun m' n' => lp ∈ n' ∧ J r m' n') Q) E { s with heap := h, toks := tk })
    (done : ∀ m news, J [] m news → ∀ h tk, Fr h₀ env.locals h m → News h₀ env.locals h news → Q .next { s with heap := h, toks := tk }) :
    ∀ l m news, J l m news → ListRest prog w A E h₀ env x body Q s I lp l m news
  | [], m, news, hj => ListRest.zero (done m news hj)
  | v :: r, m, news, hj => ListRest.succ fun it h tk hc F N => wpAny_mono (step v r m news hj it h tk hc F N) (fun _ _ q => unr_mono (fun m' n' hq => ⟨hq.1, list_ind J step done r m' n' hq.2⟩) q) fun _ _ e => e
end
/-- the frame's map with the names that the loop's word speaks of laid on top -/
theorem fr_kst {h₀ h : Heap} {L : Addr} {x : Str} {v : Value} {m : Str → Option Value} {ps : List (Str × Value)} (hk : ∀ p ∈ ps, m p.1 = some p.2) (F : Fr h₀ L h (fun y => if y = x then some v else m y)) : Fr h₀ L h (fun y => if y = x then some v else kstB m ps y) := by
  have e : (fun y => if y = x then some v else kstB m ps y) = fun y => if y = x then some v else m y := by
    funext y
    by_cases hy : y = x
    · rw [if_pos hy, if_pos hy]
    · rw [if_neg hy, if_neg hy]; exact kstB_eq hk fun _ => rfl
  rw [e]; exact F
theorem fr_kst0 {h₀ h : Heap} {L : Addr} {m : Str → Option Value} {ps : List (Str × Value)} (hk : ∀ p ∈ ps, m p.1 = some p.2) (F : Fr h₀ L h m) : Fr h₀ L h (fun y => kstB m ps y) := by
  have e : (fun y => kstB m ps y) = m := by
    funext y
    exact kstB_eq hk fun _ => rfl
  rw [e]; exact F
abbrev dps (r : Int) (tr : Tok) (q : Addr) (vn vb : Value) : List (Str × Value) := [(Str.ofString "r", .int r tr), (Str.ofString "q_digits", .ref q), (Str.ofString "n", vn), (Str.ofString "b", vb)]
/-- between the turns of the long division; `l`: what is still to come -/
def DJ (B y : Int) (ds0 : List Int) (q : Addr) (tail : List (Addr × Obj)) (vn vb : Value) (l : List Value) (m : Str → Option Value) (news : List (Addr × Obj)) : Prop :=
  ∃ (ds pre qs : List Int) (r : Int) (tr : Tok) (vq : List Value) (nq : Nat), IntsAre l ds ∧ ds0 = pre ++ ds ∧ DInv B y pre qs r ∧ IntsAre vq qs ∧ news = (q, listOf vq.toArray nq) :: tail ∧ ∀ p ∈ dps r tr q vn vb, m p.1 = some p.2
/-- a turn's end of the long division -/
def DEnd (h₀ : Heap) (L : Addr) (B y : Int) (pre : List Int) (q : Addr) (tail : List (Addr × Obj)) (vn vb : Value) (I : Addr) (it : Obj) (s₁ s₂ : Shared) : Prop :=
  ∃ h' tk m' news' qs r tr vq nq, s₂ = { s₁ with heap := h', toks := tk } ∧ Fr h₀ L h' m' ∧ News h₀ L h' news' ∧ (I, it) ∈ news' ∧ (q, listOf vq.toArray nq) ∈ news' ∧ (∀ p ∈ tail, p ∈ news') ∧ IntsAre vq qs ∧ DInv B y pre qs r ∧ (∀ p ∈ dps r tr q vn vb, m' p.1 = some p.2)
def DPost (h₀ : Heap) (L : Addr) (B y : Int) (pre : List Int) (q : Addr) (tail : List (Addr × Obj)) (vn vb : Value) (I : Addr) (it : Obj) (s₁ : Shared) (Q : Flow → Shared → Prop) (f : Flow) (s₂ : Shared) : Prop :=
  match f with
  | .ret v => Q (.ret v) s₂
  | .brk => Q .next s₂
  | _ => DEnd h₀ L B y pre q tail vn vb I it s₁ s₂
theorem DEnd.intro {h₀ : Heap} {L : Addr} {B y : Int} {pre : List Int} {q : Addr} {tail : List (Addr × Obj)} {vn vb : Value} {I : Addr} {it : Obj} {s₁ : Shared} {h' : Heap} {tk : Nat} {m' : Str → Option Value} {news' : List (Addr × Obj)} {qs : List Int} {r : Int} {tr : Tok} {vq : List Value} {nq : Nat}
    (F : Fr h₀ L h' m') (N : News h₀ L h' news') (h1 : (I, it) ∈ news') (h2 : (q, listOf vq.toArray nq) ∈ news') (h3 : ∀ p ∈ tail, p ∈ news') (h4 : IntsAre vq qs) (h5 : DInv B y pre qs r) (h6 : ∀ p ∈ dps r tr q vn vb, m' p.1 = some p.2) :
    DEnd h₀ L B y pre q tail vn vb I it s₁ { s₁ with heap := h', toks := tk } := ⟨h', tk, m', news', qs, r, tr, vq, nq, rfl, F, N, h1, h2, h3, h4, h5, h6⟩
theorem rev_use {prog : Program} {w : World} {A : Around} {E : Value → Shared → Prop} {s : Shared} {env : Env} {h₀ : Heap} {body : List Stmt} {Q : Flow → Shared → Prop} {I ax q : Addr} {vs : List Value} {nn : Nat} {R : List (Addr × Obj)} {ds0 : List Int} {m₀ : Str → Option Value} {tr : Tok} {vn vb : Value} {B y : Int}
    (hh : A.handled = none) (F : Fr h₀ env.locals s.heap m₀) (N : News h₀ env.locals s.heap ((I, revObj ax ((vs.length : Int) - 1)) :: (q, listOf #[] 0) :: (ax, listOf vs.toArray nn) :: R)) (hof : @LT.lt Nat _ q I ∧ @LT.lt Nat _ ax I ∧ AllLt I R) (hi : IntsAre vs ds0)
    (hm : ∀ p ∈ dps 0 tr q vn vb, m₀ p.1 = some p.2) (hy : 0 < y) (hds : ∀ d ∈ ds0, 0 ≤ d ∧ d < B)
    (turn : ∀ (d : Int) (t : Tok) (r : Int) (tr : Tok) (qs pre : List Int) (vq : List Value) (nq : Nat) (it : Obj) (h : Heap) (tk : Nat) (m : Str → Option Value), 0 ≤ d → d < B → DInv B y pre qs r → IntsAre vq qs → vq.toArray.size ≤ ds0.length → it.cls = .type "list_reverseiterator" →
      Fr h₀ env.locals h (fun z => if z = Str.ofString "a_digit" then some (.int d t) else kstB m (dps r tr q vn vb) z) → News h₀ env.locals h ((I, it) :: (q, listOf vq.toArray nq) :: (ax, listOf vs.toArray nn) :: R) →
      wpAny (model prog w) A (execs body env) (DPost h₀ env.locals B y (pre ++ [d]) q ((ax, listOf vs.toArray nn) :: R) vn vb I it { s with heap := h, toks := tk } Q) E { s with heap := h, toks := tk })
    (done : ∀ (h : Heap) (tk : Nat) (m : Str → Option Value) (r : Int) (tr : Tok) (qs : List Int) (vq : List Value) (nq : Nat), DInv B y ds0.reverse qs r → IntsAre vq qs → Fr h₀ env.locals h (fun z => kstB m (dps r tr q vn vb) z) → News h₀ env.locals h ((q, listOf vq.toArray nq) :: (ax, listOf vs.toArray nn) :: R) → Q .next { s with heap := h, toks := tk }) :
    wpAny (model prog w) A (pyIter (.ref I)) (fun it s₂ => LoopAtV prog w A h₀ env (Str.ofString "a_digit") body Q E it s₂) E s := by
  have hne : ∀ p ∈ (q, listOf #[] 0) :: (ax, listOf vs.toArray nn) :: R, p.1 ≠ I := fun p hp => by
    rcases List.mem_cons.mp hp with rfl | hp
    · exact Nat.ne_of_lt hof.1
    rcases List.mem_cons.mp hp with rfl | hp
    · exact Nat.ne_of_lt hof.2.1
    · exact allLt_ne hof.2.2 p hp
  have hoff : ∀ l : List (Addr × Obj), (∀ p ∈ l, p.1 ≠ I) → OffI I (revObj ax ((vs.length : Int) - 1)) l := by
    intro l
    induction l with
    | nil => intro _; exact trivial
    | cons a r ih => intro h; exact ⟨.inl (h a (.head _)), ih fun p hp => h p (.tail _ hp)⟩
  refine iter_revUnr (lo := listOf vs.toArray nn) (vs := vs) (n := nn) hh F N (hoff _ hne) (.tail _ (.head _)) rfl rfl ?_
  refine rev_ind (J := DJ B y ds0.reverse q ((ax, listOf vs.toArray nn) :: R) vn vb) ?_ ?_ vs.reverse m₀ _ ⟨ds0.reverse, [], [], 0, tr, [], 0, ints_reverse hi, rfl, .start hy, .nil, rfl, hm⟩
  · rintro v r m news ⟨ds, pre, qs, rr, tr', vq, nq, hl, he, hD, hq, rfl, hk⟩ it h tk hc F₁ N₁
    cases hl with
    | cons d t hr =>
      rename_i ds'
      have hd := hds d (by have : d ∈ ds0.reverse := by rw [he]; simp
                           exact List.mem_reverse.mp this)
      have hsz : vq.toArray.size ≤ ds0.length := by
        have h1 := hq.length
        have h2 := hD.len
        have h3 : ds0.length = pre.length + (ds'.length + 1) := by rw [← List.length_reverse, he]; simp
        rw [List.size_toArray]; omega
      refine wpAny_mono (turn d t rr tr' qs pre vq nq it h tk m hd.1 hd.2 hD hq hsz hc (fr_kst hk F₁) N₁) (fun f s₂ p => ?_) fun _ _ e => e
      have fin : DEnd h₀ env.locals B y (pre ++ [d]) q ((ax, listOf vs.toArray nn) :: R) vn vb I it { s with heap := h, toks := tk } s₂ → UnrEnd h₀ env.locals { s with heap := h, toks := tk } I it (fun m' n' => (ax, listOf vs.toArray nn) ∈ n' ∧ DJ B y ds0.reverse q ((ax, listOf vs.toArray nn) :: R) vn vb r m' n') s₂ := by
        rintro ⟨h', tk', m', news', qs', r', tr'', vq', nq', e, F', N', a1, a2, a3, a4, a5, a6⟩
        refine ⟨h', tk', m', (q, listOf vq'.toArray nq') :: (ax, listOf vs.toArray nn) :: R, e, F', fun p hp => ?_, fun p hp => ?_, .tail _ (.head _), ⟨ds', pre ++ [d], qs', r', tr'', vq', nq', hr, by rw [he]; simp, a5, a4, rfl, a6⟩⟩
        · rcases List.mem_cons.mp hp with rfl | hp
          · exact N' _ a1
          rcases List.mem_cons.mp hp with rfl | hp
          · exact N' _ a2
          · exact N' _ (a3 _ hp)
        · rcases List.mem_cons.mp hp with rfl | hp
          · exact Nat.ne_of_lt hof.1
          · exact hne p (.tail _ hp)
      cases f with
      | ret v => exact p
      | brk => exact p
      | next => exact fin p
      | cont => exact fin p
  · rintro m news ⟨ds, pre, qs, rr, tr', vq, nq, hl, he, hD, hq, rfl, hk⟩ h tk F₁ N₁
    cases hl
    rw [List.append_nil] at he
    rw [← he] at hD
    exact done h tk m rr tr' qs vq nq hD hq (fr_kst0 hk F₁) N₁
theorem i2d_size {vs : List Value} {x n : Int} (h : IntsAre vs (i2d x n)) : vs.toArray.size = kOf x n := by
  rw [List.size_toArray, h.length, i2d_length]
theorem kOf_one {x : Int} (_hx : 0 ≤ x) : kOf x 1 = Builtin.Int.intBits x := by
  unfold kOf
  rw [Int.fdiv_eq_ediv_of_nonneg _ (by decide)]
  omega
def IsRoot (N r : Int) : Prop := 0 ≤ r ∧ r * r ≤ N ∧ N < (r + 1) * (r + 1)
theorem sq_le {a b : Int} (ha : 0 ≤ a) (h : a ≤ b) : a * a ≤ b * b := Int.mul_le_mul h h ha (Int.le_trans ha h)
theorem lt_of_sq {a b : Int} (hb : 0 ≤ b) (h : a * a < b * b) : a < b := by
  rcases Int.lt_or_le a b with h1 | h1
  · exact h1
  · exact absurd (sq_le hb h1) (by omega)
theorem IsRoot.unique {N r s : Int} (h : IsRoot N r) (g : IsRoot N s) : r = s := by
  have h1 : r < s + 1 := lt_of_sq (by have := g.1; omega) (Int.lt_of_le_of_lt h.2.1 g.2.2)
  have h2 : s < r + 1 := lt_of_sq (by have := h.1; omega) (Int.lt_of_le_of_lt g.2.1 h.2.2)
  omega
theorem isRoot_ex (N : Nat) : ∃ r : Int, IsRoot N r := by
  induction N with
  | zero => exact ⟨0, by decide, by decide, by decide⟩
  | succ n ih =>
    obtain ⟨r, h0, h1, h2⟩ := ih
    have e : ((n + 1 : Nat) : Int) = (n : Int) + 1 := by omega
    rcases Int.lt_or_le ((n : Int) + 1) ((r + 1) * (r + 1)) with h | h
    · exact ⟨r, h0, by omega, by rw [e]; exact h⟩
    · refine ⟨r + 1, by omega, by rw [e]; exact h, ?_⟩
      have : (r + 1 + 1) * (r + 1 + 1) = (r + 1) * (r + 1) + 2 * (r + 1) + 1 := by grind
      omega
theorem isRoot_of {N : Int} (h : 0 ≤ N) : ∃ r, IsRoot N r := by
  obtain ⟨n, rfl⟩ := Int.eq_ofNat_of_zero_le h
  exact isRoot_ex n
theorem IsRoot.pos {N r : Int} (h : IsRoot N r) (hN : 0 < N) : 0 < r := by
  have h0 := h.1
  rcases Int.lt_or_le 0 r with h1 | h1
  · exact h1
  · have e : r = 0 := by omega
    have := h.2.2
    rw [e] at this
    omega
theorem IsRoot.le {N r : Int} (h : IsRoot N r) : r ≤ N := by
  have h0 := h.1
  have h1 := h.2.1
  rcases Int.lt_or_le 0 r with h2 | h2
  · have : r * 1 ≤ r * r := Int.mul_le_mul_of_nonneg_left (by omega) h0
    omega
  · have : r * r = 0 := by have : r = 0 := by omega
                           rw [this]; rfl
    omega
theorem IsRoot.two {N r : Int} (h : IsRoot N r) : r * r ≤ N ∧ N ≤ r * r + 2 * r := by
  have h2 := h.2.2
  have : (r + 1) * (r + 1) = r * r + 2 * r + 1 := by grind
  exact ⟨h.2.1, by omega⟩
/-- Heron's step that does not fall: the root is found -/
theorem heron_stop {N r h : Int} (hr : IsRoot N r) (hh : 0 < h) (hl : r ≤ h) (ha : h ≤ (h + N / h) / 2) : IsRoot N h := by
  have h1 : h ≤ N / h := by omega
  have h2 : h * h ≤ N := (Int.le_ediv_iff_mul_le hh).mp h1
  have h3 : h < r + 1 := lt_of_sq (by have := hr.1; omega) (Int.lt_of_le_of_lt h2 hr.2.2)
  have : h = r := by omega
  rw [this]; exact hr
/-- Heron's step that falls: it stays no less than the root and the way to it is halved -/
theorem heron_step {N r h : Int} (hr : IsRoot N r) (hh : 0 < h) (hl : r ≤ h) (ha : ¬ h ≤ (h + N / h) / 2) : r + 1 ≤ h ∧ r ≤ (h + N / h) / 2 ∧ 2 * ((h + N / h) / 2 - r) ≤ h - r := by
  have h0 := hr.1
  have hne : r ≠ h := fun e => by
    have h1 : h ≤ N / h := (Int.le_ediv_iff_mul_le hh).mpr (by rw [← e]; exact hr.2.1)
    omega
  have h1 : r + 1 ≤ h := by omega
  have h2 : N / h ≤ r := by
    refine Int.le_of_lt_add_one (Int.ediv_lt_of_lt_mul hh (Int.lt_of_lt_of_le hr.2.2 ?_))
    exact Int.mul_le_mul_of_nonneg_left h1 (by omega)
  have h3 : 2 * r - h ≤ N / h := by
    refine (Int.le_ediv_iff_mul_le hh).mpr (Int.le_trans ?_ hr.2.1)
    have h4 : 0 ≤ (h - r) * (h - r) := Int.mul_nonneg (by omega) (by omega)
    have h5 : (h - r) * (h - r) = h * h - 2 * (r * h) + r * r := by grind
    have h6 : (2 * r - h) * h = 2 * (r * h) - h * h := by grind
    omega
  exact ⟨h1, by omega, by omega⟩
/-- what holds between Heron's turns; c: the exponent begun with, k: the turns -/
structure HInv (N r h k : Int) (c : Nat) : Prop where
  pos : 0 < h
  le : r ≤ h
  k0 : 0 ≤ k
  k1 : k ≤ c + 1
  way : 2 ^ k.toNat * (h - r) ≤ 2 ^ c
  lid : h ≤ 2 ^ c
theorem HInv.step {N r h k : Int} {c : Nat} (hr : IsRoot N r) (hN : 0 < N) (H : HInv N r h k c) (ha : ¬ h ≤ (h + N / h) / 2) : HInv N r ((h + N / h) / 2) (k + 1) c := by
  have hp := hr.pos hN
  obtain ⟨h1, h2, h3⟩ := heron_step hr H.pos H.le ha
  have hk : k ≤ c := by
    have hw := H.way
    have hpw : (0 : Int) < 2 ^ k.toNat := Int.pow_pos (by decide)
    have h4 : (2 : Int) ^ k.toNat * 1 ≤ 2 ^ k.toNat * (h - r) := Int.mul_le_mul_of_nonneg_left (by omega) (Int.le_of_lt hpw)
    have h5 : (2 : Int) ^ k.toNat ≤ 2 ^ c := by omega
    have h6 : ((2 ^ k.toNat : Nat) : Int) ≤ ((2 ^ c : Nat) : Int) := by simpa using h5
    have h7 := (Nat.pow_le_pow_iff_right (by decide : 1 < 2)).mp (Int.ofNat_le.mp h6)
    omega
  refine ⟨by omega, h2, by have := H.k0; omega, by omega, ?_, by have := H.lid; omega⟩
  have e : (k + 1).toNat = k.toNat + 1 := by have := H.k0; omega
  rw [e, Int.pow_succ, Int.mul_assoc]
  exact Int.le_trans (Int.mul_le_mul_of_nonneg_left h3 (Int.le_of_lt (Int.pow_pos (by decide)))) H.way
def begun (x : Int) : Int := 2 ^ ((Builtin.Int.intBits x + 1) / 2)
theorem lt_bits {x : Int} (hx0 : 0 ≤ x) : x < 2 ^ Builtin.Int.intBits x := by
  by_cases h : x = 0
  · subst h; decide
  · have := (i2_count (n := 1) hx0 h (by decide)).2
    have e : (Int.fdiv ((Builtin.Int.intBits x : Int) + 1 - 1) 1).toNat = Builtin.Int.intBits x := kOf_one hx0
    rw [e] at this
    simpa using this
theorem pow2_mono {a b : Nat} (h : a ≤ b) : (2 : Int) ^ a ≤ 2 ^ b := by
  have h6 : ((2 ^ a : Nat) : Int) ≤ ((2 ^ b : Nat) : Int) := Int.ofNat_le.mpr (Nat.pow_le_pow_right (by decide) h)
  simpa using h6
theorem begun_root {x r : Int} (hx0 : 0 ≤ x) (hr : IsRoot x r) : r < begun x := by
  unfold begun
  refine lt_of_sq (Int.le_of_lt (Int.pow_pos (by decide))) (Int.lt_of_le_of_lt hr.2.1 (Int.lt_of_lt_of_le (lt_bits hx0) ?_))
  rw [← Int.pow_add]
  exact pow2_mono (by omega)
theorem HInv.start {N r : Int} (hN : 0 < N) (hr : IsRoot N r) : HInv N r (begun N) 0 ((Builtin.Int.intBits N + 1) / 2) := by
  have h1 := begun_root (Int.le_of_lt hN) hr
  have h0 := hr.1
  refine ⟨by omega, by omega, by decide, by omega, ?_, Int.le_refl _⟩
  show 1 * (begun N - r) ≤ begun N
  omega
/-- third roots -/
def IsThird (N r : Int) : Prop := 0 ≤ r ∧ r * r * r ≤ N ∧ N < (r + 1) * (r + 1) * (r + 1)
theorem cube_le {a b : Int} (ha : 0 ≤ a) (h : a ≤ b) : a * a * a ≤ b * b * b := Int.mul_le_mul (sq_le ha h) h ha (Int.mul_nonneg (Int.le_trans ha h) (Int.le_trans ha h))
theorem lt_of_cube {a b : Int} (hb : 0 ≤ b) (h : a * a * a < b * b * b) : a < b := by
  rcases Int.lt_or_le a b with h1 | h1
  · exact h1
  · exact absurd (cube_le hb h1) (by omega)
theorem isThird_ex (N : Nat) : ∃ r : Int, IsThird N r := by
  induction N with
  | zero => exact ⟨0, by decide, by decide, by decide⟩
  | succ n ih =>
    obtain ⟨r, h0, h1, h2⟩ := ih
    have e : ((n + 1 : Nat) : Int) = (n : Int) + 1 := by omega
    rcases Int.lt_or_le ((n : Int) + 1) ((r + 1) * (r + 1) * (r + 1)) with h | h
    · exact ⟨r, h0, by omega, by rw [e]; exact h⟩
    · refine ⟨r + 1, by omega, by rw [e]; exact h, ?_⟩
      have h3 : (r + 1 + 1) * (r + 1 + 1) * (r + 1 + 1) = (r + 1) * (r + 1) * (r + 1) + 3 * ((r + 1) * (r + 1)) + 3 * (r + 1) + 1 := by grind
      have h4 : 0 ≤ (r + 1) * (r + 1) := Int.mul_nonneg (by omega) (by omega)
      omega
theorem isThird_of {N : Int} (h : 0 ≤ N) : ∃ r, IsThird N r := by
  obtain ⟨n, rfl⟩ := Int.eq_ofNat_of_zero_le h
  exact isThird_ex n
theorem third_stop {N r h : Int} (hr : IsThird N r) (hh : 0 < h) (hl : r ≤ h) (ha : h ≤ (2 * h + N / (h * h)) / 3) : IsThird N h := by
  have h1 : h ≤ N / (h * h) := by omega
  have h2 : h * (h * h) ≤ N := (Int.le_ediv_iff_mul_le (Int.mul_pos hh hh)).mp h1
  have h3 : h < r + 1 := lt_of_cube (by have := hr.1; omega) (Int.lt_of_le_of_lt (by rw [Int.mul_assoc]; exact h2) hr.2.2)
  have : h = r := by omega
  rw [this]; exact hr
theorem third_step {N r h : Int} (hr : IsThird N r) (hh : 0 < h) (hl : r ≤ h) (hN : 0 < N) : r ≤ (2 * h + N / (h * h)) / 3 ∧ 0 < (2 * h + N / (h * h)) / 3 := by
  have h0 := hr.1
  have hp : 0 < h * h := Int.mul_pos hh hh
  have hq0 : 0 ≤ N / (h * h) := Int.ediv_nonneg (Int.le_of_lt hN) (Int.le_of_lt hp)
  have h3 : 3 * r - 2 * h ≤ N / (h * h) := by
    refine (Int.le_ediv_iff_mul_le hp).mpr (Int.le_trans ?_ hr.2.1)
    have h4 : 0 ≤ (h - r) * (h - r) * (2 * h + r) := Int.mul_nonneg (Int.mul_nonneg (by omega) (by omega)) (by omega)
    have h5 : (h - r) * (h - r) * (2 * h + r) = 2 * (h * h * h) - 3 * (r * (h * h)) + r * r * r := by grind
    have h6 : (3 * r - 2 * h) * (h * h) = 3 * (r * (h * h)) - 2 * (h * h * h) := by grind
    omega
  refine ⟨by omega, ?_⟩
  have hr1 : 0 < r := by
    rcases Int.lt_or_le 0 r with h1 | h1
    · exact h1
    · have e : r = 0 := by omega
      have := hr.2.2
      rw [e] at this
      omega
  omega
def begun3 (x : Int) : Int := 2 ^ ((Builtin.Int.intBits x + 2) / 3)
theorem begun3_root {x r : Int} (hx0 : 0 ≤ x) (hr : IsThird x r) : r < begun3 x := by
  unfold begun3
  refine lt_of_cube (Int.le_of_lt (Int.pow_pos (by decide))) (Int.lt_of_le_of_lt hr.2.1 (Int.lt_of_lt_of_le (lt_bits hx0) ?_))
  rw [← Int.pow_add, ← Int.pow_add]
  exact pow2_mono (by omega)
theorem begun3_le {x : Int} (hx0 : 0 ≤ x) (hx1 : x < 16384) : begun3 x ≤ 32 := by
  have h := bits_le hx0 14 (by omega)
  unfold begun3
  exact Int.le_trans (pow2_mono (b := 5) (by omega)) (by decide)
/-- the root figure by figure: what holds before the figure at the place p -/
structure FInv (N root : Int) (p : Nat) : Prop where
  r0 : 0 ≤ root
  lo : root * root ≤ N
  hi : N < (root + 2 ^ p) * (root + 2 ^ p)
theorem FInv.start {N : Int} (hN : 0 ≤ N) : FInv N 0 (Builtin.Int.intBits N + 1) := by
  refine ⟨by decide, by omega, ?_⟩
  rw [Int.zero_add, ← Int.pow_add]
  exact Int.lt_of_lt_of_le (lt_bits hN) (pow2_mono (by omega))
theorem FInv.step {N root : Int} {p : Nat} (h : FInv N root (p + 1)) : FInv N (if (root + 2 ^ p) * (root + 2 ^ p) ≤ N then root + 2 ^ p else root) p := by
  have hp : (0 : Int) < 2 ^ p := Int.pow_pos (by decide)
  have h0 := h.r0
  split
  · rename_i h1
    refine ⟨by omega, h1, ?_⟩
    have e : root + 2 ^ p + 2 ^ p = root + 2 ^ (p + 1) := by rw [Int.pow_succ]; omega
    rw [e]; exact h.hi
  · rename_i h1
    exact ⟨h0, h.lo, by omega⟩
theorem FInv.fin {N root : Int} (h : FInv N root 0) : IsRoot N root := ⟨h.r0, h.lo, by have := h.hi; simpa using this⟩
theorem root_sq {r : Int} (h : 0 ≤ r) : IsRoot (r * r) r := ⟨h, Int.le_refl _, by have : (r + 1) * (r + 1) = r * r + 2 * r + 1 := by grind
                                                                                  omega⟩
theorem root_sq1 {r : Int} (h : 0 < r) : IsRoot (r * r - 1) (r - 1) := by
  refine ⟨by omega, ?_, ?_⟩
  · have : (r - 1) * (r - 1) = r * r - 2 * r + 1 := by grind
    omega
  · have : (r - 1 + 1) * (r - 1 + 1) = r * r := by grind
    omega
theorem root_mul {N o r s t : Int} (hr : IsRoot N r) (hs : IsRoot o s) (ht : IsRoot (N * o) t) : r * s ≤ t := by
  have h1 : (r * s) * (r * s) ≤ N * o := by
    have e : (r * s) * (r * s) = (r * r) * (s * s) := by grind
    rw [e]
    exact Int.mul_le_mul hr.2.1 hs.2.1 (Int.mul_nonneg hs.1 hs.1) (Int.le_trans (Int.mul_nonneg hr.1 hr.1) hr.2.1)
  have := lt_of_sq (a := r * s) (b := t + 1) (by have := ht.1; omega) (Int.lt_of_le_of_lt h1 ht.2.2)
  omega
section
local macro_rules | `(tactic| k_all) => `(tactic| first | exact RB.ne (by assumption) (by omega) | exact allLt_ne (by assumption) | assumption)
local macro_rules | `(tactic| walk_at "binaryOp Mult ref int") => `(tactic| (k_here; (with_reducible show wpAny _ _ (binaryOp Operator.Mult (Value.ref _) (Value.int _ _)) _ _ _); k_dflt (refine' mul_zero ?F ?N ?m ?a ?b ?_; (case F => k_asm); (case N => k_asm); (case m => k_mem); (case a => assumption); (case b => omega); k_whole); intro D' h' F' N' l1; (try k_lt l1)))
local macro_rules | `(tactic| walk_at "call builtin:len") => `(tactic| (k_here; (with_reducible show wpAny _ _ (call (Value.builtin "len") [Value.ref _]) _ _ _); k_dflt (refine' len_rep ?N ?m ?b ?_; (case N => k_asm); (case m => k_mem); (case b => omega); k_whole)))
local macro_rules | `(tactic| k_mem) => `(tactic| with_reducible assumption)
section
variable {w : World} {p : Program} {loose : List Str} {mean : ExcName → Option Value} {mg mb : Str → Option Value}
   {dp un : Nat} {gd : Option (List Code)} {cn : Str} {cs : Scope} {a : Addr} {ccd : Value} {cl : List (Str × Addr)} {outer : List Env} {A₀ : Around} {base h₀ : Heap} {L : Addr} {m : Str → Option Value} {R : List (Addr × Obj)} {s : Shared} {Q E : Value → Shared → Prop}
set_option maxRecDepth 100000 in
set_option maxHeartbeats 8000000 in
theorem c_div {x y n : Int} {tx ty tn : Tok}
   (B : Below A₀ base outer h₀) (F : Fr h₀ L s.heap m) (X : Frag.In (hd.heap_39 (World.params w)) h₀) (N : News h₀ L s.heap R) (T : Top p loose mean mg mb h₀) (hk : cs.kind = .function)
   (hd : dp + 10 < recursionLimit) (hu : un + 100 < cLine)
   (hx0 : 0 ≤ x) (hx1 : x < 2 ^ 62) (hy0 : 0 < y) (hy1 : y < 1073741824) (hn : 0 ≤ n)
   (hret : ∀ t tq tr h' tk', Fr h₀ L h' m → News h₀ L h' ((t, tup2 (x / y) (x % y) tq tr) :: R) → (∀ q ∈ R, q.1 < t) → Q (.ref t) { s with heap := h', toks := tk' }) :
   wpAny (model (RowW.prog (OpenRow.toRowW (OpenLaw.row PySem.Challenge.rw_hl0004_01))) w) (ktrTop dp un gd cn cs L a ccd cl outer) (call (.ref 21) [.int x tx, .int y ty, .int n tn]) Q E s := by
  w_top off
  revert X; k_fill; intro X
  have hb := bits_le hx0 62 hx1
  refine wpAny_call ?_
  k_dflt cell_enter
  w_strict k_steps
  rename Fr h₀ _ _ _ => F9
  rename News h₀ _ _ _ => N9
  rename News _ _ _ R => N8
  refine hret _ _ _ _ _ F9 (by rw [← Int.fdiv_eq_ediv_of_nonneg x (Int.le_of_lt hy0), ← Int.fmod_eq_emod_of_nonneg x (Int.le_of_lt hy0)]; exact N9) fun q hq => ?_
  exact Heap.lt_size (N8 q hq).1
end
end
section
local macro_rules | `(tactic| k_all) => `(tactic| first | exact RB.ne (by assumption) (by omega) | exact allLt_ne (by assumption) | assumption)
local macro_rules | `(tactic| walk_at "binaryOp Mult ref int") => `(tactic| (k_here; (with_reducible show wpAny _ _ (binaryOp Operator.Mult (Value.ref _) (Value.int _ _)) _ _ _); k_dflt (refine' mul_zero ?F ?N ?m ?a ?b ?_; (case F => k_asm); (case N => k_asm); (case m => k_mem); (case a => assumption); (case b => omega); k_whole); intro D' h' F' N' l1; (try k_lt l1)))
local macro_rules | `(tactic| walk_at "call builtin:len") => `(tactic| (k_here; (with_reducible show wpAny _ _ (call (Value.builtin "len") [Value.ref _]) _ _ _); k_dflt (refine' len_rep ?N ?m ?b ?_; (case N => k_asm); (case m => k_mem); (case b => omega); k_whole)))
local macro_rules | `(tactic| k_mem) => `(tactic| with_reducible assumption)
local macro_rules | `(tactic| walk_at "binaryOp RShift int int") => `(tactic| (k_here; (refine' rshift_v ?a ?b ?_; (case a => omega); (case b => omega); k_whole); intro v9 hv9 hw9 hx9))
local macro_rules | `(tactic| walk_at "binaryOp RShift int int") => `(tactic| (k_here; refine rshift1_v ?_; intro v9 hv9))
local macro_rules | `(tactic| walk_at "binaryOp Mult int int") => `(tactic| (k_here; (refine' mul_v ?a ?b ?c ?d ?_; (case a => omega); (case b => omega); (case c => omega); (case d => omega); k_whole); intro v9 hv9 hw9 hx9))
local macro_rules | `(tactic| walk_at "binaryOp LShift int int") => `(tactic| (k_here; (refine' lshift_v ?a ?b ?c ?d ?_; (case a => omega); (case b => omega); (case c => omega); (case d => omega); k_whole); intro v9 hv9))
local macro_rules | `(tactic| walk_at "binaryOp BitXor int int") => `(tactic| (k_here; (refine' xor_v ?a ?b ?c ?_; (case a => omega); (case b => assumption); (case c => assumption); k_whole); intro v9 hv9))
local macro_rules | `(tactic| walk_at "call ref") => `(tactic| (k_here; (with_reducible show wpAny _ _ (call (Value.ref _) [Value.int _ _, Value.int _ _, Value.int _ _]) _ _ _); (first
  | (k_dflt (refine' i2_use1 ?I ?B ?F ?X ?N ?T ?hk ?hv ?hS ?hm ?h0 ?hhi ?hk2 ?hk0 ?hn ?hns ?hns2 ?hi ?hx ?hx2 ?hd ?hu ?_; (case I => assumption); (case B => k_asm); (case F => k_asm); (case X => k_asm); (case N => assumption); (case T => k_asm); (case hk => exact rfl); (case hv => assumption); (case hS => assumption); (case hm => assumption); (case h0 => assumption); (case hhi => assumption); (case hk2 => assumption); (case hk0 => assumption); (case hn => assumption); (case hi => assumption); (case hns => assumption); (case hns2 => assumption);  (case hx => assumption); (case hx2 => assumption); (case hd => ktr_room); (case hu => ktr_units)); intro vs9 ns9 nn9 h9 tk9 F9 N9 hi9 he9 hl9; (try dsimp only); (try k_fold); trace "USE1")
  | (k_dflt (refine' i2_use2 ?I ?B ?F ?X ?N ?T ?hk ?hv ?hup ?hS ?hm ?h0 ?hhi ?hk2 ?hk0 ?hn ?hns ?hns2 ?hi ?hput ?hx ?hx1 ?hx2 ?hd ?hu ?_; (case I => assumption); (case B => k_asm); (case F => k_asm); (case X => k_asm); (case N => assumption); (case T => k_asm); (case hk => exact rfl); (case hup => assumption); (case hv => assumption); (case hS => assumption); (case hm => assumption); (case h0 => assumption); (case hhi => assumption); (case hk2 => assumption); (case hk0 => assumption); (case hn => assumption); (case hi => assumption); (case hput => assumption);  (case hns => assumption); (case hns2 => assumption); (case hx => assumption); (case hx1 => assumption); (case hx2 => assumption); (case hd => ktr_room); (case hu => ktr_units)); intro vs9 nn9 h9 tk9 F9 N9 hi9; (try dsimp only); (try k_fold); trace "USE2"))))
section
variable {w : World} {p : Program} {loose : List Str} {mean : ExcName → Option Value} {mg mb : Str → Option Value}
   {dp un : Nat} {gd : Option (List Code)} {cn : Str} {cs : Scope} {a : Addr} {ccd : Value} {cl : List (Str × Addr)} {outer : List Env} {A₀ : Around} {base h₀ : Heap} {L : Addr} {m : Str → Option Value} {R : List (Addr × Obj)} {s : Shared} {Q E : Value → Shared → Prop}
set_option maxRecDepth 100000 in
set_option maxHeartbeats 8000000 in
theorem c_i2d {x n : Int} {tx tn : Tok}
   (B : Below A₀ base outer h₀) (F : Fr h₀ L s.heap m) (X : Frag.In (hd.heap_39 (World.params w)) h₀) (N : News h₀ L s.heap R) (T : Top p loose mean mg mb h₀) (hk : cs.kind = .function)
   (hT : TabsIn R) (C30 : CodeHd base 34 30) (hd : dp + 200 < recursionLimit) (hu : un + 2000 < cLine)
   (hx0 : 0 ≤ x) (hx1 : x < 1073741824) (hn : 0 < n) (hn1 : n ≤ 30)
   (hret : ∀ l vs nn R' h' tk', Fr h₀ L h' m → News h₀ L h' ((l, listOf vs.toArray nn) :: R') → Evol R R' → IntsAre vs (i2d x n) → Q (.ref l) { s with heap := h', toks := tk' }) :
   wpAny (model (RowW.prog (OpenRow.toRowW (OpenLaw.row PySem.Challenge.rw_hl0004_01))) w) (ktrTop dp un gd cn cs L a ccd cl outer) (call (.ref 35) [.int x tx, .int n tn]) Q E s := by
  w_top off
  revert X; k_fill; intro X
  have hb := bits_le hx0 30 (by omega)
  have hkf := kOf_fdiv (x := x) hn
  have hkl := kOf_le hx0 hx1 hn
  have hq0 : 0 ≤ Int.fdiv ((Builtin.Int.intBits x : Int) + n - 1) n := by omega
  obtain ⟨ps, hps, hst⟩ := hT.1
  have hps2 := hT.2.choose_spec.1
  have N0 := news_off N hps
  have hoff : ∀ q ∈ off 30 R, q.1 ≠ 30 := fun q hq => (mem_off.mp hq).2
  have hr37 := mem_off.mpr ⟨hps2, (by decide : (37 : Nat) ≠ 30)⟩
  rcases hst with hst | ⟨c30, oc30, vs30, t30, hst, hc30, hd30, hv30, hn30, hn37⟩
  all_goals subst hst
  all_goals refine wpAny_call ?_
  all_goals k_dflt (refine' code_defC ?k1 ?k2 ?k3 ?k4 ?k5 ?kA ?kF ?kK ?k6 ?k7 ?k8 ?k9 ?kB ?kD ?_ ?c2 ?c3 ?c4; (case kA => exact rfl); (case kF => exact rfl); (case kK => assumption); (case k1 => k_asm); (case k2 => k_asm); (case k3 => k_asm); (case k4 => exact N0); (case k5 => k_asm); (case k6 => k_is); (case k7 => k_is); (case k8 => ktr_room); (case k9 => first | exact BindsTo.of_eq rfl | exact binds_K (by k_in) rfl (by k_is) rfl rfl rfl | fail "k_enter: no rule for these arguments"); (case kB => exact rfl); (case kD => decide +kernel); (case c2 => exact rfl); (case c3 => exact rfl); (case c4 => exact rfl); k_whole; intro g' L' h' tk' cells' FG' F' N' Y' B' X' T' l1; (k_lt l1); k_cells Y'; (try simp only [List.cons_append, List.nil_append] at N'); (try dsimp only); (try k_lift B'); (try k_fold))
  all_goals (
    have hRB : RB L' (off 30 R) := ⟨allLt_mem l1.2⟩
    have h30 := l1.1
    have h37 : @LT.lt Nat _ 37 L' := hRB.h _ hr37
    try (have hm30 : List.Mem (c30, oc30) (off 30 R) := mem_off.mpr ⟨hc30, hn30⟩))
  all_goals w_strict k_steps
  · rename News _ _ _ _ => N9
    rename Fr _ _ _ _ => F9
    rename x ≠ 0 => hx9
    k_dflt (refine' i2_use0 (n := n) ?C ?B F9 ?X (news_third N9) ?T rfl ?hi ?h1 ?h0 ?h2 hx0 ?hx1 hx1 ?hd ?hu ?_; (case B => k_asm); (case X => k_asm); (case T => k_asm); (case hi => exact ints_zero _ _); (case hd => ktr_room); (case hu => ktr_units))
    case h1 => simp
    case h0 => exact (i2_count hx0 hx9 hn).1
    case h2 => omega
    case hx1 => exact (i2_count hx0 hx9 hn).2
    case C =>
      refine ih_all fun k I => ?_
      unfold I2
      intro dp un gd cn cs a ccd cl outer A₀ base h₀ L m s Q E x lo hi tx tl th vs ns nn B F X N T hk h0 hhi hk0 hns hns2 hi' hx hx1 hx2 hd hu hret
      refine wpAny_call ?_
      k_dflt (refine' code_nest ?k1 ?k2 ?k3 ?k4 ?k5 ?kA ?kF ?kK ?k6 ?k7 ?k8 ?k9 ?kB ?_ ?c2 ?c3 ?c4 ?c5; (case kA => exact rfl); (case kF => exact rfl); (case kK => assumption); (case k1 => k_asm); (case k2 => k_asm); (case k3 => k_asm); (case k4 => exact N); (case k5 => k_asm); (case k6 => k_mem); (case k7 => exact codeRec_news N (by k_mem) (by assumption) (by assumption)); (case k8 => ktr_room); (case k9 => exact BindsTo.of_eq rfl); (case c5 => decide); (case kB => exact locs rfl); (case c2 => exact rfl); (case c3 => exact rfl); (case c4 => exact rfl); k_whole; intro g' L' h' FG' F' N' B' X' T'; (try dsimp only); (try k_fold))
      w_strict k_steps
      · rename News _ _ _ _ => NN9
        rename Fr _ _ _ _ => FF9
        exact hret _ _ _ _ FF9 NN9 (i2_fin1 (by assumption) hhi h0 hns hx hx1 (by assumption))
      · rename News _ _ _ _ => NN9
        rename Fr _ _ _ _ => FF9
        exact hret _ _ _ _ FF9 NN9 (by assumption)
    intro vs9 nn9 h9 tk9 F9' N9' hi9
    try dsimp only
    try k_fold
    w_strict k_steps
    rename News _ _ _ _ => NN9
    rename Fr _ _ _ _ => FF9
    rename Obj.data _ = Data.fields _ => hd9
    rename _ = some (Value.str _ _) => hv9
    exact hret _ _ nn9 _ _ _ FF9 (news_one NN9 (by k_dflt k_mem) (news_one NN9 (by k_dflt k_mem) (news_one NN9 (by k_dflt k_mem) (kst_newsOf NN9 (fun p9 hp9 => by repeat (first | exact hp9 | apply List.Mem.tail)))))) (evol30_new hT hd9 hv9 (neN (by omega)) (neN (by omega))) hi9
  · rename News _ _ _ _ => NN9
    rename Fr _ _ _ _ => FF9
    have hi9 : ∀ t, IntsAre (List.replicate (kOf x n) (.int 0 t)) (i2d x n) := fun t => ints_digs0 (by omega) (kOf x n)
    rename Obj.data _ = Data.fields _ => hd9
    rename _ = some (Value.str _ _) => hv9
    exact hret _ _ 0 _ _ _ FF9 (news_one NN9 (by k_dflt k_mem) (news_one NN9 (by k_dflt k_mem) (news_one NN9 (by k_dflt k_mem) (kst_newsOf NN9 (fun p9 hp9 => by repeat (first | exact hp9 | apply List.Mem.tail)))))) (evol30_new hT hd9 hv9 (neN (by omega)) (neN (by omega))) (hi9 _)
  · rename News _ _ _ _ => N9
    rename Fr _ _ _ _ => F9
    rename x ≠ 0 => hx9
    k_dflt (refine' i2_use0 (n := n) ?C ?B F9 ?X (news_second N9) ?T rfl ?hi ?h1 ?h0 ?h2 hx0 ?hx1 hx1 ?hd ?hu ?_; (case B => k_asm); (case X => k_asm); (case T => k_asm); (case hi => exact ints_zero _ _); (case hd => ktr_room); (case hu => ktr_units))
    case h1 => simp
    case h0 => exact (i2_count hx0 hx9 hn).1
    case h2 => omega
    case hx1 => exact (i2_count hx0 hx9 hn).2
    case C =>
      refine ih_all fun k I => ?_
      unfold I2
      intro dp un gd cn cs a ccd cl outer A₀ base h₀ L m s Q E x lo hi tx tl th vs ns nn B F X N T hk h0 hhi hk0 hns hns2 hi' hx hx1 hx2 hd hu hret
      refine wpAny_call ?_
      k_dflt (refine' code_nest ?k1 ?k2 ?k3 ?k4 ?k5 ?kA ?kF ?kK ?k6 ?k7 ?k8 ?k9 ?kB ?_ ?c2 ?c3 ?c4 ?c5; (case kA => exact rfl); (case kF => exact rfl); (case kK => assumption); (case k1 => k_asm); (case k2 => k_asm); (case k3 => k_asm); (case k4 => exact N); (case k5 => k_asm); (case k6 => k_mem); (case k7 => exact codeRec_news N (by k_mem) (by assumption) (by assumption)); (case k8 => ktr_room); (case k9 => exact BindsTo.of_eq rfl); (case c5 => decide); (case kB => exact locs rfl); (case c2 => exact rfl); (case c3 => exact rfl); (case c4 => exact rfl); k_whole; intro g' L' h' FG' F' N' B' X' T'; (try dsimp only); (try k_fold))
      w_strict k_steps
      · rename News _ _ _ _ => NN9
        rename Fr _ _ _ _ => FF9
        exact hret _ _ _ _ FF9 NN9 (i2_fin1 (by assumption) hhi h0 hns hx hx1 (by assumption))
      · rename News _ _ _ _ => NN9
        rename Fr _ _ _ _ => FF9
        exact hret _ _ _ _ FF9 NN9 (by assumption)
    intro vs9 nn9 h9 tk9 F9' N9' hi9
    try dsimp only
    try k_fold
    w_strict k_steps
    rename News _ _ _ _ => NN9
    rename Fr _ _ _ _ => FF9
    exact hret _ _ nn9 _ _ _ FF9 (news_one NN9 (by k_dflt k_mem) (news_one NN9 (by k_dflt k_mem) (kst_newsOf NN9 (fun p9 hp9 => by repeat (first | exact hp9 | apply List.Mem.tail))))) (evol30_hit hT hc30 hd30 hv30 hn30 hn37) hi9
  · rename News _ _ _ _ => NN9
    rename Fr _ _ _ _ => FF9
    have hi9 : ∀ t, IntsAre (List.replicate (kOf x n) (.int 0 t)) (i2d x n) := fun t => ints_digs0 (by omega) (kOf x n)
    exact hret _ _ 0 _ _ _ FF9 (news_one NN9 (by k_dflt k_mem) (news_one NN9 (by k_dflt k_mem) (kst_newsOf NN9 (fun p9 hp9 => by repeat (first | exact hp9 | apply List.Mem.tail))))) (evol30_hit hT hc30 hd30 hv30 hn30 hn37) (hi9 _)
end
end
section
local macro_rules | `(tactic| k_all) => `(tactic| first | exact RB.ne (by assumption) (by omega) | exact allLt_ne (by assumption) | assumption)
local macro_rules | `(tactic| walk_at "binaryOp Mult ref int") => `(tactic| (k_here; (with_reducible show wpAny _ _ (binaryOp Operator.Mult (Value.ref _) (Value.int _ _)) _ _ _); k_dflt (refine' mul_zero ?F ?N ?m ?a ?b ?_; (case F => k_asm); (case N => k_asm); (case m => k_mem); (case a => assumption); (case b => omega); k_whole); intro D' h' F' N' l1; (try k_lt l1)))
local macro_rules | `(tactic| walk_at "call builtin:len") => `(tactic| (k_here; (with_reducible show wpAny _ _ (call (Value.builtin "len") [Value.ref _]) _ _ _); k_dflt (refine' len_rep ?N ?m ?b ?_; (case N => k_asm); (case m => k_mem); (case b => omega); k_whole)))
local macro_rules | `(tactic| k_mem) => `(tactic| with_reducible assumption)
local macro_rules | `(tactic| walk_at "binaryOp RShift int int") => `(tactic| (k_here; refine rshift1_v ?_; intro v9 hv9))
local macro_rules | `(tactic| walk_at "binaryOp Mult int int") => `(tactic| (k_here; (refine' mul_v ?a ?b ?c ?d ?_; (case a => omega); (case b => omega); (case c => omega); (case d => omega); k_whole); intro v9 hv9 hw9 hx9))
local macro_rules | `(tactic| walk_at "binaryOp LShift int int") => `(tactic| (k_here; (refine' lshift_v60 ?a ?b ?c ?d ?_; (case a => omega); (case b => omega); (case c => omega); (case d => omega); k_whole); intro v9 hv9))
local macro_rules | `(tactic| walk_at "call ref") => `(tactic| (k_here; (with_reducible show wpAny _ _ (call (Value.ref _) [Value.int _ _, Value.int _ _]) _ _ _); (first
  | (k_dflt (refine' d2_use1 ?I ?B ?F ?X ?N ?T ?hk ?hm ?h0 ?hhi ?hk2 ?hk0 ?hns ?hds ?hb ?hd ?hu ?_; (case I => assumption); (case B => k_asm); (case F => k_asm); (case X => k_asm); (case N => assumption); (case T => k_asm); (case hk => exact rfl); (case hm => assumption); (case h0 => assumption); (case hhi => assumption); (case hk2 => assumption); (case hk0 => assumption); (case hns => assumption); (case hds => assumption); (case hb => assumption); (case hd => ktr_room); (case hu => ktr_units)); intro v9 t9 h9 tk9 F9 N9 hv9 ha9 hb9; (try dsimp only); (try k_fold); trace "USE1")
  | (k_dflt (refine' d2_use2 ?I ?B ?F ?X ?N ?T ?hk ?hm ?h0 ?hhi ?hk2 ?hk0 ?hns ?hd ?hu ?_; (case I => assumption); (case B => k_asm); (case F => k_asm); (case X => k_asm); (case N => assumption); (case T => k_asm); (case hk => exact rfl); (case hm => assumption); (case h0 => assumption); (case hhi => assumption); (case hk2 => assumption); (case hk0 => assumption); (case hns => assumption); (case hd => ktr_room); (case hu => ktr_units)); intro v9 t9 h9 tk9 F9 N9 hv9; (try dsimp only); (try k_fold); trace "USE2"))))
section
variable {w : World} {p : Program} {loose : List Str} {mean : ExcName → Option Value} {mg mb : Str → Option Value}
   {dp un : Nat} {gd : Option (List Code)} {cn : Str} {cs : Scope} {a : Addr} {ccd : Value} {cl : List (Str × Addr)} {outer : List Env} {A₀ : Around} {base h₀ : Heap} {L : Addr} {m : Str → Option Value} {R : List (Addr × Obj)} {s : Shared} {Q E : Value → Shared → Prop}
set_option maxRecDepth 100000 in
set_option maxHeartbeats 8000000 in
theorem c_d2i {d : Addr} {vs : List Value} {ns : List Int} {nn : Nat} {n : Int} {tn : Tok}
   (B : Below A₀ base outer h₀) (F : Fr h₀ L s.heap m) (X : Frag.In (hd.heap_39 (World.params w)) h₀) (N : News h₀ L s.heap ((d, listOf vs.toArray nn) :: R)) (T : Top p loose mean mg mb h₀) (hk : cs.kind = .function)
   (hT : TabsIn R) (C37 : CodeHd base 41 37) (hd : dp + 200 < recursionLimit) (hu : un + 2000 < cLine)
   (hi : IntsAre vs ns) (hds : ∀ q ∈ ns, 0 ≤ q ∧ q < 2 ^ n.toNat) (hb : n.toNat * ns.length ≤ 60) (hl : ns.length ≤ 60) (hn : 0 < n) (hn1 : n ≤ 30)
   (hret : ∀ v t R' h' tk', Fr h₀ L h' m → News h₀ L h' R' → Evol R R' → v = dval (2 ^ n.toNat) ns → Q (.int v t) { s with heap := h', toks := tk' }) :
   wpAny (model (RowW.prog (OpenRow.toRowW (OpenLaw.row PySem.Challenge.rw_hl0004_01))) w) (ktrTop dp un gd cn cs L a ccd cl outer) (call (.ref 42) [.ref d, .int n tn]) Q E s := by
  w_top off
  revert X; k_fill; intro X
  have hsz : vs.toArray.size = ns.length := by rw [List.size_toArray]; exact hi.length
  have NR : News h₀ L s.heap R := kst_newsOf N fun p hp => .tail _ hp
  obtain ⟨ps, hps, hst⟩ := hT.2
  have hps2 := hT.1.choose_spec.1
  have N0 := news_second (news_one N (.head _) (news_off NR hps))
  have hoff : ∀ q ∈ off 37 R, q.1 ≠ 37 := fun q hq => (mem_off.mp hq).2
  have hr30 := mem_off.mpr ⟨hps2, (by decide : (30 : Nat) ≠ 37)⟩
  have hd37 : @Ne Nat d 37 := fun e => by
    have e1 := (N _ (.head _)).1
    have e2 := (NR _ hps).1
    subst e
    rw [e1] at e2
    cases e2
  rcases hst with hst | ⟨c37, oc37, vs37, t37, hst, hc37, hd37', hv37, hn30, hn37⟩
  all_goals subst hst
  all_goals refine wpAny_call ?_
  all_goals k_dflt (refine' code_defC ?k1 ?k2 ?k3 ?k4 ?k5 ?kA ?kF ?kK ?k6 ?k7 ?k8 ?k9 ?kB ?kD ?_ ?c2 ?c3 ?c4; (case kA => exact rfl); (case kF => exact rfl); (case kK => assumption); (case k1 => k_asm); (case k2 => k_asm); (case k3 => k_asm); (case k4 => exact N0); (case k5 => k_asm); (case k6 => k_is); (case k7 => k_is); (case k8 => ktr_room); (case k9 => first | exact BindsTo.of_eq rfl | exact binds_K (by k_in) rfl (by k_is) rfl rfl rfl | fail "k_enter: no rule for these arguments"); (case kB => exact rfl); (case kD => decide +kernel); (case c2 => exact rfl); (case c3 => exact rfl); (case c4 => exact rfl); k_whole; intro g' L' h' tk' cells' FG' F' N' Y' B' X' T' l1; (k_lt l1); k_cells Y'; (try simp only [List.cons_append, List.nil_append] at N'); (try dsimp only); (try k_lift B'); (try k_fold))
  all_goals (
    have hRB : RB L' (off 37 R) := ⟨allLt_mem l1.2.2⟩
    have h37 := l1.1
    have h30 : @LT.lt Nat _ 30 L' := hRB.h _ hr30
    try (have hm37 : List.Mem (c37, oc37) (off 37 R) := mem_off.mpr ⟨hc37, hn37⟩))
  all_goals w_strict k_steps
  · rename News _ _ _ _ => N9
    rename Fr _ _ _ _ => F9
    k_dflt (refine' d2_use0 (n := n) ?C ?B F9 ?X N9 ?T rfl rfl ?h0 ?hd ?hu ?_; (case B => k_asm); (case X => k_asm); (case T => k_asm); (case hd => ktr_room); (case hu => ktr_units))
    case h0 => omega
    case C =>
      refine ih_all fun k I => ?_
      unfold D2
      intro dp un gd cn cs a ccd cl outer A₀ base h₀ L m s Q E lo hi tl th B F X N T hk h0 hhi hk0 hns hd hu hret
      refine wpAny_call ?_
      k_dflt (refine' code_nest ?k1 ?k2 ?k3 ?k4 ?k5 ?kA ?kF ?kK ?k6 ?k7 ?k8 ?k9 ?kB ?_ ?c2 ?c3 ?c4 ?c5; (case kA => exact rfl); (case kF => exact rfl); (case kK => assumption); (case k1 => k_asm); (case k2 => k_asm); (case k3 => k_asm); (case k4 => exact N); (case k5 => k_asm); (case k6 => k_mem); (case k7 => exact codeRec_news N (by k_mem) (by assumption) (by assumption)); (case k8 => ktr_room); (case k9 => exact BindsTo.of_eq rfl); (case c5 => decide); (case kB => exact locs rfl); (case c2 => exact rfl); (case c3 => exact rfl); (case c4 => exact rfl); k_whole; intro g' L' h' FG' F' N' B' X' T'; (try dsimp only); (try k_fold))
      w_strict k_steps
      · rename News _ _ _ _ => NN9
        rename Fr _ _ _ _ => FF9
        exact hret _ _ _ _ FF9 NN9 (d2_fin1 (by assumption) h0 hns)
      · rename News _ _ _ _ => NN9
        rename Fr _ _ _ _ => FF9
        exact hret _ _ _ _ FF9 NN9 (d2_fin2 (by assumption) (by assumption) (by assumption) (by assumption) (by assumption) h0 hhi (by assumption) hk0 hn hns)
    intro v9 t9 h9 tk9 F9' N9' hv9
    try dsimp only
    try k_fold
    w_strict k_steps
    rename News _ _ _ _ => NN9
    rename Fr _ _ _ _ => FF9
    rename Obj.data _ = Data.fields _ => hd9
    rename _ = some (Value.str _ _) => hvs9
    exact hret _ _ _ _ _ FF9 (news_one NN9 (by k_dflt k_mem) (news_one NN9 (by k_dflt k_mem) (kst_newsOf NN9 (fun p9 hp9 => by repeat (first | exact hp9 | apply List.Mem.tail))))) (evol37_new hT hd9 hvs9 (neN (by omega)) (neN (by omega))) hv9
  · rename News _ _ _ _ => NN9
    rename Fr _ _ _ _ => FF9
    have hnil : ns = [] := List.length_eq_zero_iff.mp (by omega)
    rename Obj.data _ = Data.fields _ => hd9
    rename _ = some (Value.str _ _) => hvs9
    exact hret _ _ _ _ _ FF9 (news_one NN9 (by k_dflt k_mem) (news_one NN9 (by k_dflt k_mem) (kst_newsOf NN9 (fun p9 hp9 => by repeat (first | exact hp9 | apply List.Mem.tail))))) (evol37_new hT hd9 hvs9 (neN (by omega)) (neN (by omega))) (by rw [hnil]; rfl)
  · rename News _ _ _ _ => N9
    rename Fr _ _ _ _ => F9
    k_dflt (refine' d2_use0 (n := n) ?C ?B F9 ?X N9 ?T rfl rfl ?h0 ?hd ?hu ?_; (case B => k_asm); (case X => k_asm); (case T => k_asm); (case hd => ktr_room); (case hu => ktr_units))
    case h0 => omega
    case C =>
      refine ih_all fun k I => ?_
      unfold D2
      intro dp un gd cn cs a ccd cl outer A₀ base h₀ L m s Q E lo hi tl th B F X N T hk h0 hhi hk0 hns hd hu hret
      refine wpAny_call ?_
      k_dflt (refine' code_nest ?k1 ?k2 ?k3 ?k4 ?k5 ?kA ?kF ?kK ?k6 ?k7 ?k8 ?k9 ?kB ?_ ?c2 ?c3 ?c4 ?c5; (case kA => exact rfl); (case kF => exact rfl); (case kK => assumption); (case k1 => k_asm); (case k2 => k_asm); (case k3 => k_asm); (case k4 => exact N); (case k5 => k_asm); (case k6 => k_mem); (case k7 => exact codeRec_news N (by k_mem) (by assumption) (by assumption)); (case k8 => ktr_room); (case k9 => exact BindsTo.of_eq rfl); (case c5 => decide); (case kB => exact locs rfl); (case c2 => exact rfl); (case c3 => exact rfl); (case c4 => exact rfl); k_whole; intro g' L' h' FG' F' N' B' X' T'; (try dsimp only); (try k_fold))
      w_strict k_steps
      · rename News _ _ _ _ => NN9
        rename Fr _ _ _ _ => FF9
        exact hret _ _ _ _ FF9 NN9 (d2_fin1 (by assumption) h0 hns)
      · rename News _ _ _ _ => NN9
        rename Fr _ _ _ _ => FF9
        exact hret _ _ _ _ FF9 NN9 (d2_fin2 (by assumption) (by assumption) (by assumption) (by assumption) (by assumption) h0 hhi (by assumption) hk0 hn hns)
    intro v9 t9 h9 tk9 F9' N9' hv9
    try dsimp only
    try k_fold
    w_strict k_steps
    rename News _ _ _ _ => NN9
    rename Fr _ _ _ _ => FF9
    exact hret _ _ _ _ _ FF9 (news_one NN9 (by k_dflt k_mem) (kst_newsOf NN9 (fun p9 hp9 => by repeat (first | exact hp9 | apply List.Mem.tail)))) (evol37_hit hT hc37 hd37' hv37 hn30 hn37) hv9
  · rename News _ _ _ _ => NN9
    rename Fr _ _ _ _ => FF9
    have hnil : ns = [] := List.length_eq_zero_iff.mp (by omega)
    exact hret _ _ _ _ _ FF9 (news_one NN9 (by k_dflt k_mem) (kst_newsOf NN9 (fun p9 hp9 => by repeat (first | exact hp9 | apply List.Mem.tail)))) (evol37_hit hT hc37 hd37' hv37 hn30 hn37) (by rw [hnil]; rfl)
end
end
section
local macro_rules | `(tactic| k_all) => `(tactic| first | exact RB.ne (by assumption) (by omega) | exact allLt_ne (by assumption) | assumption)
local macro_rules | `(tactic| walk_at "binaryOp Mult ref int") => `(tactic| (k_here; (with_reducible show wpAny _ _ (binaryOp Operator.Mult (Value.ref _) (Value.int _ _)) _ _ _); k_dflt (refine' mul_zero ?F ?N ?m ?a ?b ?_; (case F => k_asm); (case N => k_asm); (case m => k_mem); (case a => assumption); (case b => omega); k_whole); intro D' h' F' N' l1; (try k_lt l1)))
local macro_rules | `(tactic| walk_at "call builtin:len") => `(tactic| (k_here; (with_reducible show wpAny _ _ (call (Value.builtin "len") [Value.ref _]) _ _ _); k_dflt (refine' len_rep ?N ?m ?b ?_; (case N => k_asm); (case m => k_mem); (case b => omega); k_whole)))
local macro_rules | `(tactic| k_mem) => `(tactic| with_reducible assumption)
local macro_rules | `(tactic| walk_at "binaryOp LShift int int") => `(tactic| (k_here; (refine' lshift_b ?a ?b ?c ?d ?_; (case a => omega); (case b => omega); (case c => omega); (case d => omega); k_whole); intro v9 hv9 hw9 hx9))
local macro_rules | `(tactic| walk_at "call builtin:list.reverse") => `(tactic| (k_here; (with_reducible show wpAny _ _ (call (Value.builtin _) [Value.ref _]) _ _ _); k_dflt (refine' rev_v ?F ?N ?U ?z ?_; (case F => k_asm); (case N => k_asm); (case U => k_upd); (case z => omega); k_whole); intro h' F' N'))
local macro_rules | `(tactic| walk_at "call ref") => `(tactic| (k_here; (with_reducible show wpAny _ _ (call (Value.ref 35) [Value.int _ _, Value.int _ _]) _ _ _); (k_dflt (refine' c_i2d ?B ?F ?X ?N ?T ?hk ?hT ?C ?hd ?hu ?a ?b ?c ?d ?_; (case B => k_asm); (case F => k_asm); (case X => k_asm); (case T => k_asm); (case N => k_asm); (case hk => exact rfl); (case hT => assumption); (case C => assumption); (case hd => ktr_room); (case hu => ktr_units); (case a => omega); (case b => omega); (case c => omega); (case d => omega))); intro l9 vs9 nn9 R9 h9 tk9 F9 N9 hE9 hi9; have hT9 := hE9.1; (try dsimp only); (try k_fold); trace "I2D"))
local macro_rules | `(tactic| walk_at "call ref") => `(tactic| (k_here; (with_reducible show wpAny _ _ (call (Value.ref 21) [Value.int _ _, Value.int _ _, Value.int _ _]) _ _ _); (k_dflt (refine' c_div ?B ?F ?X ?N ?T ?hk ?hd ?hu ?a ?b ?c ?d ?e ?_; (case B => k_asm); (case F => k_asm); (case X => k_asm); (case T => k_asm); (case N => k_asm); (case hk => exact rfl); (case hd => ktr_room); (case hu => ktr_units); (case a => omega); (case b => omega); (case c => omega); (case d => omega); (case e => omega))); intro t9 tq9 tr9 h9 tk9 F9 N9 l1; (k_lt l1); (try dsimp only); (try k_fold); trace "DIV"))
local macro_rules | `(tactic| walk_at "call ref") => `(tactic| (k_here; (with_reducible show wpAny _ _ (call (Value.ref 42) [Value.ref _, Value.int _ _]) _ _ _); (k_dflt (refine' c_d2i ?B ?F ?X ?N ?T ?hk ?hT ?C ?hd ?hu ?hi ?hds ?hb ?hl ?hn ?hn1 ?_; (case B => k_asm); (case F => k_asm); (case X => k_asm); (case T => k_asm); (case N => k_asm); (case hk => exact rfl); (case hT => first | assumption | exact TabsIn.tail (by assumption)); (case C => assumption); (case hd => ktr_room); (case hu => ktr_units); (case hi => assumption); (case hds => assumption); (case hb => assumption); (case hl => assumption); (case hn => omega); (case hn1 => omega))); intro v9 t9 R9 h9 tk9 F9 N9 hE9 hv9; have hT9 := hE9.1; (try dsimp only); (try k_fold); trace "D2I"))
section
variable {w : World} {p : Program} {loose : List Str} {mean : ExcName → Option Value} {mg mb : Str → Option Value}
   {dp un : Nat} {gd : Option (List Code)} {cn : Str} {cs : Scope} {a : Addr} {ccd : Value} {cl : List (Str × Addr)} {outer : List Env} {A₀ : Around} {base h₀ : Heap} {L : Addr} {m : Str → Option Value} {R : List (Addr × Obj)} {s : Shared} {Q E : Value → Shared → Prop}
set_option maxRecDepth 100000 in
set_option maxHeartbeats 8000000 in
theorem c_pos {x y : Int} {tx ty : Tok}
   (B : Below A₀ base outer h₀) (F : Fr h₀ L s.heap m) (X : Frag.In (hd.heap_39 (World.params w)) h₀) (N : News h₀ L s.heap R) (T : Top p loose mean mg mb h₀) (hk : cs.kind = .function)
   (hT : TabsIn R) (C30 : CodeHd base 34 30) (C37 : CodeHd base 41 37) (hd : dp + 300 < recursionLimit) (hu : un + 3000 < cLine)
   (hx0 : 0 ≤ x) (hx1 : x < 1073741824) (hy0 : 0 < y) (hy1 : y < 1073741824)
   (hret : ∀ t tq tr R' h' tk', Fr h₀ L h' m → News h₀ L h' ((t, tup2 (x / y) (x % y) tq tr) :: R') → Evol R R' → Q (.ref t) { s with heap := h', toks := tk' }) :
   wpAny (model (RowW.prog (OpenRow.toRowW (OpenLaw.row PySem.Challenge.rw_hl0004_01))) w) (ktrTop dp un gd cn cs L a ccd cl outer) (call (.ref 49) [.int x tx, .int y ty]) Q E s := by
  w_top off
  revert X; k_fill; intro X
  have hb := bits_le (Int.le_of_lt hy0) 30 hy1
  have hb0 := intBits_pos hy0
  refine wpAny_call ?_
  k_dflt cell_enter
  w_strict k_steps
  rename News _ _ _ _ => N9
  rename Fr _ _ _ _ => F9
  rename IntsAre _ _ => hi9
  rename Evol _ _ => hE9
  have hkl : (i2d x (Builtin.Int.intBits y : Int)).length ≤ 30 := by rw [i2d_length]; exact kOf_le hx0 hx1 (by omega)
  k_dflt (refine' rev_use (B := 2 ^ (Builtin.Int.intBits y : Int).toNat) (y := y) rfl F9 N9 ?hof hi9 ?hm hy0 ?hds ?turn ?done)
  case hof => assumption
  case hm => kst_all
  case hds => exact fun d hd => i2d_mem hd
  case turn =>
    intro d t r tr qs pre vq nq it h tk m hd0 hd1 hD hq hsz hc F N
    have hr0 := hD.r0
    have hr1 := hD.r1
    have hd2 : d < 1073741824 := Int.lt_of_lt_of_le hd1 (by
      have h4 : ((2 ^ (Builtin.Int.intBits y : Int).toNat : Nat) : Int) ≤ ((2 ^ 30 : Nat) : Int) := Int.ofNat_le.mpr (Nat.pow_le_pow_right (by decide) (by omega))
      simpa using h4)
    try k_fold
    w_strict k_steps
    rename News _ _ _ _ => NN9
    rename Fr _ _ _ _ => FF9
    rename _ = r * _ => hv9
    simp only [List.push_toArray] at NN9
    dsimp only [DPost]
    refine DEnd.intro FF9 NN9 (by k_mem) (by k_mem) (fun p9 hp9 => by repeat (first | exact hp9 | apply List.Mem.tail)) (hq.append (.cons _ _ .nil)) ?_ (by kst_all)
    have e := hD.step hy0 hd0 hd1
    rw [← hv9] at e
    exact e
  case done =>
    intro h tk m r tr qs vq nq hD hq F N
    have hvl : vq.length ≤ 30 := by
      have h1 := hq.length
      have h2 := hD.len
      rw [List.length_reverse] at h2
      omega
    have hq' := ints_reverse hq
    have hqb : ∀ z ∈ qs.reverse, 0 ≤ z ∧ z < 2 ^ (Builtin.Int.intBits y : Int).toNat := fun z hz => hD.qb z (List.mem_reverse.mp hz)
    have hql : qs.reverse.length ≤ 60 := by rw [List.length_reverse, ← hq.length]; omega
    have hqm : (Builtin.Int.intBits y : Int).toNat * qs.reverse.length ≤ 60 := by
      rw [List.length_reverse, hD.len, List.length_reverse, i2d_length]
      exact kOf_mul hx0 hx1 (by omega) (by omega)
    have hfin := hD.fin (i2d_val hx0 (by omega)) hy0
    try k_fold
    w_strict k_steps
    rename News h₀ _ _ _ => NN9
    rename Fr h₀ _ _ _ => FF9
    rename Evol _ _ => hE10
    rename _ = dval _ _ => hv10
    rw [hv10, hfin.1, hfin.2] at NN9
    exact hret _ _ _ _ _ _ FF9 NN9 (hE9.trans hE10.tail)
end
end
section
local macro_rules | `(tactic| k_all) => `(tactic| first | exact RB.ne (by assumption) (by omega) | exact allLt_ne (by assumption) | assumption)
local macro_rules | `(tactic| walk_at "binaryOp Mult ref int") => `(tactic| (k_here; (with_reducible show wpAny _ _ (binaryOp Operator.Mult (Value.ref _) (Value.int _ _)) _ _ _); k_dflt (refine' mul_zero ?F ?N ?m ?a ?b ?_; (case F => k_asm); (case N => k_asm); (case m => k_mem); (case a => assumption); (case b => omega); k_whole); intro D' h' F' N' l1; (try k_lt l1)))
local macro_rules | `(tactic| walk_at "call builtin:len") => `(tactic| (k_here; (with_reducible show wpAny _ _ (call (Value.builtin "len") [Value.ref _]) _ _ _); k_dflt (refine' len_rep ?N ?m ?b ?_; (case N => k_asm); (case m => k_mem); (case b => omega); k_whole)))
local macro_rules | `(tactic| k_mem) => `(tactic| with_reducible assumption)
local macro_rules | `(tactic| walk_at "call ref") => `(tactic| (k_here; (with_reducible show wpAny _ _ (call (Value.ref 49) [Value.int _ _, Value.int _ _]) _ _ _); (k_dflt (refine' c_pos ?B ?F ?X ?N ?T ?hk ?hT ?C ?C2 ?hd ?hu ?a ?b ?c ?d ?_; (case B => k_asm); (case F => k_asm); (case X => k_asm); (case T => k_asm); (case N => k_asm); (case hk => exact rfl); (case hT => assumption); (case C => assumption); (case C2 => assumption); (case hd => ktr_room); (case hu => ktr_units); (case a => omega); (case b => omega); (case c => omega); (case d => omega))); intro t9 tq9 tr9 R9 h9 tk9 F9 N9 hE9; have hT9 := hE9.1; (try dsimp only); (try k_fold); trace "POS"))
section
variable {w : World} {p : Program} {loose : List Str} {mean : ExcName → Option Value} {mg mb : Str → Option Value}
   {dp un : Nat} {gd : Option (List Code)} {cn : Str} {cs : Scope} {a : Addr} {ccd : Value} {cl : List (Str × Addr)} {outer : List Env} {A₀ : Around} {base h₀ : Heap} {L : Addr} {m : Str → Option Value} {R : List (Addr × Obj)} {s : Shared} {Q E : Value → Shared → Prop}
set_option maxRecDepth 100000 in
set_option maxHeartbeats 8000000 in
theorem c_idm {x y : Int} {tx ty : Tok}
   (B : Below A₀ base outer h₀) (F : Fr h₀ L s.heap m) (X : Frag.In (hd.heap_39 (World.params w)) h₀) (N : News h₀ L s.heap R) (T : Top p loose mean mg mb h₀) (hk : cs.kind = .function)
   (hT : TabsIn R) (C30 : CodeHd base 34 30) (C37 : CodeHd base 41 37) (hd : dp + 310 < recursionLimit) (hu : un + 3100 < cLine)
   (hx0 : 0 ≤ x) (hx1 : x < 1073741824) (hy0 : 0 < y) (hy1 : y < 1073741824)
   (hret : ∀ t tq tr R' h' tk', Fr h₀ L h' m → News h₀ L h' ((t, tup2 (x / y) (x % y) tq tr) :: R') → Evol R R' → Q (.ref t) { s with heap := h', toks := tk' }) :
   wpAny (model (RowW.prog (OpenRow.toRowW (OpenLaw.row PySem.Challenge.rw_hl0004_01))) w) (ktrTop dp un gd cn cs L a ccd cl outer) (call (.ref 56) [.int x tx, .int y ty]) Q E s := by
  w_top off
  revert X; k_fill; intro X
  refine wpAny_call ?_
  k_dflt cell_enter
  w_strict k_steps
  any_goals (exfalso; omega)
  rename News h₀ _ _ _ => NN9
  rename Fr h₀ _ _ _ => FF9
  rename Evol _ _ => hE10
  exact hret _ _ _ _ _ _ FF9 NN9 hE10
end
end
theorem Evol.cons {a : Addr × Obj} {R R' : List (Addr × Obj)} (h : Evol R R') : Evol R (a :: R') := ⟨h.1.tail, fun p hp x y => .tail _ (h.2 p hp x y)⟩
section
variable {w : World} {p : Program} {loose : List Str} {mean : ExcName → Option Value} {mg mb : Str → Option Value}
   {dp un : Nat} {gd : Option (List Code)} {cn : Str} {cs : Scope} {a : Addr} {ccd : Value} {cl : List (Str × Addr)} {outer : List Env} {A₀ : Around} {base h₀ : Heap} {L : Addr} {m : Str → Option Value} {R : List (Addr × Obj)} {s : Shared} {Q E : Value → Shared → Prop}
theorem c_idq {x y : Int} {tx ty : Tok}
   (B : Below A₀ base outer h₀) (F : Fr h₀ L s.heap m) (X : Frag.In (hd.heap_39 (World.params w)) h₀) (N : News h₀ L s.heap R) (T : Top p loose mean mg mb h₀) (hk : cs.kind = .function)
   (hT : TabsIn R) (C30 : CodeHd base 34 30) (C37 : CodeHd base 41 37) (hd : dp + 310 < recursionLimit) (hu : un + 3100 < cLine)
   (hx0 : 0 ≤ x) (hx1 : x < 1073741824) (hy0 : 0 < y) (hy1 : y < 1073741824)
   (hret : ∀ t q r tq tr R' h' tk', q = x / y → 0 ≤ q → q ≤ x → Fr h₀ L h' m → News h₀ L h' ((t, tup2 q r tq tr) :: R') → Evol R R' → Q (.ref t) { s with heap := h', toks := tk' }) :
   wpAny (model (RowW.prog (OpenRow.toRowW (OpenLaw.row PySem.Challenge.rw_hl0004_01))) w) (ktrTop dp un gd cn cs L a ccd cl outer) (call (.ref 56) [.int x tx, .int y ty]) Q E s :=
  c_idm B F X N T hk hT C30 C37 hd hu hx0 hx1 hy0 hy1 fun t tq tr R' h' tk' F' N' hE => hret t _ _ tq tr R' h' tk' rfl (Int.ediv_nonneg hx0 (Int.le_of_lt hy0)) (Int.ediv_le_self _ hx0) F' N' hE
end
section
variable {prog : Program} {w : World} {A : Around} {E : Value → Shared → Prop} {s : Shared} {a b n : Int} {t u : Tok} {Q : Value → Shared → Prop}
theorem pow_v (hn : 0 ≤ n) (hn2 : n ≤ 1000) (ha0 : 0 ≤ a) (ha : a < 1073741824) (h : ∀ v, v = a ^ n.toNat → Q (.int v s.toks) { s with toks := s.toks + 1 }) : wpAny (model prog w) A (binaryOp .Pow (.int a t) (.int n u)) Q E s :=
  pow_int_small hn (by omega) (by omega) (h _ rfl)
theorem mul_w (ha0 : 0 ≤ a) (hb0 : 0 ≤ b) (ha : a ≤ 32768) (hb : b ≤ 32767) (h : ∀ v, v = a * b → 0 ≤ v → v < 1073741824 → Q (.int v s.toks) { s with toks := s.toks + 1 }) : wpAny (model prog w) A (binaryOp .Mult (.int a t) (.int b u)) Q E s :=
  mul_int (h _ rfl (Int.mul_nonneg ha0 hb0) (Int.lt_of_le_of_lt (Int.mul_le_mul ha hb hb0 (by decide)) (by decide))) (.of_left (intBits_le_64 (by omega) (by omega)))
end
section
local macro_rules | `(tactic| k_all) => `(tactic| first | exact RB.ne (by assumption) (by omega) | exact allLt_ne (by assumption) | assumption)
local macro_rules | `(tactic| walk_at "binaryOp Mult ref int") => `(tactic| (k_here; (with_reducible show wpAny _ _ (binaryOp Operator.Mult (Value.ref _) (Value.int _ _)) _ _ _); k_dflt (refine' mul_zero ?F ?N ?m ?a ?b ?_; (case F => k_asm); (case N => k_asm); (case m => k_mem); (case a => assumption); (case b => omega); k_whole); intro D' h' F' N' l1; (try k_lt l1)))
local macro_rules | `(tactic| walk_at "call builtin:len") => `(tactic| (k_here; (with_reducible show wpAny _ _ (call (Value.builtin "len") [Value.ref _]) _ _ _); k_dflt (refine' len_rep ?N ?m ?b ?_; (case N => k_asm); (case m => k_mem); (case b => omega); k_whole)))
local macro_rules | `(tactic| k_mem) => `(tactic| with_reducible assumption)
local macro_rules | `(tactic| walk_at "binaryOp Mult int int") => `(tactic| (k_here; (refine' mul_w ?a ?b ?c ?d ?_; (case a => omega); (case b => omega); (case c => omega); (case d => omega); k_whole); intro v9 hv9 hw9 hx9))
local macro_rules | `(tactic| walk_at "binaryOp Pow int int") => `(tactic| (k_here; (refine' pow_v ?a ?b ?c ?d ?_; (case a => omega); (case b => omega); (case c => omega); (case d => omega); k_whole); intro v9 hv9))
local macro_rules | `(tactic| walk_at "call ref") => `(tactic| (k_here; (with_reducible show wpAny _ _ (call (Value.ref 56) [Value.int _ _, Value.int _ _]) _ _ _); (k_dflt (refine' c_idq ?B ?F ?X ?N ?T ?hk ?hT ?C ?C2 ?hd ?hu ?a ?b ?c ?d ?_; (case B => k_asm); (case F => k_asm); (case X => k_asm); (case T => k_asm); (case N => k_asm); (case hk => exact rfl); (case hT => first | assumption | exact TabsIn.tail (by assumption) | exact TabsIn.tail (TabsIn.tail (by assumption)) | exact TabsIn.tail (TabsIn.tail (TabsIn.tail (by assumption)))); (case C => assumption); (case C2 => assumption); (case hd => ktr_room); (case hu => ktr_units); (case a => omega); (case b => omega); (case c => omega); (case d => omega))); intro t9 q9 r9 tq9 tr9 R9 h9 tk9 hq9 hqa9 hqb9 F9 N9 hE9; have hT9 := hE9.1; (try dsimp only); (try k_fold); trace "IDM"))
local macro_rules | `(tactic| walk_at "call ref") => `(tactic| (k_here; (with_reducible show wpAny _ _ (call (Value.ref 35) [Value.int _ _, Value.int _ _]) _ _ _); (k_dflt (refine' c_i2d ?B ?F ?X ?N ?T ?hk ?hT ?C ?hd ?hu ?a ?b ?c ?d ?_; (case B => k_asm); (case F => k_asm); (case X => k_asm); (case T => k_asm); (case N => k_asm); (case hk => exact rfl); (case hT => first | assumption | exact TabsIn.tail (by assumption) | exact TabsIn.tail (TabsIn.tail (by assumption)) | exact TabsIn.tail (TabsIn.tail (TabsIn.tail (by assumption)))); (case C => assumption); (case hd => ktr_room); (case hu => ktr_units); (case a => omega); (case b => omega); (case c => omega); (case d => omega))); intro l9 vs9 nn9 R9 h9 tk9 F9 N9 hE9 hi9; have hT9 := hE9.1; have hz9 := i2d_size hi9; rw [kOf_one (by omega)] at hz9; (try dsimp only); (try k_fold); trace "I2D"))
section
variable {w : World} {p : Program} {loose : List Str} {mean : ExcName → Option Value} {mg mb : Str → Option Value}
   {dp un : Nat} {gd : Option (List Code)} {cn : Str} {cs : Scope} {a : Addr} {ccd : Value} {cl : List (Str × Addr)} {outer : List Env} {A₀ : Around} {base h₀ : Heap} {L : Addr} {m : Str → Option Value} {R : List (Addr × Obj)} {s : Shared} {Q E : Value → Shared → Prop}
set_option maxRecDepth 100000 in
set_option maxHeartbeats 8000000 in
theorem c_begun {x : Int} {tx : Tok}
   (B : Below A₀ base outer h₀) (F : Fr h₀ L s.heap m) (X : Frag.In (hd.heap_39 (World.params w)) h₀) (N : News h₀ L s.heap R) (T : Top p loose mean mg mb h₀) (hk : cs.kind = .function)
   (hT : TabsIn R) (C30 : CodeHd base 34 30) (hd : dp + 300 < recursionLimit) (hu : un + 3000 < cLine)
   (hx0 : 0 ≤ x) (hx1 : x < 1073741824)
   (hret : ∀ v t R' h' tk', v = begun x → Fr h₀ L h' m → News h₀ L h' R' → Evol R R' → Q (.int v t) { s with heap := h', toks := tk' }) :
   wpAny (model (RowW.prog (OpenRow.toRowW (OpenLaw.row PySem.Challenge.rw_hl0004_01))) w) (ktrTop dp un gd cn cs L a ccd cl outer) (call (.ref 90) [.int x tx]) Q E s := by
  w_top off
  revert X; k_fill; intro X
  have hb := bits_le hx0 30 hx1
  refine wpAny_call ?_
  k_dflt cell_enter
  w_strict k_steps
  rename News h₀ _ _ _ => NN9
  rename Fr h₀ _ _ _ => FF9
  rename Evol _ _ => hE9
  refine hret _ _ _ _ _ ?_ FF9 (kst_newsOf NN9 fun _ hp => .tail _ hp) hE9
  unfold begun
  congr 1
end
end
/-- the walk stops here -/
def Halt (P : Prop) : Prop := P
theorem Halt.mk {P : Prop} (h : Halt P) : P := h
structure HS where
  h : Int
  th : Tok
  k : Int
  tk : Tok
  R : List (Addr × Obj)
abbrev hps (x : Int) (tx : Tok) (c : HS) : List (Str × Value) := [(Str.ofString "number", .int x tx), (Str.ofString "here", .int c.h c.th), (Str.ofString "steps", .int c.k c.tk)]
theorem hs_end {x : Int} {tx : Tok} {h₀ : Heap} {L : Addr} {s : Shared} {stored : List Str} {m₀ m' : Str → Option Value} {P : HS → Prop} {μ : HS → Nat} {c : HS} {h' : Heap} {tk : Nat} {news' R R' : List (Addr × Obj)} {a : Int} {b : Tok} {k : Int} {d : Tok}
    (hE : Evol R R') (F : Fr h₀ L h' m') (N : News h₀ L h' news') (hn : ∀ p ∈ R', p ∈ news') (hk : ∀ p ∈ hps x tx ⟨a, b, k, d, R'⟩, m' p.1 = some p.2) (hr : ∀ z, (∀ p ∈ hps x tx ⟨a, b, k, d, R'⟩, z ≠ p.1) → stored.contains z = false → m' z = m₀ z) (hp : P ⟨a, b, k, d, R'⟩) (hm : μ ⟨a, b, k, d, R'⟩ < μ c) :
    KswEnd h₀ L s (fun c : HS => c.R) (fun c => hps x tx c) (fun c => TabsIn c.R ∧ Evol R c.R) stored m₀ P μ c { s with heap := h', toks := tk } :=
  ksw_end ⟨a, b, k, d, R'⟩ F N hn ⟨hE.1, hE⟩ hk hr hp hm
section
local macro_rules | `(tactic| k_all) => `(tactic| first | exact RB.ne (by assumption) (by omega) | exact allLt_ne (by assumption) | assumption)
local macro_rules | `(tactic| walk_at "binaryOp Mult ref int") => `(tactic| (k_here; (with_reducible show wpAny _ _ (binaryOp Operator.Mult (Value.ref _) (Value.int _ _)) _ _ _); k_dflt (refine' mul_zero ?F ?N ?m ?a ?b ?_; (case F => k_asm); (case N => k_asm); (case m => k_mem); (case a => assumption); (case b => omega); k_whole); intro D' h' F' N' l1; (try k_lt l1)))
local macro_rules | `(tactic| walk_at "call builtin:len") => `(tactic| (k_here; (with_reducible show wpAny _ _ (call (Value.builtin "len") [Value.ref _]) _ _ _); k_dflt (refine' len_rep ?N ?m ?b ?_; (case N => k_asm); (case m => k_mem); (case b => omega); k_whole)))
local macro_rules | `(tactic| k_mem) => `(tactic| with_reducible assumption)
local macro_rules | `(tactic| walk_at "binaryOp Mult int int") => `(tactic| (k_here; (refine' mul_w ?a ?b ?c ?d ?_; (case a => omega); (case b => omega); (case c => omega); (case d => omega); k_whole); intro v9 hv9 hw9 hx9))
local macro_rules | `(tactic| walk_at "binaryOp Pow int int") => `(tactic| (k_here; (refine' pow_v ?a ?b ?c ?d ?_; (case a => omega); (case b => omega); (case c => omega); (case d => omega); k_whole); intro v9 hv9))
local macro_rules | `(tactic| walk_at "call ref") => `(tactic| (k_here; (with_reducible show wpAny _ _ (call (Value.ref 56) [Value.int _ _, Value.int _ _]) _ _ _); (k_dflt (refine' c_idq ?B ?F ?X ?N ?T ?hk ?hT ?C ?C2 ?hd ?hu ?a ?b ?c ?d ?_; (case B => k_asm); (case F => k_asm); (case X => k_asm); (case T => k_asm); (case N => k_asm); (case hk => exact rfl); (case hT => first | assumption | exact TabsIn.tail (by assumption) | exact TabsIn.tail (TabsIn.tail (by assumption)) | exact TabsIn.tail (TabsIn.tail (TabsIn.tail (by assumption)))); (case C => assumption); (case C2 => assumption); (case hd => ktr_room); (case hu => ktr_units); (case a => omega); (case b => omega); (case c => omega); (case d => omega))); intro t9 q9 r9 tq9 tr9 R9 h9 tk9 hq9 hqa9 hqb9 F9 N9 hE9; have hT9 := hE9.1; (try dsimp only); (try k_fold); trace "IDM"))
local macro_rules | `(tactic| walk_at "call ref") => `(tactic| (k_here; (with_reducible show wpAny _ _ (call (Value.ref 35) [Value.int _ _, Value.int _ _]) _ _ _); (k_dflt (refine' c_i2d ?B ?F ?X ?N ?T ?hk ?hT ?C ?hd ?hu ?a ?b ?c ?d ?_; (case B => k_asm); (case F => k_asm); (case X => k_asm); (case T => k_asm); (case N => k_asm); (case hk => exact rfl); (case hT => first | assumption | exact TabsIn.tail (by assumption) | exact TabsIn.tail (TabsIn.tail (by assumption)) | exact TabsIn.tail (TabsIn.tail (TabsIn.tail (by assumption)))); (case C => assumption); (case hd => ktr_room); (case hu => ktr_units); (case a => omega); (case b => omega); (case c => omega); (case d => omega))); intro l9 vs9 nn9 R9 h9 tk9 F9 N9 hE9 hi9; have hT9 := hE9.1; have hz9 := i2d_size hi9; rw [kOf_one (by omega)] at hz9; (try dsimp only); (try k_fold); trace "I2D"))
local macro_rules | `(tactic| walk_at "call ref") => `(tactic| (k_here; (with_reducible show wpAny _ _ (call (Value.ref 90) [Value.int _ _]) _ _ _); (k_dflt (refine' c_begun ?B ?F ?X ?N ?T ?hk ?hT ?C ?hd ?hu ?a ?b ?_; (case B => k_asm); (case F => k_asm); (case X => k_asm); (case T => k_asm); (case N => k_asm); (case hk => exact rfl); (case hT => first | assumption | exact TabsIn.tail (by assumption) | exact TabsIn.tail (TabsIn.tail (by assumption)) | exact TabsIn.tail (TabsIn.tail (TabsIn.tail (by assumption)))); (case C => assumption); (case hd => ktr_room); (case hu => ktr_units); (case a => omega); (case b => omega))); intro v9 t9 R9 h9 tk9 hv9 F9 N9 hE9; have hT9 := hE9.1; (try dsimp only); (try k_fold); trace "BEGUN"))
local macro_rules | `(tactic| walk_at "exec While") => `(tactic| refine Halt.mk ?_)
section
variable {w : World} {p : Program} {loose : List Str} {mean : ExcName → Option Value} {mg mb : Str → Option Value}
   {dp un : Nat} {gd : Option (List Code)} {cn : Str} {cs : Scope} {a : Addr} {ccd : Value} {cl : List (Str × Addr)} {outer : List Env} {A₀ : Around} {base h₀ : Heap} {L : Addr} {m : Str → Option Value} {R : List (Addr × Obj)} {s : Shared} {Q E : Value → Shared → Prop}
set_option maxRecDepth 100000 in
set_option maxHeartbeats 8000000 in
theorem c_root {x : Int} {tx : Tok}
   (B : Below A₀ base outer h₀) (F : Fr h₀ L s.heap m) (X : Frag.In (hd.heap_39 (World.params w)) h₀) (N : News h₀ L s.heap R) (T : Top p loose mean mg mb h₀) (hk : cs.kind = .function)
   (hT : TabsIn R) (C30 : CodeHd base 34 30) (C37 : CodeHd base 41 37) (hd : dp + 400 < recursionLimit) (hu : un + 4000 < cLine)
   (hx0 : 0 ≤ x) (hx1 : x < 536870912)
   (hret : ∀ t (root steps : Int) tq tr R' h' tk', IsRoot x root → 0 ≤ steps → steps ≤ (((Builtin.Int.intBits x + 1) / 2 : Nat) : Int) + 1 → Fr h₀ L h' m → News h₀ L h' ((t, tup2 root steps tq tr) :: R') → Evol R R' → Q (.ref t) { s with heap := h', toks := tk' }) :
   wpAny (model (RowW.prog (OpenRow.toRowW (OpenLaw.row PySem.Challenge.rw_hl0004_01))) w) (ktrTop dp un gd cn cs L a ccd cl outer) (call (.ref 97) [.int x tx]) Q E s := by
  w_top off
  revert X; k_fill; intro X
  have hb := bits_le hx0 29 hx1
  refine wpAny_call ?_
  k_dflt cell_enter
  w_strict k_steps
  show wpAny _ _ _ _ _ _
  rename News _ _ _ _ => N9
  rename Fr _ _ _ _ => F9
  rename Evol _ _ => hE9
  rename _ = begun x => hv9
  obtain ⟨r0, hr0⟩ := isRoot_of hx0
  k_dflt (refine' ksw_while (fun c : HS => c.R) (fun c => hps x tx c) (fun c => TabsIn c.R ∧ Evol R c.R) [Str.ofString "after"] (fun c => (0 < x → HInv x r0 c.h c.k ((Builtin.Int.intBits x + 1) / 2)) ∧ (x = 0 → c.k = 0)) (fun c => c.h.toNat) ⟨_, _, _, _, _⟩ F9 (kst_newsOf N9 fun _ hp => .tail _ hp) ⟨by assumption, hE9⟩ ?hk ?hp ?turn)
  case hk => kst_all
  case hp => exact ⟨fun hx => by rw [hv9]; exact HInv.start hx hr0, fun _ => rfl⟩
  case turn =>
    rintro ⟨hh, th, kk, tkk, RR⟩ u h tk ⟨hT9, hE9⟩ ⟨hH, hz⟩ F N
    by_cases hx : 0 < x
    · have H := hH hx
      try dsimp only at hT9 hE9 H F N
      have H1 := H.pos
      have H2 := H.k0
      have H3 := H.k1
      have H4 : hh ≤ 32768 := Int.le_trans H.lid (Int.le_trans (pow2_mono (b := 15) (by omega)) (by decide))
      try k_fold
      w_strict k_steps
      · rename News h₀ _ _ _ => NN9
        rename Fr h₀ _ _ _ => FF9
        rename _ = x / hh => hqa
        rename _ = (hh + _) / 2 => hqb
        rename HS.h _ ≤ _ => hle
        rename Evol RR _ => hEa
        rename Evol (_ :: _) _ => hEb
        have hroot : IsRoot x hh := heron_stop hr0 H1 H.le (by rw [← hqa, ← hqb]; exact hle)
        exact hret _ _ _ _ _ _ _ _ hroot H2 H3 FF9 (news_one NN9 (.head _) (kst_newsOf NN9 fun _ hp => .tail _ (.tail _ hp))) (hE9.trans (hEa.trans hEb.tail))
      · rename News _ _ _ _ => NN9
        rename Fr _ _ _ _ => FF9
        rename _ = x / hh => hqa
        rename _ = (hh + _) / 2 => hqb
        rename ¬ HS.h _ ≤ _ => hle
        rename Evol RR _ => hEa
        rename Evol (_ :: _) _ => hEb
        have hH2 := H.step hr0 hx (by rw [← hqa, ← hqb]; exact hle)
        rw [← hqa, ← hqb] at hH2
        refine' hs_end (hE9.trans (hEa.trans hEb.tail)) FF9 NN9 ?hn ?hk ?hr ?hp ?hm
        case hk => kst_all
        case hn => exact fun _ hp => .tail _ (.tail _ hp)
        case hr =>
          intro z h2 h3
          simp only [hps, List.forall_mem_cons, List.not_mem_nil, false_implies, implies_true, and_true, ne_eq] at h2
          simp only [List.contains_cons, List.contains_nil, Bool.or_false, beq_eq_false_iff_ne, ne_eq] at h3
          simp [kstB, h2, h3]
        case hp => exact ⟨fun _ => hH2, fun h => absurd h (by omega)⟩
        case hm =>
          have hpos := hH2.pos
          dsimp only at hle hpos ⊢
          omega
    · have hx9 : x = 0 := by omega
      have hk9 := hz hx9
      try dsimp only at hT9 hE9 F N hk9
      try k_fold
      w_strict k_steps
      rename News h₀ _ _ _ => NN9
      rename Fr h₀ _ _ _ => FF9
      refine hret _ _ _ _ _ _ _ _ ?_ ?_ ?_ FF9 NN9 hE9
      · rw [hx9]; exact ⟨by decide, by decide, by decide⟩
      · omega
      · omega
end
end
section
local macro_rules | `(tactic| k_all) => `(tactic| first | exact RB.ne (by assumption) (by omega) | exact allLt_ne (by assumption) | assumption)
local macro_rules | `(tactic| walk_at "binaryOp Mult ref int") => `(tactic| (k_here; (with_reducible show wpAny _ _ (binaryOp Operator.Mult (Value.ref _) (Value.int _ _)) _ _ _); k_dflt (refine' mul_zero ?F ?N ?m ?a ?b ?_; (case F => k_asm); (case N => k_asm); (case m => k_mem); (case a => assumption); (case b => omega); k_whole); intro D' h' F' N' l1; (try k_lt l1)))
local macro_rules | `(tactic| walk_at "call builtin:len") => `(tactic| (k_here; (with_reducible show wpAny _ _ (call (Value.builtin "len") [Value.ref _]) _ _ _); k_dflt (refine' len_rep ?N ?m ?b ?_; (case N => k_asm); (case m => k_mem); (case b => omega); k_whole)))
local macro_rules | `(tactic| k_mem) => `(tactic| with_reducible assumption)
local macro_rules | `(tactic| walk_at "binaryOp Mult int int") => `(tactic| (k_here; (refine' mul_w ?a ?b ?c ?d ?_; (case a => omega); (case b => omega); (case c => omega); (case d => omega); k_whole); intro v9 hv9 hw9 hx9))
local macro_rules | `(tactic| walk_at "binaryOp Pow int int") => `(tactic| (k_here; (refine' pow_v ?a ?b ?c ?d ?_; (case a => omega); (case b => omega); (case c => omega); (case d => omega); k_whole); intro v9 hv9))
local macro_rules | `(tactic| walk_at "call ref") => `(tactic| (k_here; (with_reducible show wpAny _ _ (call (Value.ref 56) [Value.int _ _, Value.int _ _]) _ _ _); (k_dflt (refine' c_idq ?B ?F ?X ?N ?T ?hk ?hT ?C ?C2 ?hd ?hu ?a ?b ?c ?d ?_; (case B => k_asm); (case F => k_asm); (case X => k_asm); (case T => k_asm); (case N => k_asm); (case hk => exact rfl); (case hT => first | assumption | exact TabsIn.tail (by assumption) | exact TabsIn.tail (TabsIn.tail (by assumption)) | exact TabsIn.tail (TabsIn.tail (TabsIn.tail (by assumption)))); (case C => assumption); (case C2 => assumption); (case hd => ktr_room); (case hu => ktr_units); (case a => omega); (case b => omega); (case c => omega); (case d => omega))); intro t9 q9 r9 tq9 tr9 R9 h9 tk9 hq9 hqa9 hqb9 F9 N9 hE9; have hT9 := hE9.1; (try dsimp only); (try k_fold); trace "IDM"))
local macro_rules | `(tactic| walk_at "call ref") => `(tactic| (k_here; (with_reducible show wpAny _ _ (call (Value.ref 35) [Value.int _ _, Value.int _ _]) _ _ _); (k_dflt (refine' c_i2d ?B ?F ?X ?N ?T ?hk ?hT ?C ?hd ?hu ?a ?b ?c ?d ?_; (case B => k_asm); (case F => k_asm); (case X => k_asm); (case T => k_asm); (case N => k_asm); (case hk => exact rfl); (case hT => first | assumption | exact TabsIn.tail (by assumption) | exact TabsIn.tail (TabsIn.tail (by assumption)) | exact TabsIn.tail (TabsIn.tail (TabsIn.tail (by assumption)))); (case C => assumption); (case hd => ktr_room); (case hu => ktr_units); (case a => omega); (case b => omega); (case c => omega); (case d => omega))); intro l9 vs9 nn9 R9 h9 tk9 F9 N9 hE9 hi9; have hT9 := hE9.1; have hz9 := i2d_size hi9; rw [kOf_one (by omega)] at hz9; (try dsimp only); (try k_fold); trace "I2D"))
local macro_rules | `(tactic| walk_at "exec While") => `(tactic| refine Halt.mk ?_)
section
variable {w : World} {p : Program} {loose : List Str} {mean : ExcName → Option Value} {mg mb : Str → Option Value}
   {dp un : Nat} {gd : Option (List Code)} {cn : Str} {cs : Scope} {a : Addr} {ccd : Value} {cl : List (Str × Addr)} {outer : List Env} {A₀ : Around} {base h₀ : Heap} {L : Addr} {m : Str → Option Value} {R : List (Addr × Obj)} {s : Shared} {Q E : Value → Shared → Prop}
set_option maxRecDepth 100000 in
set_option maxHeartbeats 8000000 in
theorem c_third {x : Int} {tx : Tok}
   (B : Below A₀ base outer h₀) (F : Fr h₀ L s.heap m) (X : Frag.In (hd.heap_39 (World.params w)) h₀) (N : News h₀ L s.heap R) (T : Top p loose mean mg mb h₀) (hk : cs.kind = .function)
   (hT : TabsIn R) (C30 : CodeHd base 34 30) (C37 : CodeHd base 41 37) (hd : dp + 400 < recursionLimit) (hu : un + 4000 < cLine)
   (hx0 : 0 ≤ x) (hx1 : x < 16384)
   (hret : ∀ (v : Int) t R' h' tk', IsThird x v → Fr h₀ L h' m → News h₀ L h' R' → Evol R R' → Q (.int v t) { s with heap := h', toks := tk' }) :
   wpAny (model (RowW.prog (OpenRow.toRowW (OpenLaw.row PySem.Challenge.rw_hl0004_01))) w) (ktrTop dp un gd cn cs L a ccd cl outer) (call (.ref 104) [.int x tx]) Q E s := by
  w_top off
  revert X; k_fill; intro X
  have hb := bits_le hx0 14 hx1
  refine wpAny_call ?_
  k_dflt cell_enter
  w_strict k_steps
  show wpAny _ _ _ _ _ _
  rename News _ _ _ _ => N9
  rename Fr _ _ _ _ => F9
  rename Evol _ _ => hE9
  obtain ⟨r0, hr0⟩ := isThird_of hx0
  have hr00 := hr0.1
  have hb3 : (2 : Int) ^ Int.toNat (Int.fdiv ((Builtin.Int.intBits x : Int) + 2) 3) = begun3 x := by
    unfold begun3; congr 1
  have hb4 := begun3_root hx0 hr0
  have hb5 := begun3_le hx0 hx1
  rw [hb3] at F9
  k_dflt (refine' ksw_while (fun c : HS => c.R) (fun c => hps x tx c) (fun c => TabsIn c.R ∧ Evol R c.R) [Str.ofString "after"] (fun c => 0 < c.h ∧ r0 ≤ c.h ∧ 0 ≤ c.k ∧ c.h + c.k ≤ 32 ∧ (x = 0 → c.k = 0)) (fun c => c.h.toNat) ⟨_, _, _, _, _⟩ F9 (kst_newsOf N9 fun _ hp => .tail _ (.tail _ hp)) ⟨by assumption, hE9⟩ ?hk ?hp ?turn)
  case hk => kst_all
  case hp =>
    unfold begun3 at hb4 hb5
    refine ⟨?_, ?_, Int.le_refl _, ?_, fun _ => rfl⟩
    all_goals dsimp only
    all_goals omega
  case turn =>
    rintro ⟨hh, th, kk, tkk, RR⟩ u h tk ⟨hT9, hE9⟩ ⟨H1, H2, H3, H4, hz⟩ F N
    try dsimp only at hT9 hE9 H1 H2 H3 H4 hz F N
    have hsq : 0 < hh * hh := Int.mul_pos H1 H1
    have hsq2 : hh * hh ≤ 32 * 32 := sq_le (Int.le_of_lt H1) (by omega)
    by_cases hx : 0 < x
    · try k_fold
      w_strict k_steps
      · rename News h₀ _ _ _ => NN9
        rename Fr h₀ _ _ _ => FF9
        rename _ = x / (hh * hh) => hqa
        rename _ = (2 * hh + _) / 3 => hqb
        rename HS.h _ ≤ _ => hle
        rename Evol RR _ => hEa
        rename Evol (_ :: _) _ => hEb
        have hroot : IsThird x hh := third_stop hr0 H1 H2 (by rw [← hqa, ← hqb]; exact hle)
        exact hret _ _ _ _ _ hroot FF9 (kst_newsOf NN9 fun _ hp => .tail _ hp) (hE9.trans (hEa.trans hEb.tail))
      · rename News _ _ _ _ => NN9
        rename Fr _ _ _ _ => FF9
        rename _ = x / (hh * hh) => hqa
        rename _ = (2 * hh + _) / 3 => hqb
        rename ¬ HS.h _ ≤ _ => hle
        rename Evol RR _ => hEa
        rename Evol (_ :: _) _ => hEb
        have hH2 := third_step hr0 H1 H2 hx
        rw [← hqa, ← hqb] at hH2
        obtain ⟨hH3, hH4⟩ := hH2
        dsimp only at hle
        refine' hs_end (hE9.trans (hEa.trans hEb.tail)) FF9 NN9 ?hn ?hk ?hr ?hp ?hm
        case hk => kst_all
        case hn => exact fun _ hp => .tail _ (.tail _ hp)
        case hr =>
          intro z h2 h3
          simp only [hps, List.forall_mem_cons, List.not_mem_nil, false_implies, implies_true, and_true, ne_eq] at h2
          simp only [List.contains_cons, List.contains_nil, Bool.or_false, beq_eq_false_iff_ne, ne_eq] at h3
          simp [kstB, h2, h3]
        case hp =>
          refine ⟨hH4, hH3, ?_, ?_, fun h => absurd h (by omega)⟩
          all_goals dsimp only
          all_goals omega
        case hm =>
          dsimp only
          omega
    · have hx9 : x = 0 := by omega
      have hk9 := hz hx9
      try k_fold
      w_strict k_steps
      rename News h₀ _ _ _ => NN9
      rename Fr h₀ _ _ _ => FF9
      refine hret _ _ _ _ _ ?_ FF9 NN9 hE9
      rw [hx9]; exact ⟨by decide, by decide, by decide⟩
end
end
theorem pow2_v {prog : Program} {w : World} {A : Around} {E : Value → Shared → Prop} {s : Shared} {n : Int} {t u : Tok} {Q : Value → Shared → Prop} (hn : 0 ≤ n) (hn2 : n ≤ 14) (h : ∀ v, v = 2 ^ n.toNat → 0 < v → v ≤ 16384 → Q (.int v s.toks) { s with toks := s.toks + 1 }) : wpAny (model prog w) A (binaryOp .Pow (.int 2 t) (.int n u)) Q E s :=
  pow_int_small hn (by omega) (by decide) (h _ rfl (Int.pow_pos (by decide)) (Int.le_trans (pow2_mono (b := 14) (by omega)) (by decide)))
/-- the word of the loop by figures -/
def FP (x : Int) (pre : List Int) (root : Int) : Prop := pre.length ≤ Builtin.Int.intBits x + 1 ∧ FInv x root (Builtin.Int.intBits x + 1 - pre.length) ∧ root ≤ 128
theorem FP.start {x : Int} (hx : 0 ≤ x) : FP x [] 0 := ⟨Nat.zero_le _, FInv.start hx, by decide⟩
theorem sq128 {x r : Int} (h0 : 0 ≤ r) (hx : x < 16384) (h : r * r ≤ x) : r ≤ 128 := by
  have := lt_of_sq (a := r) (b := 128) (by decide) (by omega)
  omega
theorem FP.step {x root k v : Int} {pre : List Int} (hx : x < 16384) (h : FP x pre root) (hk : k = (Builtin.Int.intBits x : Int) - (pre.length : Int)) (hl : pre.length < Builtin.Int.intBits x + 1) (hv : v = 2 ^ k.toNat) : FP x (pre ++ [k]) (if (root + v) * (root + v) ≤ x then root + v else root) := by
  have e1 : k.toNat = Builtin.Int.intBits x + 1 - (pre ++ [k]).length := by rw [List.length_append, List.length_singleton]; omega
  have e2 : Builtin.Int.intBits x + 1 - pre.length = Builtin.Int.intBits x + 1 - (pre ++ [k]).length + 1 := by rw [List.length_append, List.length_singleton]; omega
  have h1 := h.2.1
  rw [e2] at h1
  have h2 := h1.step
  rw [← e1, ← hv] at h2
  refine ⟨by rw [List.length_append, List.length_singleton]; omega, e1 ▸ h2, sq128 h2.r0 hx h2.lo⟩
theorem FP.fin {x root : Int} {pre : List Int} (h : FP x pre root) (hl : pre.length = Builtin.Int.intBits x + 1) : IsRoot x root := by
  have h1 := h.2.1
  rw [hl, Nat.sub_self] at h1
  exact h1.fin
section
local macro_rules | `(tactic| k_all) => `(tactic| first | exact RB.ne (by assumption) (by omega) | exact allLt_ne (by assumption) | assumption)
local macro_rules | `(tactic| walk_at "binaryOp Mult ref int") => `(tactic| (k_here; (with_reducible show wpAny _ _ (binaryOp Operator.Mult (Value.ref _) (Value.int _ _)) _ _ _); k_dflt (refine' mul_zero ?F ?N ?m ?a ?b ?_; (case F => k_asm); (case N => k_asm); (case m => k_mem); (case a => assumption); (case b => omega); k_whole); intro D' h' F' N' l1; (try k_lt l1)))
local macro_rules | `(tactic| walk_at "call builtin:len") => `(tactic| (k_here; (with_reducible show wpAny _ _ (call (Value.builtin "len") [Value.ref _]) _ _ _); k_dflt (refine' len_rep ?N ?m ?b ?_; (case N => k_asm); (case m => k_mem); (case b => omega); k_whole)))
local macro_rules | `(tactic| k_mem) => `(tactic| with_reducible assumption)
local macro_rules | `(tactic| walk_at "binaryOp Mult int int") => `(tactic| (k_here; (refine' mul_w ?a ?b ?c ?d ?_; (case a => omega); (case b => omega); (case c => omega); (case d => omega); k_whole); intro v9 hv9 hw9 hx9))
local macro_rules | `(tactic| walk_at "binaryOp Pow int int") => `(tactic| (k_here; (refine' pow_v ?a ?b ?c ?d ?_; (case a => omega); (case b => omega); (case c => omega); (case d => omega); k_whole); intro v9 hv9))
local macro_rules | `(tactic| walk_at "call ref") => `(tactic| (k_here; (with_reducible show wpAny _ _ (call (Value.ref 56) [Value.int _ _, Value.int _ _]) _ _ _); (k_dflt (refine' c_idq ?B ?F ?X ?N ?T ?hk ?hT ?C ?C2 ?hd ?hu ?a ?b ?c ?d ?_; (case B => k_asm); (case F => k_asm); (case X => k_asm); (case T => k_asm); (case N => k_asm); (case hk => exact rfl); (case hT => first | assumption | exact TabsIn.tail (by assumption) | exact TabsIn.tail (TabsIn.tail (by assumption)) | exact TabsIn.tail (TabsIn.tail (TabsIn.tail (by assumption)))); (case C => assumption); (case C2 => assumption); (case hd => ktr_room); (case hu => ktr_units); (case a => omega); (case b => omega); (case c => omega); (case d => omega))); intro t9 q9 r9 tq9 tr9 R9 h9 tk9 hq9 hqa9 hqb9 F9 N9 hE9; have hT9 := hE9.1; (try dsimp only); (try k_fold); trace "IDM"))
local macro_rules | `(tactic| walk_at "call ref") => `(tactic| (k_here; (with_reducible show wpAny _ _ (call (Value.ref 35) [Value.int _ _, Value.int _ _]) _ _ _); (k_dflt (refine' c_i2d ?B ?F ?X ?N ?T ?hk ?hT ?C ?hd ?hu ?a ?b ?c ?d ?_; (case B => k_asm); (case F => k_asm); (case X => k_asm); (case T => k_asm); (case N => k_asm); (case hk => exact rfl); (case hT => first | assumption | exact TabsIn.tail (by assumption) | exact TabsIn.tail (TabsIn.tail (by assumption)) | exact TabsIn.tail (TabsIn.tail (TabsIn.tail (by assumption)))); (case C => assumption); (case hd => ktr_room); (case hu => ktr_units); (case a => omega); (case b => omega); (case c => omega); (case d => omega))); intro l9 vs9 nn9 R9 h9 tk9 F9 N9 hE9 hi9; have hT9 := hE9.1; have hz9 := i2d_size hi9; rw [kOf_one (by omega)] at hz9; (try dsimp only); (try k_fold); trace "I2D"))
local macro_rules | `(tactic| walk_at "pyIter ref") => `(tactic| refine Halt.mk ?_)
local macro_rules | `(tactic| walk_at "binaryOp Pow int int") => `(tactic| (k_here; (refine' pow2_v ?a ?b ?_; (case a => omega); (case b => omega); k_whole); intro v9 hv9 hw9 hx9))
section
variable {w : World} {p : Program} {loose : List Str} {mean : ExcName → Option Value} {mg mb : Str → Option Value}
   {dp un : Nat} {gd : Option (List Code)} {cn : Str} {cs : Scope} {a : Addr} {ccd : Value} {cl : List (Str × Addr)} {outer : List Env} {A₀ : Around} {base h₀ : Heap} {L : Addr} {m : Str → Option Value} {R : List (Addr × Obj)} {s : Shared} {Q E : Value → Shared → Prop}
set_option maxRecDepth 100000 in
set_option maxHeartbeats 8000000 in
theorem c_fig {x : Int} {tx : Tok}
   (B : Below A₀ base outer h₀) (F : Fr h₀ L s.heap m) (X : Frag.In (hd.heap_39 (World.params w)) h₀) (N : News h₀ L s.heap R) (T : Top p loose mean mg mb h₀) (hk : cs.kind = .function)
   (hT : TabsIn R) (C30 : CodeHd base 34 30) (hd : dp + 400 < recursionLimit) (hu : un + 4000 < cLine)
   (hx0 : 0 ≤ x) (hx1 : x < 16384)
   (hret : ∀ (v : Int) t R' h' tk', IsRoot x v → Fr h₀ L h' m → News h₀ L h' R' → Evol R R' → Q (.int v t) { s with heap := h', toks := tk' }) :
   wpAny (model (RowW.prog (OpenRow.toRowW (OpenLaw.row PySem.Challenge.rw_hl0004_01))) w) (ktrTop dp un gd cn cs L a ccd cl outer) (call (.ref 111) [.int x tx]) Q E s := by
  w_top off
  revert X; k_fill; intro X
  have hb := bits_le hx0 14 hx1
  refine wpAny_call ?_
  k_dflt cell_enter
  w_strict k_steps
  show wpAny _ _ _ _ _ _
  rename News _ _ _ _ => N9
  rename Fr _ _ _ _ => F9
  rename Evol _ _ => hE9
  rename IsRange _ _ _ _ _ _ _ _ => hR
  have hn : Builtin.Range.rangeSize (Builtin.Int.intBits x : Int) (0 - 1) (-1) = ((Builtin.Int.intBits x + 1 : Nat) : Int) := by
    rw [rangeSize_down]; split <;> omega
  k_dflt (refine' kst_rangeD (n := Builtin.Int.intBits x + 1) (fun _ : Int × Tok => _) (fun c => [(Str.ofString "root", Value.int c.1 c.2), (Str.ofString "number", Value.int x tx)]) (fun _ => True) [Str.ofString "more"] (fun pre c => FP x pre c.1) ⟨0, _⟩ rfl hR ?hsm hn F9 (kst_newsOf N9 fun _ hp => .tail _ hp) trivial ?hk (FP.start hx0) ?turn ?done)
  case hsm => exact small_down (by omega) (by omega) (by omega) (by omega)
  case hk => kst_all
  case turn =>
    rintro ⟨root, tr⟩ pre k t u h tk own hkk hpl hoff _ hP F N
    dsimp only at hP F N
    have h1 := hP.2.1.r0
    have h2 := hP.2.2
    try k_fold
    w_strict k_steps
    · rename News _ _ _ _ => NN9
      rename Fr _ _ _ _ => FF9
      rename _ = (2 : Int) ^ _ => hv2
      rename _ = (root + _) * _ => hv3
      rename _ ≤ x => hle
      have hst := FP.step hx1 hP hkk hpl hv2
      rw [← hv3, if_pos hle] at hst
      refine' kst_end (_, _) FF9 NN9 ?hn ?ho rfl trivial ?hk ?hr ?hp
      case hk => kst_all
      case hn => exact fun _ hp => List.mem_append_left _ hp
      case ho => exact fun _ hp => List.mem_append_right _ hp
      case hr =>
        intro z h1 h2 h3
        simp only [List.forall_mem_cons, List.not_mem_nil, false_implies, implies_true, and_true, ne_eq] at h2
        simp only [List.contains_cons, List.contains_nil, Bool.or_false, beq_eq_false_iff_ne, ne_eq] at h3
        simp [kstB, h1, h2, h3]
      case hp => exact hst
    · rename News _ _ _ _ => NN9
      rename Fr _ _ _ _ => FF9
      rename _ = (2 : Int) ^ _ => hv2
      rename _ = (root + _) * _ => hv3
      rename ¬ _ ≤ x => hle
      have hst := FP.step hx1 hP hkk hpl hv2
      rw [← hv3, if_neg hle] at hst
      refine' kst_end (_, _) FF9 NN9 ?hn ?ho rfl trivial ?hk ?hr ?hp
      case hk => kst_all
      case hn => exact fun _ hp => List.mem_append_left _ hp
      case ho => exact fun _ hp => List.mem_append_right _ hp
      case hr =>
        intro z h1 h2 h3
        simp only [List.forall_mem_cons, List.not_mem_nil, false_implies, implies_true, and_true, ne_eq] at h2
        simp only [List.contains_cons, List.contains_nil, Bool.or_false, beq_eq_false_iff_ne, ne_eq] at h3
        simp [kstB, h1, h2, h3]
      case hp => exact hst
  case done =>
    rintro ⟨root, tr⟩ u h tk _ hP F N
    dsimp only at hP F N
    have hroot := hP.fin (downKs_length _ _)
    try k_fold
    w_strict k_steps
    rename News h₀ _ _ _ => NN9
    rename Fr h₀ _ _ _ => FF9
    exact hret _ _ _ _ _ hroot FF9 NN9 hE9
end
end
theorem floordiv2_v {prog : Program} {w : World} {A : Around} {E : Value → Shared → Prop} {s : Shared} {a : Int} {t u : Tok} {Q : Value → Shared → Prop} (h : ∀ v, v = a / 2 → Q (.int v s.toks) { s with toks := s.toks + 1 })
    (hp : Builtin.divisionGoesByPylong a 2 = false ∨ PySem.PylongRoom (model prog w) A s := Or.inl (PyProof.noPylong_small (by decide))) : wpAny (model prog w) A (binaryOp .FloorDiv (.int a t) (.int 2 u)) Q E s :=
  floordiv_int (by decide) (h _ (Int.fdiv_eq_ediv_of_nonneg _ (by decide))) hp
structure BS where
  lo : Int
  tl : Tok
  hi : Int
  th : Tok
abbrev bps (d : Addr) (x : Int) (tx : Tok) (c : BS) : List (Str × Value) := [(Str.ofString "a", .ref d), (Str.ofString "x", .int x tx), (Str.ofString "lo", .int c.lo c.tl), (Str.ofString "hi", .int c.hi c.th)]
theorem getD_mem {ns : List Int} {i : Nat} (h : i < ns.length) : ns.getD i 0 ∈ ns := by
  rw [List.getD_eq_getElem?_getD, List.getElem?_eq_getElem h]
  exact List.getElem_mem h
theorem bs_end {d : Addr} {x : Int} {tx : Tok} {h₀ : Heap} {L : Addr} {s : Shared} {stored : List Str} {m₀ m' : Str → Option Value} {P : BS → Prop} {μ : BS → Nat} {c : BS} {h' : Heap} {tk : Nat} {led : List (Addr × Obj)} {lo hi : Int} {tl th : Tok}
    (F : Fr h₀ L h' m') (N : News h₀ L h' led) (hk : ∀ p ∈ [(Str.ofString "a", Value.ref d), (Str.ofString "x", .int x tx), (Str.ofString "lo", .int lo tl), (Str.ofString "hi", .int hi th)], m' p.1 = some p.2) (hr : ∀ z, (∀ p ∈ bps d x tx ⟨lo, tl, hi, th⟩, z ≠ p.1) → stored.contains z = false → m' z = m₀ z) (hp : P ⟨lo, tl, hi, th⟩) (hm : μ ⟨lo, tl, hi, th⟩ < μ c) :
    KswEnd h₀ L s (fun _ : BS => led) (fun c => bps d x tx c) (fun _ => True) stored m₀ P μ c { s with heap := h', toks := tk } :=
  ksw_end ⟨lo, tl, hi, th⟩ F N (fun _ hp => hp) trivial hk hr hp hm
theorem ins0 {prog : Program} {w : World} {A : Around} {E : Value → Shared → Prop} {s : Shared} {h₀ : Heap} {L D : Addr} {m : Str → Option Value} {news news' : List (Addr × Obj)} {vs : List Value} {n : Nat} {u : Tok} {y : Value} {Q : Value → Shared → Prop} (F : Fr h₀ L s.heap m) (N : News h₀ L s.heap news)
    (U : Upd D (listOf vs.toArray n) (listOf (y :: vs).toArray (n + 1)) news news') (hz : vs.toArray.size ≤ 1000) (h : ∀ h', Fr h₀ L h' m → News h₀ L h' news' → Q .none { s with heap := h' }) :
    wpAny (model prog w) A (call (.builtin "list.insert") [.ref D, .int 0 u, y]) Q E s :=
  kl_insert (its := vs.toArray) (l := y :: vs) F N rfl (by simp [kl_ins]) U (by rw [sizeLine_eq]; simp at hz ⊢; omega) h
def sqs : List Int := (List.range 101).map fun (i : Nat) => (i : Int) * (i : Int)
theorem sqs_get {i : Nat} (h : i < 101) : sqs.getD i 0 = (i : Int) * i := by
  unfold sqs
  rw [List.getD_eq_getElem?_getD, List.getElem?_map, List.getElem?_range h]
  rfl
theorem sqs_root {x r : Int} (hr : IsRoot x r) (hx : x < 10000) : r ≤ 99 := by
  have := lt_of_sq (a := r) (b := 100) (by decide) (Int.lt_of_le_of_lt hr.2.1 hx)
  omega
theorem sqs_lt {ns : List Int} {x r v : Int} (hns : ns = sqs) (h0 : 0 ≤ v) (h1 : v < 101) (hr : IsRoot x r) (h : x < ns.getD v.toNat 0) : r + 1 ≤ v := by
  subst hns
  rw [sqs_get (by omega), Int.toNat_of_nonneg h0] at h
  have := lt_of_sq (a := r) (b := v) h0 (Int.lt_of_le_of_lt hr.2.1 h)
  omega
theorem sqs_ge {ns : List Int} {x r v : Int} (hns : ns = sqs) (h0 : 0 ≤ v) (h1 : v < 101) (hr : IsRoot x r) (h : ¬ x < ns.getD v.toNat 0) : v ≤ r := by
  subst hns
  rw [sqs_get (by omega), Int.toNat_of_nonneg h0] at h
  have := lt_of_sq (a := v) (b := r + 1) (by have := hr.1; omega) (Int.lt_of_le_of_lt (Int.not_lt.mp h) hr.2.2)
  omega
section
local macro_rules | `(tactic| k_all) => `(tactic| first | exact RB.ne (by assumption) (by omega) | exact allLt_ne (by assumption) | assumption)
local macro_rules | `(tactic| walk_at "binaryOp Mult ref int") => `(tactic| (k_here; (with_reducible show wpAny _ _ (binaryOp Operator.Mult (Value.ref _) (Value.int _ _)) _ _ _); k_dflt (refine' mul_zero ?F ?N ?m ?a ?b ?_; (case F => k_asm); (case N => k_asm); (case m => k_mem); (case a => assumption); (case b => omega); k_whole); intro D' h' F' N' l1; (try k_lt l1)))
local macro_rules | `(tactic| walk_at "call builtin:len") => `(tactic| (k_here; (with_reducible show wpAny _ _ (call (Value.builtin "len") [Value.ref _]) _ _ _); k_dflt (refine' len_rep ?N ?m ?b ?_; (case N => k_asm); (case m => k_mem); (case b => omega); k_whole)))
local macro_rules | `(tactic| k_mem) => `(tactic| with_reducible assumption)
local macro_rules | `(tactic| walk_at "exec While") => `(tactic| refine Halt.mk ?_)
local macro_rules | `(tactic| walk_at "binaryOp FloorDiv int int") => `(tactic| (k_here; refine floordiv2_v ?_; intro v9 hv9))
section
variable {w : World} {p : Program} {loose : List Str} {mean : ExcName → Option Value} {mg mb : Str → Option Value}
   {dp un : Nat} {gd : Option (List Code)} {cn : Str} {cs : Scope} {a : Addr} {ccd : Value} {cl : List (Str × Addr)} {outer : List Env} {A₀ : Around} {base h₀ : Heap} {L : Addr} {m : Str → Option Value} {R : List (Addr × Obj)} {s : Shared} {Q E : Value → Shared → Prop}
set_option maxRecDepth 100000 in
set_option maxHeartbeats 8000000 in
theorem c_bl {d : Addr} {vs : List Value} {ns : List Int} {nn : Nat} {x : Int} {tx t0 : Tok}
   (B : Below A₀ base outer h₀) (F : Fr h₀ L s.heap m) (X : Frag.In (hd.heap_39 (World.params w)) h₀) (N : News h₀ L s.heap ((d, listOf vs.toArray nn) :: R)) (T : Top p loose mean mg mb h₀) (hk : cs.kind = .function)
   (hd : dp + 20 < recursionLimit) (hu : un + 200 < cLine) (hi : IntsAre vs ns) (hl : ns.length ≤ 1000) (hx : ∀ q ∈ ns, x ≤ q)
   (hret : ∀ t h' tk', Fr h₀ L h' m → News h₀ L h' ((d, listOf vs.toArray nn) :: R) → Q (.int 0 t) { s with heap := h', toks := tk' }) :
   wpAny (model (RowW.prog (OpenRow.toRowW (OpenLaw.row PySem.Challenge.rw_hl0004_01))) w) (ktrTop dp un gd cn cs L a ccd cl outer) (call (.ref 83) [.ref d, .int x tx, .int 0 t0, .none]) Q E s := by
  w_top off
  revert X; k_fill; intro X
  have hsz : vs.toArray.size = ns.length := by rw [List.size_toArray]; exact hi.length
  refine wpAny_call ?_
  k_dflt (refine' code_def ?k1 ?k2 ?k3 ?k4 ?k5 ?kA ?kF ?kK ?k6 ?k7 ?k8 ?k9 ?kB ?_ ?c2 ?c3 ?c4 ?c5; (case kA => exact rfl); (case kF => exact rfl); (case kK => assumption); (case k1 => k_asm); (case k2 => k_asm); (case k3 => k_asm); (case k4 => k_asm); (case k5 => k_asm); (case k6 => k_is); (case k7 => k_is); (case k8 => ktr_room); (case k9 => (refine' kp_binds ?kx ?ke; (case kx => k_in); (case ke => exact fun _ => rfl))); (case c5 => decide); (case kB => exact locs rfl); (case c2 => exact rfl); (case c3 => exact rfl); (case c4 => exact rfl); k_whole; intro g' L' h' FG' F' N' B' X' T'; (try dsimp only); (try k_fold))
  w_strict k_steps
  show wpAny _ _ _ _ _ _
  rename News _ _ _ _ => N9
  rename Fr _ _ _ _ => F9
  k_dflt (refine' ksw_while (fun _ : BS => (d, listOf vs.toArray nn) :: R) (fun c => bps d x tx c) (fun _ => True) [Str.ofString "mid"] (fun c => c.lo = 0 ∧ 0 ≤ c.hi ∧ c.hi ≤ (ns.length : Int)) (fun c => c.hi.toNat) ⟨_, _, _, _⟩ F9 N9 trivial ?hk ?hp ?turn)
  case hk => kst_all
  case hp => exact ⟨rfl, Int.natCast_nonneg _, Int.le_refl _⟩
  case turn =>
    rintro ⟨lo, tl, hh, th⟩ u h tk _ ⟨H1, H2, H3⟩ F N
    dsimp only at H1 H2 H3 F N
    subst H1
    try k_fold
    w_strict k_steps
    · exfalso
      rename _ = (_ + _) / 2 => hv
      rename List.getD ns _ _ < x => hlt
      try dsimp only at hv
      exact absurd hlt (Int.not_lt.mpr (hx _ (getD_mem (by omega))))
    · rename News _ _ _ _ => NN9
      rename Fr _ _ _ _ => FF9
      rename _ = (_ + _) / 2 => hv
      try dsimp only at hv
      refine' bs_end FF9 NN9 ?hk ?hr ?hp ?hm
      case hk => kst_all
      case hr =>
        intro z h2 h3
        simp only [bps, List.forall_mem_cons, List.not_mem_nil, false_implies, implies_true, and_true, ne_eq] at h2
        simp only [List.contains_cons, List.contains_nil, Bool.or_false, beq_eq_false_iff_ne, ne_eq] at h3
        simp [kstB, h2, h3]
      case hp =>
        refine ⟨rfl, ?_, ?_⟩
        all_goals dsimp only
        all_goals omega
      case hm =>
        dsimp only
        omega
    · rename News h₀ _ _ _ => NN9
      rename Fr h₀ _ _ _ => FF9
      exact hret _ _ _ FF9 NN9
end
end
section
local macro_rules | `(tactic| k_all) => `(tactic| first | exact RB.ne (by assumption) (by omega) | exact allLt_ne (by assumption) | assumption)
local macro_rules | `(tactic| walk_at "binaryOp Mult ref int") => `(tactic| (k_here; (with_reducible show wpAny _ _ (binaryOp Operator.Mult (Value.ref _) (Value.int _ _)) _ _ _); k_dflt (refine' mul_zero ?F ?N ?m ?a ?b ?_; (case F => k_asm); (case N => k_asm); (case m => k_mem); (case a => assumption); (case b => omega); k_whole); intro D' h' F' N' l1; (try k_lt l1)))
local macro_rules | `(tactic| walk_at "call builtin:len") => `(tactic| (k_here; (with_reducible show wpAny _ _ (call (Value.builtin "len") [Value.ref _]) _ _ _); k_dflt (refine' len_rep ?N ?m ?b ?_; (case N => k_asm); (case m => k_mem); (case b => omega); k_whole)))
local macro_rules | `(tactic| k_mem) => `(tactic| with_reducible assumption)
local macro_rules | `(tactic| walk_at "exec While") => `(tactic| refine Halt.mk ?_)
local macro_rules | `(tactic| walk_at "binaryOp FloorDiv int int") => `(tactic| (k_here; refine floordiv2_v ?_; intro v9 hv9))
section
variable {w : World} {p : Program} {loose : List Str} {mean : ExcName → Option Value} {mg mb : Str → Option Value}
   {dp un : Nat} {gd : Option (List Code)} {cn : Str} {cs : Scope} {a : Addr} {ccd : Value} {cl : List (Str × Addr)} {outer : List Env} {A₀ : Around} {base h₀ : Heap} {L : Addr} {m : Str → Option Value} {R : List (Addr × Obj)} {s : Shared} {Q E : Value → Shared → Prop}
set_option maxRecDepth 100000 in
set_option maxHeartbeats 8000000 in
theorem c_br {d : Addr} {vs : List Value} {ns : List Int} {nn : Nat} {x r : Int} {tx : Tok}
   (B : Below A₀ base outer h₀) (F : Fr h₀ L s.heap m) (X : Frag.In (hd.heap_39 (World.params w)) h₀) (N : News h₀ L s.heap ((d, listOf vs.toArray nn) :: R)) (T : Top p loose mean mg mb h₀) (hk : cs.kind = .function)
   (hd : dp + 20 < recursionLimit) (hu : un + 200 < cLine) (hi : IntsAre vs ns) (hl : ns.length ≤ 1000) (hns : ns = sqs) (hr : IsRoot x r) (hx1 : x < 10000)
   (hret : ∀ t h' tk', Fr h₀ L h' m → News h₀ L h' ((d, listOf vs.toArray nn) :: R) → Q (.int (r + 1) t) { s with heap := h', toks := tk' }) :
   wpAny (model (RowW.prog (OpenRow.toRowW (OpenLaw.row PySem.Challenge.rw_hl0004_01))) w) (ktrTop dp un gd cn cs L a ccd cl outer) (call (.ref 65) [.ref d, .int x tx]) Q E s := by
  w_top off
  revert X; k_fill; intro X
  have hlen : ns.length = 101 := by rw [hns]; rfl
  have hr0 := hr.1
  have hr1 := sqs_root hr hx1
  have hsz : vs.toArray.size = ns.length := by rw [List.size_toArray]; exact hi.length
  refine wpAny_call ?_
  k_dflt (refine' code_def ?k1 ?k2 ?k3 ?k4 ?k5 ?kA ?kF ?kK ?k6 ?k7 ?k8 ?k9 ?kB ?_ ?c2 ?c3 ?c4 ?c5; (case kA => exact rfl); (case kF => exact rfl); (case kK => assumption); (case k1 => k_asm); (case k2 => k_asm); (case k3 => k_asm); (case k4 => k_asm); (case k5 => k_asm); (case k6 => k_is); (case k7 => k_is); (case k8 => ktr_room); (case k9 => (refine' kp_binds ?kx ?ke; (case kx => k_in); (case ke => exact fun _ => rfl))); (case c5 => decide); (case kB => exact locs rfl); (case c2 => exact rfl); (case c3 => exact rfl); (case c4 => exact rfl); k_whole; intro g' L' h' FG' F' N' B' X' T'; (try dsimp only); (try k_fold))
  w_strict k_steps
  show wpAny _ _ _ _ _ _
  rename News _ _ _ _ => N9
  rename Fr _ _ _ _ => F9
  k_dflt (refine' ksw_while (fun _ : BS => (d, listOf vs.toArray nn) :: R) (fun c => bps d x tx c) (fun _ => True) [Str.ofString "mid"] (fun c => 0 ≤ c.lo ∧ c.lo ≤ r + 1 ∧ r + 1 ≤ c.hi ∧ c.hi ≤ 101) (fun c => (c.hi - c.lo).toNat) ⟨_, _, _, _⟩ F9 N9 trivial ?hk ?hp ?turn)
  case hk => kst_all
  case hp =>
    have hlen9 : ns.length = 101 := by rw [hns]; rfl
    refine ⟨Int.le_refl _, ?_, ?_, ?_⟩
    all_goals dsimp only
    all_goals (try rw [hlen9])
    all_goals (try change _ ≤ (101 : Int))
    all_goals (try change (101 : Int) ≤ _)
    all_goals omega
  case turn =>
    rintro ⟨lo, tl, hh, th⟩ u h tk _ ⟨H1, H2, H3, H4⟩ F N
    dsimp only at H1 H2 H3 H4 F N
    try k_fold
    w_strict k_steps
    · rename News _ _ _ _ => NN9
      rename Fr _ _ _ _ => FF9
      rename _ = (_ + _) / 2 => hv
      rename x < List.getD ns _ _ => hlt
      try dsimp only at hv
      have hsq := sqs_lt hns (by omega) (by omega) hr hlt
      refine' bs_end FF9 NN9 ?hk ?hr ?hp ?hm
      case hk => kst_all
      case hr =>
        intro z h2 h3
        simp only [bps, List.forall_mem_cons, List.not_mem_nil, false_implies, implies_true, and_true, ne_eq] at h2
        simp only [List.contains_cons, List.contains_nil, Bool.or_false, beq_eq_false_iff_ne, ne_eq] at h3
        simp [kstB, h2, h3]
      case hp =>
        refine ⟨?_, ?_, ?_, ?_⟩
        all_goals dsimp only
        all_goals omega
      case hm =>
        dsimp only
        omega
    · rename News _ _ _ _ => NN9
      rename Fr _ _ _ _ => FF9
      rename _ = (_ + _) / 2 => hv
      rename ¬ x < List.getD ns _ _ => hlt
      try dsimp only at hv
      have hsq := sqs_ge hns (by omega) (by omega) hr hlt
      refine' bs_end FF9 NN9 ?hk ?hr ?hp ?hm
      case hk => kst_all
      case hr =>
        intro z h2 h3
        simp only [bps, List.forall_mem_cons, List.not_mem_nil, false_implies, implies_true, and_true, ne_eq] at h2
        simp only [List.contains_cons, List.contains_nil, Bool.or_false, beq_eq_false_iff_ne, ne_eq] at h3
        simp [kstB, h2, h3]
      case hp =>
        refine ⟨?_, ?_, ?_, ?_⟩
        all_goals dsimp only
        all_goals omega
      case hm =>
        dsimp only
        omega
    · rename News h₀ _ _ _ => NN9
      rename Fr h₀ _ _ _ => FF9
      have e : lo = r + 1 := by
        rename ¬ _ < _ => hge
        try dsimp only at hge
        omega
      rw [e]
      exact hret _ _ _ FF9 NN9
end
end
section
local macro_rules | `(tactic| k_all) => `(tactic| first | exact RB.ne (by assumption) (by omega) | exact allLt_ne (by assumption) | assumption)
local macro_rules | `(tactic| walk_at "binaryOp Mult ref int") => `(tactic| (k_here; (with_reducible show wpAny _ _ (binaryOp Operator.Mult (Value.ref _) (Value.int _ _)) _ _ _); k_dflt (refine' mul_zero ?F ?N ?m ?a ?b ?_; (case F => k_asm); (case N => k_asm); (case m => k_mem); (case a => assumption); (case b => omega); k_whole); intro D' h' F' N' l1; (try k_lt l1)))
local macro_rules | `(tactic| walk_at "call builtin:len") => `(tactic| (k_here; (with_reducible show wpAny _ _ (call (Value.builtin "len") [Value.ref _]) _ _ _); k_dflt (refine' len_rep ?N ?m ?b ?_; (case N => k_asm); (case m => k_mem); (case b => omega); k_whole)))
local macro_rules | `(tactic| k_mem) => `(tactic| with_reducible assumption)
local macro_rules | `(tactic| walk_at "call ref") => `(tactic| (k_here; (with_reducible show wpAny _ _ (call (Value.ref 83) _) _ _ _); (k_dflt (refine' c_bl ?B ?F ?X ?N ?T ?hk ?hd ?hu ?hi ?hl ?hx ?_; (case B => k_asm); (case F => k_asm); (case X => k_asm); (case T => k_asm); (case N => k_asm); (case hk => exact rfl); (case hd => ktr_room); (case hu => ktr_units); (case hi => assumption); (case hl => assumption); (case hx => assumption))); intro t9 h9 tk9 F9 N9; (try dsimp only); (try k_fold); trace "BL"))
local macro_rules | `(tactic| walk_at "call builtin:list.insert") => `(tactic| (k_here; (with_reducible show wpAny _ _ (call (Value.builtin _) [Value.ref _, Value.int _ _, _]) _ _ _); k_dflt (refine' ins0 ?F ?N ?U ?z ?_; (case F => k_asm); (case N => k_asm); (case U => k_upd); (case z => omega)); intro h' F' N'))
section
variable {w : World} {p : Program} {loose : List Str} {mean : ExcName → Option Value} {mg mb : Str → Option Value}
   {dp un : Nat} {gd : Option (List Code)} {cn : Str} {cs : Scope} {a : Addr} {ccd : Value} {cl : List (Str × Addr)} {outer : List Env} {A₀ : Around} {base h₀ : Heap} {L : Addr} {m : Str → Option Value} {R : List (Addr × Obj)} {s : Shared} {Q E : Value → Shared → Prop}
set_option maxRecDepth 100000 in
set_option maxHeartbeats 8000000 in
theorem c_ins {d : Addr} {vs : List Value} {ns : List Int} {nn : Nat} {x : Int} {tx : Tok}
   (B : Below A₀ base outer h₀) (F : Fr h₀ L s.heap m) (X : Frag.In (hd.heap_39 (World.params w)) h₀) (N : News h₀ L s.heap ((d, listOf vs.toArray nn) :: R)) (T : Top p loose mean mg mb h₀) (hk : cs.kind = .function)
   (hd : dp + 30 < recursionLimit) (hu : un + 300 < cLine) (hi : IntsAre vs ns) (hl : ns.length ≤ 1000) (hx : ∀ q ∈ ns, x ≤ q) (hR : ∀ q ∈ R, q.1 ≠ d)
   (hret : ∀ nn' h' tk', Fr h₀ L h' m → News h₀ L h' ((d, listOf (Value.int x tx :: vs).toArray nn') :: R) → Q .none { s with heap := h', toks := tk' }) :
   wpAny (model (RowW.prog (OpenRow.toRowW (OpenLaw.row PySem.Challenge.rw_hl0004_01))) w) (ktrTop dp un gd cn cs L a ccd cl outer) (call (.ref 74) [.ref d, .int x tx]) Q E s := by
  w_top off
  revert X; k_fill; intro X
  have hsz : vs.toArray.size = ns.length := by rw [List.size_toArray]; exact hi.length
  refine wpAny_call ?_
  k_dflt (refine' code_def ?k1 ?k2 ?k3 ?k4 ?k5 ?kA ?kF ?kK ?k6 ?k7 ?k8 ?k9 ?kB ?_ ?c2 ?c3 ?c4 ?c5; (case kA => exact rfl); (case kF => exact rfl); (case kK => assumption); (case k1 => k_asm); (case k2 => k_asm); (case k3 => k_asm); (case k4 => k_asm); (case k5 => k_asm); (case k6 => k_is); (case k7 => k_is); (case k8 => ktr_room); (case k9 => (refine' kp_binds ?kx ?ke; (case kx => k_in); (case ke => exact fun _ => rfl))); (case c5 => decide); (case kB => exact locs rfl); (case c2 => exact rfl); (case c3 => exact rfl); (case c4 => exact rfl); k_whole; intro g' L' h' FG' F' N' B' X' T'; (try dsimp only); (try k_fold))
  w_strict k_steps
  rename News h₀ _ _ _ => NN9
  rename Fr h₀ _ _ _ => FF9
  exact hret _ _ _ FF9 NN9
end
end
/-- the squares of 101 - i .. 100, rising -/
def sqd : Nat → List Int
  | 0 => []
  | i + 1 => (100 - (i : Int)) * (100 - (i : Int)) :: sqd i
theorem sqd_length : ∀ i, (sqd i).length = i
  | 0 => rfl
  | i + 1 => by rw [sqd, List.length_cons, sqd_length i]
theorem sqd_ge : ∀ (i : Nat) (k : Int), 0 ≤ k → k + (i : Int) ≤ 101 → ∀ q ∈ sqd i, k * k ≤ q
  | 0, _, _, _, _, h => nomatch h
  | i + 1, k, h0, h1, q, h => by
    rw [sqd] at h
    rcases List.mem_cons.mp h with rfl | h
    · exact sq_le h0 (by omega)
    · exact sqd_ge i k h0 (by omega) q h
theorem sqd_all : sqd 101 = sqs := by decide +kernel
abbrev sps (q : Addr) (vsc : Value) : List (Str × Value) := [(Str.ofString "squares", .ref q), (Str.ofString "script", vsc)]
def SqEnd (h₀ : Heap) (L : Addr) (q : Addr) (vsc : Value) (k : Int) (vs : List Value) (R own : List (Addr × Obj)) (s₁ s₂ : Shared) : Prop :=
  ∃ h' tk m' t' nn', s₂ = { s₁ with heap := h', toks := tk } ∧ Fr h₀ L h' m' ∧ News h₀ L h' ((q, listOf (Value.int (k * k) t' :: vs).toArray nn') :: (R ++ own)) ∧ (∀ p ∈ sps q vsc, m' p.1 = some p.2)
def SqPost (h₀ : Heap) (L : Addr) (q : Addr) (vsc : Value) (k : Int) (vs : List Value) (R own : List (Addr × Obj)) (s₁ : Shared) (Q : Flow → Shared → Prop) (f : Flow) (s₂ : Shared) : Prop :=
  match f with
  | .ret v => Q (.ret v) s₂
  | .brk => Q .next s₂
  | _ => SqEnd h₀ L q vsc k vs R own s₁ s₂
theorem SqEnd.intro {h₀ : Heap} {L : Addr} {q : Addr} {vsc : Value} {k : Int} {vs : List Value} {R own : List (Addr × Obj)} {s₁ : Shared} {h' : Heap} {tk : Nat} {m' : Str → Option Value} {t' : Tok} {nn' : Nat}
    (F : Fr h₀ L h' m') (N : News h₀ L h' ((q, listOf (Value.int (k * k) t' :: vs).toArray nn') :: (R ++ own))) (hk : ∀ p ∈ sps q vsc, m' p.1 = some p.2) : SqEnd h₀ L q vsc k vs R own s₁ { s₁ with heap := h', toks := tk } := ⟨h', tk, m', t', nn', rfl, F, N, hk⟩
structure SS where
  vs : List Value
  ns : List Int
  nn : Nat
theorem sq_use {prog : Program} {w : World} {A : Around} {E : Value → Shared → Prop} {s : Shared} {env : Env} {h₀ : Heap} {body : List Stmt} {Q : Flow → Shared → Prop} {r q : Addr} {R : List (Addr × Obj)} {m₀ : Str → Option Value} {vsc : Value} {t₀ u₀ v₀ : Tok}
    (hh : A.handled = none) (hr : IsRange s.heap r 100 (0 - 1) (0 - 1) t₀ u₀ v₀) (F : Fr h₀ env.locals s.heap m₀) (N : News h₀ env.locals s.heap ((q, listOf #[] 0) :: R)) (hm : ∀ p ∈ sps q vsc, m₀ p.1 = some p.2) (hR : ∀ p ∈ R, p.1 ≠ q)
    (turn : ∀ (ns : List Int) (vs : List Value) (nn : Nat) (k : Int) (t : Tok) (u : Str → Option Value) (h : Heap) (tk : Nat) (own : List (Addr × Obj)), IntsAre vs ns → (∀ z ∈ ns, k * k ≤ z) → 0 ≤ k → k ≤ 100 → ns.length ≤ 1000 → (∀ p ∈ R ++ own, p.1 ≠ q) →
      Fr h₀ env.locals h (fun y => if y = Str.ofString "root" then some (.int k t) else kstB u (sps q vsc) y) → News h₀ env.locals h ((q, listOf vs.toArray nn) :: (R ++ own)) →
      wpAny (model prog w) A (execs body env) (SqPost h₀ env.locals q vsc k vs R own { s with heap := h, toks := tk } Q) E { s with heap := h, toks := tk })
    (done : ∀ (vs : List Value) (nn : Nat) (u : Str → Option Value) (h : Heap) (tk : Nat), IntsAre vs sqs → Fr h₀ env.locals h (fun z => kstB u (sps q vsc) z) → News h₀ env.locals h ((q, listOf vs.toArray nn) :: R) → Q .next { s with heap := h, toks := tk }) :
    wpAny (model prog w) A (pyIter (.ref r)) (fun it s₂ => LoopAtV prog w A h₀ env (Str.ofString "root") body Q E it s₂) E s := by
  refine wpAny_pyIter_range hr (small_down (by decide) (by decide) (by decide) (by decide)) ?_
  have hn : Builtin.Range.rangeSize 100 (0 - 1) (0 - 1) = ((101 : Nat) : Int) := by decide
  have W : Walks prog w A s.heap.objs.size [s.heap.objs.size] [s.heap.objs.size] 101 (fun i v => i < 101 ∧ ∃ t, v = .int (100 + i * (-1)) t)
      (fun i h => IsRangeIter h s.heap.objs.size (100 + (i : Nat) * (-1)) (((101 : Nat) : Int) - (i : Nat)) (-1)) := (Walks.range hh _ 100 (-1) 101).bound
  refine loop_invN (fun i m nx => ∃ (vs : List Value) (nn : Nat), nx = (q, listOf vs.toArray nn) :: R ∧ IntsAre vs (sqd i) ∧ ∀ p ∈ sps q vsc, m p.1 = some p.2) W ?_ ?_ ?_ ?_ (by show IsRangeIter _ _ _ _ _; rw [hn]; simpa using Heap.get?_push_size _ rfl) (F.push _) (fun p hp => ⟨Heap.get?_push_of_some _ (N p hp).1, (N p hp).2⟩) ⟨[], 0, rfl, .nil, hm⟩ ?_ ?_
  · intro hm
    exact absurd F.ns.lt ((List.mem_singleton.mp hm) ▸ Nat.lt_irrefl _)
  · intro b hb
    rw [List.mem_singleton.mp hb]
    exact next_is_new F
  · intro p hp hI
    exact absurd (Heap.lt_size (N p hp).1) ((List.mem_singleton.mp hI) ▸ Nat.lt_irrefl _)
  · intro p hp hI
    exact absurd (Heap.lt_size (N p hp).1) ((List.mem_singleton.mp hI) ▸ Nat.lt_irrefl _)
  · rintro i v m₁ nx h tk own hi ⟨_, t, rfl⟩ _ hoff ⟨vs, nn, rfl, hv, hk⟩ F₁ N₁
    have e1 : (100 : Int) + (i : Int) * (-1) = 100 - (i : Int) := by omega
    rw [e1] at F₁
    have hRo : ∀ p ∈ R ++ own, p.1 ≠ q := fun p hp => (List.mem_append.mp hp).elim (hR p) fun hp => hoff.ne (.head _) p hp
    have hge := sqd_ge i (100 - (i : Int)) (by omega) (by omega)
    refine wpAny_mono (turn (sqd i) vs nn (100 - (i : Int)) t m₁ h tk own hv hge (by omega) (by omega) (by rw [sqd_length]; omega) hRo (fr_kst hk F₁) N₁) (fun f s₂ p => ?_) fun _ _ e => e
    have fin : SqEnd h₀ env.locals q vsc (100 - (i : Int)) vs R own { s with heap := h, toks := tk } s₂ → InvEndN h₀ env.locals (fun m nx => ∃ (vs : List Value) (nn : Nat), nx = (q, listOf vs.toArray nn) :: R ∧ IntsAre vs (sqd (i + 1)) ∧ ∀ p ∈ sps q vsc, m p.1 = some p.2) own (((q, listOf #[] 0) :: R).map (·.1)) { s with heap := h, toks := tk } s₂ := by
      rintro ⟨h', tk', m', t', nn', rfl, F', N', hk'⟩
      exact InvEndN.intro F' N' ⟨_, nn', rfl, .cons _ _ hv, hk'⟩ rfl (fun p hp => by
        rcases List.mem_cons.mp hp with rfl | hp
        · exact .head _
        · exact .tail _ (List.mem_append_left _ hp)) fun p hp => .tail _ (List.mem_append_right _ hp)
    cases f with
    | ret v => exact p
    | brk => exact p
    | next => exact fin p
    | cont => exact fin p
  · rintro m₁ nx h tk ⟨vs, nn, rfl, hv, hk⟩ F₁ N₁
    exact done vs nn m₁ h tk (sqd_all ▸ hv) (fr_kst0 hk F₁) N₁
abbrev cps (q : Addr) : List (Str × Value) := [(Str.ofString "squares", .ref q)]
theorem len_v {w : World} {prog : Program} {A : Around} {E : Value → Shared → Prop} {s : Shared} {h₀ : Heap} {L : Addr} {news : List (Addr × Obj)} {l : Addr} {its : Array Value} {k nn : Nat} {Q : Value → Shared → Prop}
    (N : News h₀ L s.heap ((l, listOf its nn) :: news)) (hs : its.size = k) (hk : k ≤ 1000) (h : Q (.int (k : Nat) (s.toks + 1)) { s with toks := s.toks + 1 + 1 }) :
    wpAny (model prog w) A (call (.builtin "len") [.ref l]) Q E s := KM.len_K N (.head _) hs (by omega) h
theorem bits30 {n : Nat} {x : Int} (_hz : n = Builtin.Int.intBits x) (h0 : 0 ≤ x) (hx : x < 1073741824) : Builtin.Int.intBits x ≤ 30 := bits_le h0 30 (by omega)
theorem sqs_le : sqs.length ≤ 1000 := by decide +kernel
/-- the list of squares lies on the ledger's tail -/
structure SqAt (q : Addr) (o : Obj) (R : List (Addr × Obj)) : Prop where
  mem : (q, o) ∈ R
  n30 : q ≠ 30
  n37 : q ≠ 37
theorem SqAt.tail {q : Addr} {o : Obj} {a : Addr × Obj} {R : List (Addr × Obj)} (h : SqAt q o R) : SqAt q o (a :: R) := ⟨.tail _ h.mem, h.n30, h.n37⟩
theorem SqAt.next {q : Addr} {o : Obj} {R R' : List (Addr × Obj)} (h : SqAt q o R) (e : Evol R R') : SqAt q o R' := ⟨e.2 _ h.mem h.n30 h.n37, h.n30, h.n37⟩
theorem SqAt.front {q : Addr} {o : Obj} {R : List (Addr × Obj)} {h₀ h : Heap} {L : Addr} (s : SqAt q o R) (N : News h₀ L h R) : News h₀ L h ((q, o) :: R) := news_one N s.mem N
/-- the way from the turn's first ledger -/
structure EF (R₀ R : List (Addr × Obj)) : Prop where
  out : Evol R₀ R
theorem EF.tail {a : Addr × Obj} {R₀ R : List (Addr × Obj)} (h : EF R₀ R) : EF R₀ (a :: R) := ⟨⟨h.out.1.tail, fun p hp x y => .tail _ (h.out.2 p hp x y)⟩⟩
theorem EF.next {R₀ R R' : List (Addr × Obj)} (h : EF R₀ R) (e : Evol R R') : EF R₀ R' := ⟨h.out.trans e⟩
/-- a root that the law has asked for -/
structure MR (x r : Int) : Prop where
  out : IsRoot x r
theorem MR.eq {x r s : Int} (h : MR x r) (g : IsRoot x s) : s = r := g.unique h.out
theorem rootsq_eq {v r s : Int} (hs : IsRoot v s) (hv : v = r * r) (h0 : 0 ≤ r) : s = r := by subst hv; exact hs.unique (root_sq h0)
theorem rootsq1_eq {v r s : Int} (hs : IsRoot (v - 1) s) (hv : v = r * r) (h0 : 0 < r) : s = r - 1 := by subst hv; exact hs.unique (root_sq1 h0)
theorem root_mulE {N o r s t v : Int} (hs : IsRoot o s) (hv : v = N * o) (ht : MR v t) (hr : MR N r) : r * s ≤ t := by subst hv; exact root_mul hr.out hs ht.out
theorem root_lid {x r : Int} (h : IsRoot x r) (hx : x < 268435456) : r ≤ 16383 := by
  have := lt_of_sq (a := r) (b := 16384) (by decide) (Int.lt_of_le_of_lt h.2.1 hx)
  omega
theorem root_self {x r : Int} (h : IsRoot x r) : r ≤ r * r := by
  rcases Int.lt_or_le 0 r with h2 | h2
  · have : r * 1 ≤ r * r := Int.mul_le_mul_of_nonneg_left (by omega) h.1
    omega
  · have : r = 0 := by have := h.1; omega
    rw [this]; decide
theorem third_lid {x r : Int} (h : IsThird x r) (hx : x < 16384) : r ≤ 31 := by
  have := lt_of_cube (a := r) (b := 32) (by decide) (Int.lt_of_le_of_lt h.2.1 (by omega))
  omega
theorem begun_gt {x r v : Int} (hv : v = begun x) (h0 : 0 ≤ x) (hr : MR x r) : r < v := by rw [hv]; exact begun_root h0 hr.out
section
variable {prog : Program} {w : World} {A : Around} {E : Value → Shared → Prop} {s : Shared} {a b : Int} {t u : Tok} {Q : Value → Shared → Prop}
theorem mul_y (ha0 : 0 ≤ a) (hb0 : 0 ≤ b) (ha : a ≤ 16383) (hb : b ≤ 16383) (h : ∀ v, v = a * b → 0 ≤ v → v < 268435456 → Q (.int v s.toks) { s with toks := s.toks + 1 }) : wpAny (model prog w) A (binaryOp .Mult (.int a t) (.int b u)) Q E s :=
  mul_int (h _ rfl (Int.mul_nonneg ha0 hb0) (Int.lt_of_le_of_lt (Int.mul_le_mul ha hb hb0 (by decide)) (by decide))) (.of_left (intBits_le_64 (by omega) (by omega)))
theorem pow3_v (ha0 : 0 ≤ a) (ha : a ≤ 1000) (h : ∀ v, v = a * a * a → Q (.int v s.toks) { s with toks := s.toks + 1 }) : wpAny (model prog w) A (binaryOp .Pow (.int a t) (.int 3 u)) Q E s :=
  pow_int_small (by decide) (by decide) (by omega) (h _ (by rw [show Int.toNat 3 = 3 from rfl, Int.pow_succ, Int.pow_succ, Int.pow_succ, Int.pow_zero, Int.one_mul]))
theorem mod_v (hb0 : 0 < b) (hb : b < 1073741824) (h : ∀ v, 0 ≤ v → v < b → Q (.int v s.toks) { s with toks := s.toks + 1 }) : wpAny (model prog w) A (binaryOp .Mod (.int a t) (.int b u)) Q E s :=
  mod_int' (by omega) (h _ (by rw [Int.fmod_eq_emod_of_nonneg _ (Int.le_of_lt hb0)]; exact Int.emod_nonneg _ (by omega)) (by rw [Int.fmod_eq_emod_of_nonneg _ (Int.le_of_lt hb0)]; exact Int.emod_lt_of_pos _ hb0))
end
def CEnd (h₀ : Heap) (L : Addr) (q : Addr) (RR : List (Addr × Obj)) (s₁ s₂ : Shared) : Prop :=
  ∃ h' tk m' R', s₂ = { s₁ with heap := h', toks := tk } ∧ Fr h₀ L h' m' ∧ News h₀ L h' R' ∧ Evol RR R' ∧ (∀ p ∈ cps q, m' p.1 = some p.2)
def CPost (h₀ : Heap) (L : Addr) (q : Addr) (RR : List (Addr × Obj)) (s₁ : Shared) (Q : Flow → Shared → Prop) (f : Flow) (s₂ : Shared) : Prop :=
  match f with
  | .ret v => Q (.ret v) s₂
  | .brk => Q .next s₂
  | _ => CEnd h₀ L q RR s₁ s₂
theorem CEnd.intro {h₀ : Heap} {L : Addr} {q : Addr} {RR R' : List (Addr × Obj)} {s₁ : Shared} {h' : Heap} {tk : Nat} {m' : Str → Option Value}
    (F : Fr h₀ L h' m') (N : News h₀ L h' R') (hE : Evol RR R') (hk : ∀ p ∈ cps q, m' p.1 = some p.2) : CEnd h₀ L q RR s₁ { s₁ with heap := h', toks := tk } := ⟨h', tk, m', R', rfl, F, N, hE, hk⟩
theorem tabSt_offI {P line col I : Nat} {qual : Str} {R : List (Addr × Obj)} {h₀ h : Heap} {L : Addr} {it : Obj} {ax : Addr} {i : Int} {t : Tok} (N : News h₀ L h R) (hI : (I, it) ∈ R) (hd : it.data = .fields #[.ref ax, .int i t]) (hP : P ≠ I) (h : TabSt P line col qual R) : TabSt P line col qual (off I R) := by
  obtain ⟨ps, hm, h⟩ := h
  refine ⟨ps, mem_off.mpr ⟨hm, hP⟩, ?_⟩
  rcases h with h | ⟨c, oc, vs, t', h1, h2, h3, h4, h5, h6⟩
  · exact .inl h
  · refine .inr ⟨c, oc, vs, t', h1, mem_off.mpr ⟨h2, fun e => ?_⟩, h3, h4, h5, h6⟩
    have e1 := (N _ h2).1
    have e2 := (N _ hI).1
    rw [show (c, oc).1 = I from e] at e1
    rw [e1] at e2
    have e3 : oc = it := Option.some.inj e2
    rw [e3, hd] at h3
    have e4 := Data.fields.inj h3
    rw [← e4] at h4
    cases h4
theorem cell_use {prog : Program} {w : World} {A : Around} {E : Value → Shared → Prop} {s : Shared} {env : Env} {h₀ : Heap} {body : List Stmt} {Q : Flow → Shared → Prop} {ax q : Addr} {ws vs : List Value} {nn n2 : Nat} {cells : List Int} {R : List (Addr × Obj)} {m₀ : Str → Option Value}
    (hh : A.handled = none) (F : Fr h₀ env.locals s.heap m₀) (N : News h₀ env.locals s.heap ((ax, listOf ws.toArray nn) :: R)) (hi : IntsAre ws cells) (hm : ∀ p ∈ cps q, m₀ p.1 = some p.2) (hT : TabsIn R) (hq : (q, listOf vs.toArray n2) ∈ R)
    (turn : ∀ (n : Int) (t : Tok) (RR : List (Addr × Obj)) (h : Heap) (tk : Nat) (u : Str → Option Value), TabsIn RR → SqAt q (listOf vs.toArray n2) RR →
      Fr h₀ env.locals h (fun y => if y = Str.ofString "cell" then some (.int n t) else kstB u (cps q) y) → News h₀ env.locals h RR →
      wpAny (model prog w) A (execs body env) (CPost h₀ env.locals q RR { s with heap := h, toks := tk } Q) E { s with heap := h, toks := tk })
    (done : ∀ (RR : List (Addr × Obj)) (h : Heap) (tk : Nat) (u : Str → Option Value), TabsIn RR → Fr h₀ env.locals h (fun z => kstB u (cps q) z) → News h₀ env.locals h RR → Q .next { s with heap := h, toks := tk }) :
    wpAny (model prog w) A (pyIter (.ref ax)) (fun it s₂ => LoopAtV prog w A h₀ env (Str.ofString "cell") body Q E it s₂) E s := by
  have hax := N _ (.head _)
  have hl : s.heap.IsList ax ws.toArray := ⟨_, hax.1, rfl, nn, rfl⟩
  have hlt : ax < s.heap.objs.size := Heap.lt_size hax.1
  have hne : ax ≠ s.heap.objs.size := Nat.ne_of_lt hlt
  refine wpAny_pyIter_list hl ?_
  have W := Walks.list (prog := prog) (w := w) hh s.heap.objs.size ax hne ws.toArray
  have hnew := next_is_new F
  have NR : News h₀ env.locals s.heap R := fun p hp => N p (.tail _ hp)
  let J : Nat → (Str → Option Value) → List (Addr × Obj) → Prop := fun _ m₁ news₁ => TabsIn news₁ ∧ (q, listOf vs.toArray n2) ∈ news₁ ∧ ∀ p ∈ cps q, m₁ p.1 = some p.2
  refine ⟨_, _, _, ws.toArray.size, _, _, m₀, R, J, rfl, W, ?_, ?_, ?_, ⟨⟨_, Heap.get?_push_size _ rfl, rfl, rfl⟩, hl.at fun o e => Heap.get?_push_of_some _ e⟩, F.push _, (fun p hp => ⟨Heap.get?_push_of_some _ (NR p hp).1, (NR p hp).2⟩), ⟨hT, hq, hm⟩, ?_, ?_⟩
  · intro hmm
    rcases List.mem_cons.mp hmm with e | hmm
    · exact absurd F.ns.lt (e ▸ Nat.lt_irrefl _)
    · exact hax.2.1 (List.mem_singleton.mp hmm).symm
  · intro b hb
    rw [List.mem_singleton.mp hb]
    exact hnew
  · intro p hp hI
    exact absurd (Heap.lt_size (NR p hp).1) ((List.mem_singleton.mp hI) ▸ Nat.lt_irrefl _)
  · rintro i v m₁ news₁ s₁ own ⟨hh', tk', rfl⟩ hin hP ⟨hT₁, hq₁, hk₁⟩ hoff hown hget hall hst F₁ N₁
    obtain ⟨it, hit, hic, hid⟩ := hst.1
    have hmemI := hall s.heap.objs.size (List.mem_cons_self ..) hnew _ hit
    have hlt' : i < ws.length := by simpa using hin
    have hlt2 : i < cells.length := by rw [← hi.length]; exact hlt'
    obtain ⟨t, hx⟩ := hi.get i cells[i] (by simp [hlt2])
    have hv : v = .int cells[i] t := by
      have hP' : ws[i]? = some v := by simpa using hP
      rw [hx] at hP'; exact (Option.some.inj hP').symm
    subst hv
    have hI : ∀ p ∈ news₁, p.1 ≠ s.heap.objs.size := fun p hp e => hoff p hp (List.mem_singleton.mpr e)
    have hTR : TabsIn (own ++ news₁) := hT₁.mono fun p hp => List.mem_append_right _ hp
    have n30 : ∀ (P : Nat) (ps : Array Value), (P, tabObj ps) ∈ news₁ → ∀ p ∈ own, p.1 ≠ P := fun P ps hps p hp e => by
      have h1 := (N₁ _ (List.mem_append_right _ hps)).1
      have h2 := hget p hp
      rcases List.mem_cons.mp (hown p hp) with h3 | h3
      · exact hI _ hps (by rw [← h3, e])
      · obtain ⟨lo, hlo, hlc, _⟩ := hst.2
        have h4 : p.1 = ax := List.mem_singleton.mp h3
        rw [← h4, e] at hlo
        have h1' : hh'.get? P = some (tabObj ps) := h1
        have hlo' : hh'.get? P = some lo := hlo
        rw [h1'] at hlo'
        rw [← Option.some.inj hlo'] at hlc
        cases hlc
    have q30 : ∀ (P : Nat) (ps : Array Value), (P, tabObj ps) ∈ news₁ → q ≠ P := fun P ps hps e => by
      have h1 := (N₁ _ (List.mem_append_right _ hps)).1
      have h2 := (N₁ _ (List.mem_append_right _ hq₁)).1
      have h1' : hh'.get? P = some (tabObj ps) := h1
      have h2' : hh'.get? P = some (listOf vs.toArray n2) := e ▸ h2
      rw [h1'] at h2'
      have := congrArg Obj.cls (Option.some.inj h2')
      cases this
    obtain ⟨ps30, hp30, _⟩ := hT₁.1
    obtain ⟨ps37, hp37, _⟩ := hT₁.2
    refine wpAny_mono (turn cells[i] t (own ++ news₁) hh' tk' m₁ hTR ⟨List.mem_append_right _ hq₁, q30 30 _ hp30, q30 37 _ hp37⟩ (fr_kst hk₁ F₁) N₁) (fun f s₂ p => ?_) fun _ _ e => e
    have fin : CEnd h₀ env.locals q (own ++ news₁) { s with heap := hh', toks := tk' } s₂ → LoopStepU h₀ env.locals [s.heap.objs.size] own (J (i + 1)) { s with heap := hh', toks := tk' } .next s₂ := by
      rintro ⟨h', tk, m', R', rfl, F', N', hE, hk⟩
      have ho : ∀ p ∈ own, p ∈ R' := fun p hp => hE.2 p (List.mem_append_left _ hp) (n30 30 _ hp30 p hp) (n30 37 _ hp37 p hp)
      refine ⟨rfl, h', tk, m', off s.heap.objs.size R', rfl, F', fun p hp => ?_, fun p hp hI' => (mem_off.mp hp).2 (List.mem_singleton.mp hI'), ?_, ?_, hk⟩
      · rcases List.mem_append.mp hp with hp | hp
        · exact N' p (ho p hp)
        · exact N' p (mem_off.mp hp).1
      · exact ⟨tabSt_offI N' (ho _ hmemI) hid (hI _ hp30) hE.1.1, tabSt_offI N' (ho _ hmemI) hid (hI _ hp37) hE.1.2⟩
      · exact mem_off.mpr ⟨hE.2 _ (List.mem_append_right _ hq₁) (q30 30 _ hp30) (q30 37 _ hp37), hI _ hq₁⟩
    cases f with
    | ret v => exact .ret p
    | brk => exact .brk p
    | next => exact .next (fin p)
    | cont => exact .cont (fin p)
  · rintro h' tk m' news' F' N' _ ⟨hT', _, hk⟩
    exact done news' h' tk m' hT' (fr_kst0 hk F') N'
end Mine
open Mine
local macro_rules | `(tactic| walk_at "pyIter ref") => `(tactic| refine Halt.mk ?_)
local macro_rules | `(tactic| walk_at "binaryOp Mult int int") => `(tactic| (k_here; (rename EF _ _ => hMk9); (refine' mul_y ?a ?b ?c ?d ?_; (case a => omega); (case b => omega); (case c => omega); (case d => omega); k_whole); intro v9 hv9 hw9 hx9))
local macro_rules | `(tactic| walk_at "binaryOp Pow int int") => `(tactic| (k_here; (refine' pow3_v ?a ?b ?_; (case a => omega); (case b => omega); k_whole); intro v9 hv9))
local macro_rules | `(tactic| walk_at "binaryOp Mod int int") => `(tactic| (k_here; (refine' mod_v ?a ?b ?_; (case a => decide); (case b => decide); k_whole); intro v9 hv9 hw9))
local macro_rules | `(tactic| walk_at "call ref") => `(tactic| (k_here; (with_reducible show wpAny _ _ (call (Value.ref 97) _) _ _ _); (k_dflt (refine' c_root ?B ?F ?X ?N ?T ?hk ?hT ?C ?C2 ?hd ?hu ?a ?b ?_; (case B => k_asm); (case F => k_asm); (case X => k_asm); (case T => k_asm); (case N => k_asm); (case hk => exact rfl); (case hT => first | assumption | exact TabsIn.tail (by assumption) | exact TabsIn.tail (TabsIn.tail (by assumption)) | exact TabsIn.tail (TabsIn.tail (TabsIn.tail (by assumption)))); (case C => assumption); (case C2 => assumption); (case hd => ktr_room); (case hu => ktr_units); (case a => omega); (case b => omega))); intro t9 r9 s9 tq9 tr9 R9 h9 tk9 hr9 hs9 hz9 F9 N9 hE9; k_dflt (have hT9 := hE9.1; have hSq9 := SqAt.next (by first | assumption | exact SqAt.tail (by assumption) | exact SqAt.tail (SqAt.tail (by assumption)) | exact SqAt.tail (SqAt.tail (SqAt.tail (by assumption)))) hE9; have hEF9 := EF.next (by first | assumption | exact EF.tail (by assumption) | exact EF.tail (EF.tail (by assumption)) | exact EF.tail (EF.tail (EF.tail (by assumption)))) hE9; have hm9 := MR.mk hr9; have hra9 := hr9.1; have hrb9 := hr9.two; have hrc9 := root_lid hr9 (by omega); have hrd9 := root_self hr9; (try have hre9 := rootsq_eq hr9 (by assumption) (by assumption)); (try have hrf9 := rootsq1_eq hr9 (by assumption) (by assumption)); (try have hrg9 := root_mulE hr9 (by assumption) (by assumption) (by assumption))); (try dsimp only); (try k_fold); trace "ROOT"))
local macro_rules | `(tactic| walk_at "call ref") => `(tactic| (k_here; (with_reducible show wpAny _ _ (call (Value.ref 90) _) _ _ _); (k_dflt (refine' c_begun ?B ?F ?X ?N ?T ?hk ?hT ?C ?hd ?hu ?a ?b ?_; (case B => k_asm); (case F => k_asm); (case X => k_asm); (case T => k_asm); (case N => k_asm); (case hk => exact rfl); (case hT => first | assumption | exact TabsIn.tail (by assumption) | exact TabsIn.tail (TabsIn.tail (by assumption)) | exact TabsIn.tail (TabsIn.tail (TabsIn.tail (by assumption)))); (case C => assumption); (case hd => ktr_room); (case hu => ktr_units); (case a => omega); (case b => omega))); intro v9 t9 R9 h9 tk9 hv9 F9 N9 hE9; k_dflt (have hT9 := hE9.1; have hSq9 := SqAt.next (by first | assumption | exact SqAt.tail (by assumption) | exact SqAt.tail (SqAt.tail (by assumption)) | exact SqAt.tail (SqAt.tail (SqAt.tail (by assumption)))) hE9; have hEF9 := EF.next (by first | assumption | exact EF.tail (by assumption) | exact EF.tail (EF.tail (by assumption)) | exact EF.tail (EF.tail (EF.tail (by assumption)))) hE9; have hg9 := begun_gt hv9 (by omega) (by assumption)); (try dsimp only); (try k_fold); trace "BEGUN"))
local macro_rules | `(tactic| walk_at "call ref") => `(tactic| (k_here; (with_reducible show wpAny _ _ (call (Value.ref 104) _) _ _ _); (k_dflt (refine' c_third ?B ?F ?X ?N ?T ?hk ?hT ?C ?C2 ?hd ?hu ?a ?b ?_; (case B => k_asm); (case F => k_asm); (case X => k_asm); (case T => k_asm); (case N => k_asm); (case hk => exact rfl); (case hT => first | assumption | exact TabsIn.tail (by assumption) | exact TabsIn.tail (TabsIn.tail (by assumption)) | exact TabsIn.tail (TabsIn.tail (TabsIn.tail (by assumption)))); (case C => assumption); (case C2 => assumption); (case hd => ktr_room); (case hu => ktr_units); (case a => omega); (case b => omega))); intro v9 t9 R9 h9 tk9 hr9 F9 N9 hE9; k_dflt (have hT9 := hE9.1; have hSq9 := SqAt.next (by first | assumption | exact SqAt.tail (by assumption) | exact SqAt.tail (SqAt.tail (by assumption)) | exact SqAt.tail (SqAt.tail (SqAt.tail (by assumption)))) hE9; have hEF9 := EF.next (by first | assumption | exact EF.tail (by assumption) | exact EF.tail (EF.tail (by assumption)) | exact EF.tail (EF.tail (EF.tail (by assumption)))) hE9; have hra9 := hr9.1; have hrb9 := hr9.2.1; have hrc9 := hr9.2.2; have hrd9 := third_lid hr9 (by omega)); (try dsimp only); (try k_fold); trace "THIRD"))
local macro_rules | `(tactic| walk_at "call ref") => `(tactic| (k_here; (with_reducible show wpAny _ _ (call (Value.ref 111) _) _ _ _); (k_dflt (refine' c_fig ?B ?F ?X ?N ?T ?hk ?hT ?C ?hd ?hu ?a ?b ?_; (case B => k_asm); (case F => k_asm); (case X => k_asm); (case T => k_asm); (case N => k_asm); (case hk => exact rfl); (case hT => first | assumption | exact TabsIn.tail (by assumption) | exact TabsIn.tail (TabsIn.tail (by assumption)) | exact TabsIn.tail (TabsIn.tail (TabsIn.tail (by assumption)))); (case C => assumption); (case hd => ktr_room); (case hu => ktr_units); (case a => omega); (case b => omega))); intro v9 t9 R9 h9 tk9 hr9 F9 N9 hE9; k_dflt (have hT9 := hE9.1; have hSq9 := SqAt.next (by first | assumption | exact SqAt.tail (by assumption) | exact SqAt.tail (SqAt.tail (by assumption)) | exact SqAt.tail (SqAt.tail (SqAt.tail (by assumption)))) hE9; have hEF9 := EF.next (by first | assumption | exact EF.tail (by assumption) | exact EF.tail (EF.tail (by assumption)) | exact EF.tail (EF.tail (EF.tail (by assumption)))) hE9; have he9 := MR.eq (by assumption) hr9); (try dsimp only); (try k_fold); trace "FIG"))
local macro_rules | `(tactic| walk_at "call ref") => `(tactic| (k_here; (with_reducible show wpAny _ _ (call (Value.ref 35) _) _ _ _); (k_dflt (refine' c_i2d ?B ?F ?X ?N ?T ?hk ?hT ?C ?hd ?hu ?a ?b ?c ?d ?_; (case B => k_asm); (case F => k_asm); (case X => k_asm); (case T => k_asm); (case N => k_asm); (case hk => exact rfl); (case hT => first | assumption | exact TabsIn.tail (by assumption) | exact TabsIn.tail (TabsIn.tail (by assumption)) | exact TabsIn.tail (TabsIn.tail (TabsIn.tail (by assumption)))); (case C => assumption); (case hd => ktr_room); (case hu => ktr_units); (case a => omega); (case b => omega); (case c => omega); (case d => omega))); intro l9 vs9 nn9 R9 h9 tk9 F9 N9 hE9 hi9; k_dflt (have hT9 := hE9.1; have hSq9 := SqAt.next (by first | assumption | exact SqAt.tail (by assumption) | exact SqAt.tail (SqAt.tail (by assumption)) | exact SqAt.tail (SqAt.tail (SqAt.tail (by assumption)))) hE9; have hEF9 := EF.next (by first | assumption | exact EF.tail (by assumption) | exact EF.tail (EF.tail (by assumption)) | exact EF.tail (EF.tail (EF.tail (by assumption)))) hE9; have hz9 := i2d_size hi9; rw [kOf_one (by omega)] at hz9; have hzb9 := bits30 hz9 (by omega) (by omega)); (try dsimp only); (try k_fold); trace "I2D"))
local macro_rules | `(tactic| walk_at "call ref") => `(tactic| (k_here; (with_reducible show wpAny _ _ (call (Value.ref 65) _) _ _ _); (rename SqAt _ _ _ => hS9; rename News _ _ _ _ => hN9; k_dflt (refine' c_br ?B ?F ?X ?N ?T ?hk ?hd ?hu ?hi ?hl ?hns ?hr ?hx ?_; (case B => k_asm); (case F => k_asm); (case X => k_asm); (case T => k_asm); (case N => (refine' SqAt.front ?sq hN9; (case sq => first | assumption | exact SqAt.tail (by assumption) | exact SqAt.tail (SqAt.tail (by assumption)) | exact SqAt.tail (SqAt.tail (SqAt.tail (by assumption)))))); (case hk => exact rfl); (case hd => ktr_room); (case hu => ktr_units); (case hi => assumption); (case hl => assumption); (case hns => assumption); (case hr => assumption); (case hx => omega))); intro t9 h9 tk9 F9 N9; replace N9 := kst_newsOf N9 (fun _ hp => List.Mem.tail _ hp); (try dsimp only); (try k_fold); trace "BR"))
local macro_rules | `(tactic| walk_at "call ref") => `(tactic| (k_here; (with_reducible show wpAny _ _ (call (Value.ref 74) _) _ _ _); (k_dflt (refine' c_ins ?B ?F ?X ?N ?T ?hk ?hd ?hu ?hi ?hl ?hx ?hR ?_; (case B => k_asm); (case F => k_asm); (case X => k_asm); (case T => k_asm); (case N => k_asm); (case hk => exact rfl); (case hd => ktr_room); (case hu => ktr_units); (case hi => assumption); (case hl => assumption); (case hx => assumption); (case hR => assumption))); intro nn9 h9 tk9 F9 N9; (try dsimp only); (try k_fold); trace "INS"))
local macro_rules | `(tactic| walk_at "exec For Name Subscript cons nil") => `(tactic| (k_here; (rename Fr _ _ _ _ => lF'); (with_unfolding_all refine' For_invVF lF' ?k1 ?k2 ?_; (case k1 => exact rfl); (case k2 => exact rfl); k_whole)))
local macro_rules | `(tactic| walk_at "call builtin:len") => `(tactic| (k_here; (rename EF _ _ => hMk9); (with_reducible show wpAny _ _ (call (Value.builtin "len") [Value.ref _]) _ _ _); k_dflt (refine' len_v ?N ?s ?b ?_; (case N => k_asm); (case s => assumption); (case b => omega); k_whole)))
set_option maxRecDepth 100000 in
set_option maxHeartbeats 4000000 in
theorem PySem.Challenge.cw_hl0004_01_holds : PySem.Challenge.rw_hl0004_01.Holds := by
  refine hd ?_
  w_strict (k_go0)
  rename CodeHd _ (Prod.fst (34, 30)) _ => c30
  have C30 : CodeHd _ 34 30 := c30
  rename CodeHd _ (Prod.fst (41, 37)) _ => c37
  have C37 : CodeHd _ 41 37 := c37
  all_goals try k_fold
  w_strict k_steps
  show wpAny _ _ _ _ _ _
  rename News _ _ _ _ => N9
  rename Fr _ _ _ _ => F9
  rename IsRange _ _ _ _ _ _ _ _ => hR
  k_dflt (refine' sq_use rfl hR F9 N9 ?hm ?hRR ?turn ?done)
  case hm => kst_all
  case hRR => k_all
  case turn =>
    intro ns vs nn k t u h tk own hi hx hk0 hk1 hl hRo F N
    try k_fold
    w_strict k_steps
    rename News _ _ _ _ => NN9
    rename Fr _ _ _ _ => FF9
    dsimp only [SqPost]
    exact SqEnd.intro FF9 NN9 (by kst_all)
  case done =>
    intro vs nn u h tk hi F N
    try k_fold
    w_strict k_steps
    show wpAny _ _ _ _ _ _
    rename News _ _ _ _ => N9
    rename Fr _ _ _ _ => F9
    rename IntsAre _ (List.take _ _) => hi9
    k_dflt (refine' cell_use (vs := vs) (n2 := nn) ?hh ?F ?N hi9 ?hm ?hT ?hq ?turn ?done; (case hh => exact rfl); (case F => exact F9); (case N => exact N9))
    case hm => kst_all
    case hT => exact ⟨⟨#[], by k_mem, .inl rfl⟩, ⟨#[], by k_mem, .inl rfl⟩⟩
    case hq => k_mem
    case turn =>
      intro n t RR h tk u hT hSq F N
      have hEF : EF RR RR := ⟨Evol.refl hT⟩
      try (rename Ground _ _ _ _ _ _ _ _ _ => z9; clear z9)
      try (rename Hook.says _ _ _ => z9; clear z9)
      try (rename Heap.get? _ _ = some _ => z9; clear z9)
      try (rename Heap.CodeRec _ _ _ => z9; clear z9)
      try (rename Shared.gens _ = _ => z9; clear z9)
      try (rename ∀ (P : Addr), P ∈ _ → Heap.get? _ P = _ => z9; clear z9)
      try (rename Flt.MathXP _ _ _ => z9; clear z9)
      try (rename LooseAre _ _ _ => z9; clear z9)
      try (rename Top _ _ _ _ _ (Shared.heap _) => z9; clear z9)
      try (rename Tables _ _ _ _ => z9; clear z9)
      try (rename TopE _ _ _ _ => z9; clear z9)
      try (rename TopW _ _ _ => z9; clear z9)
      try (rename TabsAt _ _ => z9; clear z9)
      try (rename Spec.Shape.has _ _ = true => z9; clear z9)
      try (rename PyData.layableAll0 _ = true => z9; clear z9)
      try (rename PyData.layable0 _ = true => z9; clear z9)
      try (rename WShape.hasAll _ _ _ = true => z9; clear z9)
      try (rename WData.layableAll _ = true => z9; clear z9)
      try (rename Heap.IsList (Shared.heap _) _ _ => z9; clear z9)
      try (rename ReadsAll _ _ _ _ => z9; clear z9)
      try (rename Well _ _ _ _ => z9; clear z9)
      try (rename Reads _ _ _ _ => z9; clear z9)
      try (rename ReadsAllW _ _ _ _ _ _ => z9; clear z9)
      try (rename ¬ _ < _ => z9; clear z9)
      try (rename Dflts _ _ _ => z9; clear z9)
      try (rename _ < Array.size _ ∧ _ => z9; clear z9)
      try (rename Heap.IsList _ _ _ => z9; clear z9)
      try (rename IsRange _ _ _ _ _ _ _ _ => z9; clear z9)
      try (rename IsRange _ _ _ _ _ _ _ _ => z9; clear z9)
      try (rename ∀ (b : Addr) (o : Obj), Heap.get? _ b = some o → Heap.get? _ b = some o => z9; clear z9)
      try (rename ∀ (b : Addr) (o : Obj), Heap.get? _ b = some o → Heap.get? _ b = some o => z9; clear z9)
      try (rename IntsAre _ (List.map _ _) => z9; clear z9)
      try (rename IntsAre _ (List.take _ _) => z9; clear z9)
      try (rename CodeHd _ (Prod.fst _) _ => z9; clear z9)
      try (rename CodeHd _ (Prod.fst _) _ => z9; clear z9)
      try (rename List.length _ = List.length _ => z9; clear z9)
      try (rename _ ≠ _ ∧ _ => z9; clear z9)
      try (rename List.length (List.take _ _) = _ => z9; clear z9)
      try (rename List.length (List.take _ _) ≤ _ => z9; clear z9)
      try (rename lastResort = 0 => z9; clear z9)
      try (rename List.length _ = List.length _ => z9; clear z9)
      obtain ⟨S, hS⟩ : ∃ S, S = sqs := ⟨_, rfl⟩
      have hSl : S.length ≤ 1000 := by rw [hS]; exact sqs_le
      rw [← hS] at hi
      try k_fold
      w_strict k_steps
      any_goals (exfalso; omega)
      all_goals (
        rename News _ _ _ _ => NN9
        rename Fr _ _ _ _ => FF9
        dsimp only [CPost]
        exact CEnd.intro FF9 NN9 (EF.out (by first | assumption | exact EF.tail (by assumption) | exact EF.tail (EF.tail (by assumption)) | exact EF.tail (EF.tail (EF.tail (by assumption))) | exact EF.tail (EF.tail (EF.tail (EF.tail (by assumption)))))) (by kst_all))
    case done =>
      intro RR h tk u hT F N
      obtain ⟨ps30, hp30, _⟩ := hT.1
      obtain ⟨ps37, hp37, _⟩ := hT.2
      try k_fold
      w_strict (iterate 3 first | (k_unfold; (try dsimp only)) | walk1 | (dsimp only; walk1))
      dsimp only
      show _ ∧ _
      refine ⟨?_, ⟨GrownAt.of N hp37, GrownAt.of N hp30, True.intro⟩⟩
      w_strict wrow_close
