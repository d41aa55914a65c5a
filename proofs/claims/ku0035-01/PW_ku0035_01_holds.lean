import PyProof.Rows.All
import Wide.All
import OpenK.AllK
import Wide.FinOn
import PySem.Challenge.RW_ku0035_01
open PySem PySem.W PyProof.Rows
set_option Elab.async false
set_option maxRecDepth 100000
set_option maxHeartbeats 8000000 in
open_top Ku.hd for PySem.Challenge.rw_ku0035_01
namespace KuLaw
open PySem PySem.W PySem.Spec PySem.Calls PyProof.Rows
/-- what a def's contract asks of the place of its call, and what it hands on -/
abbrev KuAt (f : Addr) (news : List (Addr × Obj)) (pre : Prop) (dn : Nat) (vs : List Value) (ret : Heap → Addr → (Str → Option Value) → Shared → (Value → Shared → Prop) → Prop) : Prop :=
  ∀ {w : World} {loose : List Str} {mean : ExcName → Option Value} {mg mb : Str → Option Value} {dp un : Nat} {gd : Option (List Code)} {cn : Str} {cs : Scope} {a : Addr} {ccd : Value} {cl : List (Str × Addr)} {outer : List Env} {A₀ : Around} {base h₀ : Heap} {L : Addr} {m : Str → Option Value} {s : Shared} {Q E : Value → Shared → Prop},
    Below A₀ base outer h₀ → Fr h₀ L s.heap m → (Ku.hd.heap_39 w.params).In h₀ → News h₀ L s.heap news → Top Ku.hd.view_39 loose mean mg mb h₀ → cs.kind = .function → pre → dp + dn < recursionLimit → un + 8 * dn < cLine → ret h₀ L m s Q →
      wpAny (model PySem.Challenge.rw_ku0035_01.row.prog w) (ktrTop dp un gd cn cs L a ccd cl outer) (call (.ref f) vs) Q E s

/-- one value comes back, nothing that was made is kept -/
abbrev kuVal (news : List (Addr × Obj)) (R : Tok → Value) (h₀ : Heap) (L : Addr) (m : Str → Option Value) (s : Shared) (Q : Value → Shared → Prop) : Prop :=
  ∀ (t : Tok) (h' : Heap) (tk' : Nat), Fr h₀ L h' m → News h₀ L h' news → Q (R t) { s with heap := h', toks := tk' }

abbrev kuPairO (x y : Value) (c : Nat) : Obj := { cls := .type "tuple", data := .seq #[x, y] c }
/-- a pair comes back, on top of the ledger -/
abbrev kuPair (news : List (Addr × Obj)) (R1 R2 : Tok → Value) (h₀ : Heap) (L : Addr) (m : Str → Option Value) (s : Shared) (Q : Value → Shared → Prop) : Prop :=
  ∀ (D : Addr) (t1 t2 : Tok) (c : Nat) (h' : Heap) (tk' : Nat), Fr h₀ L h' m → News h₀ L h' ((D, kuPairO (R1 t1) (R2 t2) c) :: news) → AllLt D news → Q (.ref D) { s with heap := h', toks := tk' }

local macro_rules | `(tactic| walk_at "ku_args") => `(tactic| ((case k1 => k_asm); (case k2 => k_asm); (case k3 => k_asm); (case k4 => k_asm); (case k5 => k_asm); (case kK => first | exact rfl | assumption); (case kd => first | ktr_room | omega | fail "ku: room"); (case ku => first | ktr_units | omega | fail "ku: units")))
local macro_rules | `(tactic| walk_at "ku_open") => `(tactic| (w_top off; dsimp only [KuAt, kuVal, kuPair]; k_fill))
local macro_rules | `(tactic| walk_at "ku_enter") => `(tactic| (refine wpAny_call ?_; k_dflt cell_enter))

/-- a mark at which the walk halts -/
def KuStop (P : Prop) : Prop := P
theorem KuStop.on {P : Prop} (h : KuStop P) : P := h
theorem KuStop.off {P : Prop} (h : P) : KuStop P := h
theorem ku_two {m : Str → Option Value} {x1 x2 : Str} {v1 v2 : Value} (h1 : m x1 = some v1) (h2 : m x2 = some v2) : m = fun y => if y = x1 then some v1 else if y = x2 then some v2 else m y := by
  funext y
  split
  · rename_i h
    rw [h, h1]
  · split
    · rename_i h
      rw [h, h2]
    · rfl

theorem ku_pairEnd {h₀ h : Heap} {L D : Addr} {m : Str → Option Value} {news news' : List (Addr × Obj)} {s : Shared} {Q : Value → Shared → Prop} {x y x' y' : Int} {t1 t2 : Tok} {c tk : Nat}
    (hret : kuPair news (fun t => .int x t) (fun t => .int y t) h₀ L m s Q) (ex : x' = x) (ey : y' = y) (F : Fr h₀ L h m) (N : News h₀ L h news') (hm : (D, kuPairO (.int x' t1) (.int y' t2) c) ∈ news') (hs : ∀ p ∈ news, p ∈ news') (hl : AllLt D news) :
    Q (.ref D) { s with heap := h, toks := tk } := by
  subst ex ey
  refine hret D t1 t2 c h tk F (fun p hp => ?_) hl
  rcases List.mem_cons.mp hp with rfl | hp
  · exact N _ hm
  · exact N p (hs p hp)

theorem ku_pairEndV {h₀ h : Heap} {L D : Addr} {m : Str → Option Value} {news news' : List (Addr × Obj)} {s : Shared} {Q : Value → Shared → Prop} {R1 R2 : Tok → Value} {v1 v2 : Value} {c tk : Nat}
    (hret : kuPair news R1 R2 h₀ L m s Q) (ex : ∃ t, v1 = R1 t) (ey : ∃ t, v2 = R2 t) (F : Fr h₀ L h m) (N : News h₀ L h news') (hm : (D, kuPairO v1 v2 c) ∈ news') (hs : ∀ p ∈ news, p ∈ news') (hl : AllLt D news) :
    Q (.ref D) { s with heap := h, toks := tk } := by
  obtain ⟨t1, rfl⟩ := ex
  obtain ⟨t2, rfl⟩ := ey
  refine hret D t1 t2 c h tk F (fun p hp => ?_) hl
  rcases List.mem_cons.mp hp with rfl | hp
  · exact N _ hm
  · exact N p (hs p hp)
/-- a mark that is spent at the first halt -/
structure KuGate : Prop where

theorem ku_list {K : Frag} {h : Heap} {l : Addr} {vs : Array Value} {o : Obj} (X : K.In h) (e : K.lookup l = some o) (hc : o.cls = .type "list") (hd : ∃ n, o.data = .seq vs n) : h.IsList l vs := ⟨o, X _ _ e, hc, hd⟩

theorem ku_item {prog : Program} {w : World} {A : Around} {E : Value → Shared → Prop} {s : Shared} {value slice : PySem.Expr} {l : Addr} {vs : List Value} {k : Int} {u : Tok} {v : Value} {Q : Value → Shared → Prop}
    (hl : s.heap.IsList l vs.toArray) (h0 : 0 ≤ k) (hhi : k < 2 ^ 63) (hx : vs[k.toNat]? = some v) (h : Q v s)
    (hs : subscripted slice false (.ref l) (.int k u) = operate [.ref l, .int k u] (getItem (.ref l) (.int k u)) := by with_unfolding_all rfl) :
    wpAny (model prog w) A (subscriptTail value slice (.ref l) (.int k u)) Q E s :=
  tail_any hl.typeIs slot_list_getitem.lookup (wpAny_getItem_list hl h0 hhi (by simpa using hx) h) hs

def kuDby (year : Int) : Int := (year - 1) * 365 + (year - 1).fdiv 4 - (year - 1).fdiv 100 + (year - 1).fdiv 400
def kuLeap (year : Int) : Bool := (year.fmod 4 == 0) && ((year.fmod 100 != 0) || (year.fmod 400 == 0))
def kuDbmV : List Value := [Value.int (-1) 335, Value.int 0 337, Value.int 31 341, Value.int 59 344, Value.int 90 347,
              Value.int 120 350, Value.int 151 353, Value.int 181 356, Value.int 212 359, Value.int 243 362,
              Value.int 273 365, Value.int 304 368, Value.int 334 371]
def kuDbmT : List Int := [0, 31, 59, 90, 120, 151, 181, 212, 243, 273, 304, 334]
def kuDbm (y m : Int) : Int := kuDbmT.getD (m - 1).toNat 0 + (if 2 < m ∧ kuLeap y = true then 1 else 0)

set_option maxHeartbeats 4000000 in
theorem ku_dby {news : List (Addr × Obj)} {y : Int} {t : Tok} : KuAt 66 news True 1 [.int y t] (kuVal news fun t => .int (kuDby y) t) := by
  walk_at "ku_open"
  intro w loose mean mg mb dp un gd cn cs a ccd cl outer A₀ base h₀ L m₀ s Q E kuB kuF kuX kuN kuT hk hpre hdn hun hret
  walk_at "ku_enter"
  k_steps
  exact hret _ _ _ (by k_asm) (by k_asm)

set_option maxHeartbeats 4000000 in
theorem ku_leap {news : List (Addr × Obj)} {y : Int} {t : Tok} : KuAt 59 news True 1 [.int y t] (kuVal news fun _ => .bool (kuLeap y)) := by
  walk_at "ku_open"
  intro w loose mean mg mb dp un gd cn cs a ccd cl outer A₀ base h₀ L m₀ s Q E kuB kuF kuX kuN kuT hk hpre hdn hun hret
  walk_at "ku_enter"
  k_steps
  all_goals (refine cb_retB hret ?_ (by k_asm) (by k_asm))
  all_goals (unfold kuLeap; simp_all)

theorem ku_dbmItem {m : Int} (h : 1 ≤ m ∧ m ≤ 12) : ∃ t, kuDbmV[m.toNat]? = some (.int (kuDbmT.getD (m - 1).toNat 0) t) := by
  have : m = 1 ∨ m = 2 ∨ m = 3 ∨ m = 4 ∨ m = 5 ∨ m = 6 ∨ m = 7 ∨ m = 8 ∨ m = 9 ∨ m = 10 ∨ m = 11 ∨ m = 12 := by omega
  rcases this with rfl | rfl | rfl | rfl | rfl | rfl | rfl | rfl | rfl | rfl | rfl | rfl <;> exact ⟨_, rfl⟩

local macro_rules | `(tactic| walk_at "call ref") => `(tactic| (k_here; k_dflt (refine' ku_leap ?k1 ?k2 ?k3 ?k4 ?k5 ?kK trivial ?kd ?ku ?_; walk_at "ku_args"); intro t9 h9 tk9 F9 N9; (try dsimp only); (try k_fold)))

set_option maxHeartbeats 4000000 in
theorem ku_dbm {news : List (Addr × Obj)} {y m : Int} {t t' : Tok} : KuAt 73 news (1 ≤ m ∧ m ≤ 12) 2 [.int y t, .int m t'] (kuVal news fun t => .int (kuDbm y m) t) := by
  walk_at "ku_open"
  intro w loose mean mg mb dp un gd cn cs a ccd cl outer A₀ base h₀ L m₀ s Q E kuB kuF kuX kuN kuT hk hpre hdn hun hret
  walk_at "ku_enter"
  k_steps
  obtain ⟨tm, hi⟩ := ku_dbmItem hpre
  refine ku_item (vs := kuDbmV) ?_ (by omega) (by omega) hi ?_
  · refine' ku_list ?X ?e ?c ?d
    case X => k_in
    case e => k_is
    case c => rfl
    case d => exact ⟨_, rfl⟩
  dsimp only
  k_steps
  all_goals (refine cb_retI hret ?_ (by k_asm) (by k_asm))
  all_goals (unfold kuDbm; by_cases hm2 : 2 < m <;> by_cases hl : kuLeap y = true <;> simp_all <;> omega)

local macro_rules | `(tactic| walk_at "call ref") => `(tactic| (k_here; k_dflt (refine' ku_dby ?k1 ?k2 ?k3 ?k4 ?k5 ?kK trivial ?kd ?ku ?_; walk_at "ku_args"); intro t9 h9 tk9 F9 N9; (try dsimp only); (try k_fold)))

/-- a loop over range(n) that turns one int name and forgets others -/
theorem ku_forRange {prog : Program} {w : World} {A : Around} {E : Value → Shared → Prop} {s : Shared} {env : Env} {h₀ : Heap} {L : Addr} {x : Str} {body : List Stmt} {Q : Flow → Shared → Prop} {r : Addr} {b₀ : Int} {t₀ u₀ v₀ : Tok} {m₀ : Str → Option Value} {news : List (Addr × Obj)} (y : Str) (S : List Str) (n : Nat) {c₀ : Int} {tc : Tok} (g : Int → Int → Int) (hL : env.locals = L)
    (hh : A.handled = none) (hr : IsRange s.heap r 0 b₀ 1 t₀ u₀ v₀) (hsmall : Builtin.Range.small 0 b₀ 1 = true) (hn : Builtin.Range.rangeSize 0 b₀ 1 = (n : Int)) (F : Fr h₀ L s.heap m₀) (N : News h₀ L s.heap news) (hy : m₀ y = some (.int c₀ tc))
    (turn : ∀ k t a ta (u : Str → Option Value) h tk own, 0 ≤ k ∧ k < (n : Int) → OwnOff own (news.map (·.1)) → Fr h₀ L h (fun z => if z = x then some (.int k t) else if z = y then some (.int a ta) else if S.contains z = true then u z else m₀ z) → News h₀ L h (news ++ own) →
      wpAny (model prog w) A (execs body env) (InvPostN h₀ L (fun m' nx => nx = news ∧ (∃ t', m' y = some (.int (g a k) t')) ∧ ∀ z, z ≠ x → z ≠ y → S.contains z = false → m' z = m₀ z) own (news.map (·.1)) { s with heap := h, toks := tk } Q) E { s with heap := h, toks := tk })
    (done : ∀ (u : Str → Option Value) t h tk, Fr h₀ L h (fun z => if z = x then u z else if z = y then some (.int ((rangeKs 0 n).foldl g c₀) t) else if S.contains z = true then u z else m₀ z) → News h₀ L h news → Q .next { s with heap := h, toks := tk }) :
    wpAny (model prog w) A (pyIter (.ref r)) (fun it s₂ => LoopAtV prog w A h₀ env x body Q E it s₂) E s := by
  subst hL
  refine iter_rangeS (fun a m nx => nx = news ∧ (∃ t, m y = some (.int a t)) ∧ ∀ z, z ≠ x → z ≠ y → S.contains z = false → m z = m₀ z) g c₀ hh hr hsmall hn F N ⟨rfl, ⟨tc, hy⟩, fun _ _ _ _ => rfl⟩ ?_ ?_
  · rintro k t a m₁ nx h tk own hk hoff ⟨rfl, ⟨ta, ha⟩, hm⟩ F₁ N₁
    have e : (fun z => if z = x then some (Value.int k t) else m₁ z) = fun z => if z = x then some (Value.int k t) else if z = y then some (.int a ta) else if S.contains z = true then m₁ z else m₀ z := by
      funext z
      split
      · rfl
      · rename_i hx
        split
        · rename_i hy; rw [hy, ha]
        · rename_i hy
          split
          · rfl
          · rename_i hs; exact hm z hx hy (by simpa using hs)
    rw [e] at F₁
    have hk' := mem_rangeKs hk
    exact turn k t a ta m₁ h tk own ⟨hk'.1, by omega⟩ hoff F₁ N₁
  · rintro m₁ nx h tk ⟨rfl, ⟨t, ha⟩, hm⟩ F₁ N₁
    refine done m₁ t h tk ?_ N₁
    have e : m₁ = fun z => if z = x then m₁ z else if z = y then some (.int ((rangeKs 0 n).foldl g c₀) t) else if S.contains z = true then m₁ z else m₀ z := by
      funext z
      split
      · rfl
      · rename_i hx
        split
        · rename_i hy; rw [hy, ha]
        · rename_i hy
          split
          · rfl
          · rename_i hs; exact hm z hx hy (by simpa using hs)
    rw [← e]
    exact F₁
/-! the division's arithmetic, with no program in sight -/
theorem kd9_pow (k : Nat) : (0 : Int) < 2 ^ k := kbt_pos k
theorem kd9_add (j k : Nat) : (2 : Int) ^ (j + k) = 2 ^ j * 2 ^ k := Int.pow_add 2 j k
theorem kd9_succ (k : Nat) : (2 : Int) ^ (k + 1) = 2 * 2 ^ k := by rw [Int.pow_succ, Int.mul_comm]
theorem kd9_mask (x : Int) (k : Nat) : Builtin.bitAnd x (1 * 2 ^ k - 1) = x % 2 ^ k := by rw [Int.one_mul, kbt_mask]
theorem kd9_fdiv (x : Int) (k : Nat) : x.fdiv (2 ^ k) = x / 2 ^ k := Int.fdiv_eq_ediv_of_nonneg x (Int.le_of_lt (kd9_pow k))
theorem kd9_bitOr {x y : Int} {k : Nat} (hx : 0 ≤ x) (hy : 0 ≤ y) (hk : y < 2 ^ k) : Builtin.bitOr (x * 2 ^ k) y = x * 2 ^ k + y := by
  obtain ⟨a, rfl⟩ := Int.eq_ofNat_of_zero_le hx
  obtain ⟨b, rfl⟩ := Int.eq_ofNat_of_zero_le hy
  have hb : b < 2 ^ k := by have := kbt_cast k; omega
  have e : ((a : Int) * 2 ^ k) = ((a * 2 ^ k : Nat) : Int) := by rw [Int.natCast_mul, kbt_cast]
  rw [e]
  have h := Nat.shiftLeft_add_eq_or_of_lt hb a
  rw [Nat.shiftLeft_eq] at h
  unfold Builtin.bitOr Builtin.bitAnd Builtin.bitNot
  have d1 : decide (0 ≤ -((a * 2 ^ k : Nat) : Int) - 1) = false := decide_eq_false (by omega)
  have d2 : decide (0 ≤ -(b : Int) - 1) = false := decide_eq_false (by omega)
  rw [d1, d2]
  have e1 : (-(-((a * 2 ^ k : Nat) : Int) - 1) - 1).toNat = a * 2 ^ k := by omega
  have e2 : (-(-(b : Int) - 1) - 1).toNat = b := by omega
  dsimp only
  rw [e1, e2, ← h]
  omega

/-- a's halves of H signs each: the two steps of the division -/
theorem kd9_top {a b : Int} {H : Nat} (h0 : 0 ≤ a) (h1 : a < b * (2 ^ H * 2 ^ H)) : 0 ≤ a / (2 ^ H * 2 ^ H) ∧ a / (2 ^ H * 2 ^ H) < b := by
  have hp := Int.mul_pos (kd9_pow H) (kd9_pow H)
  exact ⟨Int.ediv_nonneg h0 (Int.le_of_lt hp), Int.ediv_lt_of_lt_mul hp h1⟩
theorem kd9_join (a : Int) (H : Nat) : a / (2 ^ H * 2 ^ H) * 2 ^ H + a / 2 ^ H % 2 ^ H = a / 2 ^ H := by
  rw [← Int.ediv_ediv_of_nonneg (Int.le_of_lt (kd9_pow H)), Int.mul_comm]
  exact Int.mul_ediv_add_emod _ _
theorem kd9_rest {r b x : Int} {H : Nat} (h0 : 0 ≤ r) (h1 : r < b) (hx : 0 ≤ x) (hx1 : x < 2 ^ H) : 0 ≤ r * 2 ^ H + x ∧ r * 2 ^ H + x < b * 2 ^ H := by
  have hp := kd9_pow H
  have m0 := Int.mul_nonneg h0 (Int.le_of_lt hp)
  have m1 : (r + 1) * 2 ^ H ≤ b * 2 ^ H := Int.mul_le_mul_of_nonneg_right (by omega) (Int.le_of_lt hp)
  rw [Int.add_mul, Int.one_mul] at m1
  omega
theorem kd9_quot {y b : Int} {H : Nat} (hb : 0 < b) (h0 : 0 ≤ y) (h1 : y < b * 2 ^ H) : 0 ≤ y / b ∧ y / b < 2 ^ H :=
  ⟨Int.ediv_nonneg h0 (Int.le_of_lt hb), Int.ediv_lt_of_lt_mul hb (by rw [Int.mul_comm]; exact h1)⟩
theorem kd9_whole {a b : Int} {H : Nat} (hb : 0 < b) : a / b = (a / 2 ^ H) / b * 2 ^ H + ((a / 2 ^ H) % b * 2 ^ H + a % 2 ^ H) / b ∧ a % b = ((a / 2 ^ H) % b * 2 ^ H + a % 2 ^ H) % b := by
  have e1 := Int.mul_ediv_add_emod a (2 ^ H)
  have e2 := Int.mul_ediv_add_emod (a / 2 ^ H) b
  have e3 := Int.mul_ediv_add_emod ((a / 2 ^ H) % b * 2 ^ H + a % 2 ^ H) b
  refine kbt_unique hb ?_ (Int.emod_nonneg _ (by omega)) (Int.emod_lt_of_pos _ hb)
  generalize hX : (a / 2 ^ H) % b * 2 ^ H + a % 2 ^ H = X at e3 ⊢
  rw [Int.mul_add, Int.add_left_comm, Int.add_comm (X % b), e3, ← hX, ← Int.mul_assoc, ← Int.add_assoc, ← Int.add_mul, e2, Int.mul_comm]
  exact e1
theorem kd9_tops {b : Int} {H : Nat} (hH : 1 ≤ H) (h0 : 2 ^ (H + H - 1) ≤ b) (h1 : b < 2 ^ (H + H)) : 2 ^ (H - 1) ≤ b / 2 ^ H ∧ b / 2 ^ H < 2 ^ H := by
  have hp := kd9_pow H
  rw [kd9_add] at h1
  rw [show H + H - 1 = (H - 1) + H by omega, kd9_add] at h0
  exact ⟨Int.le_ediv_of_mul_le hp h0, Int.ediv_lt_of_lt_mul hp h1⟩
theorem kd9_bits {x : Int} {k : Nat} (h0 : 0 ≤ x) (h1 : x < 2 ^ k) : Builtin.Int.intBits x ≤ k := by
  refine PySem.intBits_le_iff.mpr ?_
  have := kbt_cast k
  omega
/-- what _div2n1n asks: a width n, b of just that width, a quotient that fits -/
def KuDiv (a b n : Int) : Prop := 1 ≤ n ∧ 0 ≤ a ∧ a < b * 2 ^ n.toNat ∧ 2 ^ (n.toNat - 1) ≤ b ∧ b < 2 ^ n.toNat
abbrev KuD2 (k : Nat) : Prop := ∀ {news : List (Addr × Obj)} {a b n q r : Int} {ta tb tn : Tok}, KuAt 38 news (KuDiv a b n ∧ n ≤ 4000 * 2 ^ k ∧ q = a / b ∧ r = a % b) (2 * k + 1) [.int a ta, .int b tb, .int n tn] (kuPair news (fun t => .int q t) (fun t => .int r t))
def KuDiv3 (a12 a3 b b1 b2 n : Int) : Prop := 1 ≤ n ∧ 0 ≤ a12 ∧ a12 < b ∧ 0 ≤ a3 ∧ a3 < 2 ^ n.toNat ∧ b = b1 * 2 ^ n.toNat + b2 ∧ 0 ≤ b2 ∧ b2 < 2 ^ n.toNat ∧ 2 ^ (n.toNat - 1) ≤ b1 ∧ b1 < 2 ^ n.toNat
abbrev KuD3 (k : Nat) : Prop := ∀ {news : List (Addr × Obj)} {a12 a3 b b1 b2 n q r : Int} {t1 t2 t3 t4 t5 t6 : Tok}, KuAt 45 news (KuDiv3 a12 a3 b b1 b2 n ∧ n ≤ 4000 * 2 ^ k ∧ q = (a12 * 2 ^ n.toNat + a3) / b ∧ r = (a12 * 2 ^ n.toNat + a3) % b) (2 * k + 2) [.int a12 t1, .int a3 t2, .int b t3, .int b1 t4, .int b2 t5, .int n t6] (kuPair news (fun t => .int q t) (fun t => .int r t))

theorem kd9_lim {n : Int} {k : Nat} (hk : k ≤ 8) (h : n ≤ 4000 * 2 ^ k) : n ≤ 1024000 := by
  have : (2 : Int) ^ k ≤ 2 ^ 8 := by
    rw [show 8 = (8 - k) + k by omega, kd9_add]
    have h1 := kd9_pow (8 - k)
    have h2 := kd9_pow k
    have := Int.mul_le_mul_of_nonneg_right (a := 1) (b := 2 ^ (8 - k)) (c := 2 ^ k) (by omega) (by omega)
    omega
  omega
theorem kd9_twice {n : Int} (h : n % 2 = 0) (hn : 1 ≤ n) : n.toNat = (n.fdiv (2 ^ Int.toNat 1)).toNat + (n.fdiv (2 ^ Int.toNat 1)).toNat ∧ 1 ≤ (n.fdiv (2 ^ Int.toNat 1)).toNat ∧ 1 ≤ n.fdiv (2 ^ Int.toNat 1) := by
  rw [kd9_fdiv, show (2 : Int) ^ Int.toNat 1 = 2 from rfl]
  omega
theorem kd9_div0 {a b n : Int} (h : KuDiv a b n) : 0 < b := Int.lt_of_lt_of_le (kd9_pow _) h.2.2.2.1
theorem kd9_divBits {a b n : Int} (h : KuDiv a b n) : Builtin.Int.intBits a ≤ n.toNat + n.toNat ∧ Builtin.Int.intBits b ≤ n.toNat := by
  obtain ⟨h1, h2, h3, h4, h5⟩ := h
  have hb : 0 < b := Int.lt_of_lt_of_le (kd9_pow _) h4
  refine ⟨kd9_bits h2 ?_, kd9_bits (Int.le_of_lt hb) h5⟩
  rw [kd9_add]
  exact Int.lt_of_lt_of_le h3 (Int.mul_le_mul_of_nonneg_right (Int.le_of_lt h5) (Int.le_of_lt (kd9_pow _)))

theorem kd9_digits {x : Int} (hx : x ≠ 0) : (if x == 0 then 0 else x.natAbs.log2 / 30 + 1) = (Builtin.Int.intBits x - 1) / 30 + 1 := by
  unfold Builtin.Int.intBits
  rw [if_neg (by simpa using hx), if_neg (by simpa using hx)]
  rfl
theorem kd9_noPylong {a b n : Int} (h : KuDiv a b n) (hl : (Builtin.Int.intBits a : Int) - n ≤ 4000) : Builtin.divisionGoesByPylong a b = false := by
  have hb := kd9_div0 h
  obtain ⟨h1, h2, h3, h4, h5⟩ := h
  have hbb : n.toNat ≤ Builtin.Int.intBits b := by
    unfold Builtin.Int.intBits
    rw [if_neg (by simpa using (show b ≠ 0 by omega))]
    have : n.toNat - 1 ≤ b.natAbs.log2 := (Nat.le_log2 (by omega)).mpr (by have := kbt_cast (n.toNat - 1); omega)
    omega
  unfold Builtin.divisionGoesByPylong
  by_cases ha : a = 0
  · subst ha
    simp
  · dsimp only
    refine Bool.and_eq_false_iff.mpr (Or.inr (decide_eq_false ?_))
    rw [kd9_digits ha, kd9_digits (show b ≠ 0 by omega)]
    omega

section
local macro_rules | `(tactic| walk_at "binaryOp LShift int int") => `(tactic| (k_here; refine lshift_int (by first | assumption | omega) (by first | assumption | omega) ?_))
local macro_rules | `(tactic| walk_at "inplaceOp LShift int int") => `(tactic| (k_here; refine ilshift_int (by first | assumption | omega) (by first | assumption | omega) ?_))

/-- the half of an even width, as the walk writes it -/
abbrev kuHalf (n : Int) : Int := n.fdiv (2 ^ Int.toNat 1)
abbrev kuMask (x h : Int) : Int := Builtin.bitAnd x (1 * 2 ^ h.toNat - 1)
theorem kd9_big {a b n : Int} {k : Nat} (h : KuDiv a b n) (hl : ¬ (Builtin.Int.intBits a : Int) - n ≤ 4000) (hk : n ≤ 4000 * 2 ^ k) : ∃ j, k = j + 1 := by
  have hb := (kd9_divBits h).1
  have h1 := h.1
  cases k with
  | zero => rw [show (2 : Int) ^ 0 = 1 from rfl] at hk; omega
  | succ j => exact ⟨j, rfl⟩
theorem kd9_room {n : Int} {j : Nat} (he : n % 2 = 0) (hj : n ≤ 4000 * 2 ^ (j + 1)) : kuHalf n ≤ 4000 * 2 ^ j := by
  rw [kd9_succ] at hj
  show n.fdiv (2 ^ Int.toNat 1) ≤ _
  rw [kd9_fdiv, show (2 : Int) ^ Int.toNat 1 = 2 from rfl]
  omega
theorem kd9_roomP {n : Int} {j : Nat} (he : (n + 1) % 2 = 0) (hj : n ≤ 4000 * 2 ^ (j + 1)) : kuHalf (n + 1) ≤ 4000 * 2 ^ j := by
  rw [kd9_succ] at hj
  show (n + 1).fdiv (2 ^ Int.toNat 1) ≤ _
  rw [kd9_fdiv, show (2 : Int) ^ Int.toNat 1 = 2 from rfl]
  omega
theorem kd9_pre1 {a b n M : Int} (h : KuDiv a b n) (he : n % 2 = 0) (hM : kuHalf n ≤ M) :
    KuDiv3 (a.fdiv (2 ^ n.toNat)) (kuMask (a.fdiv (2 ^ (kuHalf n).toNat)) (kuHalf n)) b (b.fdiv (2 ^ (kuHalf n).toNat)) (kuMask b (kuHalf n)) (kuHalf n) ∧ kuHalf n ≤ M ∧
    (a / 2 ^ (kuHalf n).toNat) / b = (a.fdiv (2 ^ n.toNat) * 2 ^ (kuHalf n).toNat + kuMask (a.fdiv (2 ^ (kuHalf n).toNat)) (kuHalf n)) / b ∧
    (a / 2 ^ (kuHalf n).toNat) % b = (a.fdiv (2 ^ n.toNat) * 2 ^ (kuHalf n).toNat + kuMask (a.fdiv (2 ^ (kuHalf n).toNat)) (kuHalf n)) % b := by
  have hb := kd9_div0 h
  obtain ⟨h1, h2, h3, h4, h5⟩ := h
  obtain ⟨e, hH, hh⟩ := kd9_twice he h1
  unfold kuHalf kuMask at *
  generalize n.fdiv (2 ^ Int.toNat 1) = g at *
  rw [e] at h3 h4 h5 ⊢
  rw [kd9_mask, kd9_mask, kd9_fdiv, kd9_fdiv, kd9_fdiv, kd9_add]
  rw [kd9_add] at h3
  rw [kd9_join]
  have t := kd9_top h2 h3
  have u := kd9_tops hH h4 h5
  have hp := kd9_pow g.toNat
  refine ⟨⟨hh, t.1, t.2, Int.emod_nonneg _ (by omega), Int.emod_lt_of_pos _ hp, ?_, Int.emod_nonneg _ (by omega), Int.emod_lt_of_pos _ hp, u.1, u.2⟩, hM, rfl, rfl⟩
  rw [Int.mul_comm]
  exact (Int.mul_ediv_add_emod b _).symm
theorem kd9_pre2 {a b n M : Int} (h : KuDiv a b n) (he : n % 2 = 0) (hM : kuHalf n ≤ M) :
    KuDiv3 ((a / 2 ^ (kuHalf n).toNat) % b) (kuMask a (kuHalf n)) b (b.fdiv (2 ^ (kuHalf n).toNat)) (kuMask b (kuHalf n)) (kuHalf n) ∧ kuHalf n ≤ M ∧
    ((a / 2 ^ (kuHalf n).toNat) % b * 2 ^ (kuHalf n).toNat + a % 2 ^ (kuHalf n).toNat) / b = ((a / 2 ^ (kuHalf n).toNat) % b * 2 ^ (kuHalf n).toNat + kuMask a (kuHalf n)) / b ∧
    a % b = ((a / 2 ^ (kuHalf n).toNat) % b * 2 ^ (kuHalf n).toNat + kuMask a (kuHalf n)) % b := by
  have hb := kd9_div0 h
  obtain ⟨h1, h2, h3, h4, h5⟩ := h
  obtain ⟨e, hH, hh⟩ := kd9_twice he h1
  unfold kuHalf kuMask at *
  generalize n.fdiv (2 ^ Int.toNat 1) = g at *
  rw [e] at h3 h4 h5
  rw [kd9_mask, kd9_mask, kd9_fdiv]
  have u := kd9_tops hH h4 h5
  have hp := kd9_pow g.toNat
  refine ⟨⟨hh, Int.emod_nonneg _ (by omega), Int.emod_lt_of_pos _ hb, Int.emod_nonneg _ (by omega), Int.emod_lt_of_pos _ hp, ?_, Int.emod_nonneg _ (by omega), Int.emod_lt_of_pos _ hp, u.1, u.2⟩, hM, rfl, (kd9_whole hb).2⟩
  rw [Int.mul_comm]
  exact (Int.mul_ediv_add_emod b _).symm
theorem kd9_fin {a b n : Int} (h : KuDiv a b n) (he : n % 2 = 0) :
    Builtin.bitOr ((a / 2 ^ (kuHalf n).toNat) / b * 2 ^ (kuHalf n).toNat) (((a / 2 ^ (kuHalf n).toNat) % b * 2 ^ (kuHalf n).toNat + a % 2 ^ (kuHalf n).toNat) / b) = a / b ∧
    (Builtin.Int.intBits ((a / 2 ^ (kuHalf n).toNat) / b) : Int) + kuHalf n ≤ n + n := by
  have hb := kd9_div0 h
  obtain ⟨h1, h2, h3, h4, h5⟩ := h
  obtain ⟨e, hH, hh⟩ := kd9_twice he h1
  unfold kuHalf at *
  generalize n.fdiv (2 ^ Int.toNat 1) = g at *
  rw [e, kd9_add] at h3
  have hp := kd9_pow g.toNat
  have y0 : 0 ≤ a / 2 ^ g.toNat := Int.ediv_nonneg h2 (by omega)
  have y1 : a / 2 ^ g.toNat < b * 2 ^ g.toNat := Int.ediv_lt_of_lt_mul hp (by rw [Int.mul_assoc]; exact h3)
  have q1 := kd9_quot hb y0 y1
  have x1 := kd9_rest (H := g.toNat) (Int.emod_nonneg (a / 2 ^ g.toNat) (show b ≠ 0 by omega)) (Int.emod_lt_of_pos _ hb) (Int.emod_nonneg a (show (2 : Int) ^ g.toNat ≠ 0 by omega)) (Int.emod_lt_of_pos _ hp)
  have q2 := kd9_quot hb x1.1 x1.2
  rw [kd9_bitOr q1.1 q2.1 q2.2]
  refine ⟨(kd9_whole hb).1.symm, ?_⟩
  have := kd9_bits q1.1 q1.2
  omega
theorem kd9_pad {a b n : Int} (h : KuDiv a b n) : KuDiv (a * 2 ^ Int.toNat 1) (b * 2 ^ Int.toNat 1) (n + 1) := by
  obtain ⟨h1, h2, h3, h4, h5⟩ := h
  rw [show (2 : Int) ^ Int.toNat 1 = 2 from rfl]
  have hb : 0 < b := Int.lt_of_lt_of_le (kd9_pow _) h4
  have e1 : (n + 1).toNat = n.toNat + 1 := by omega
  have e2 : (n.toNat + 1) - 1 = (n.toNat - 1) + 1 := by omega
  refine ⟨by omega, by omega, ?_, ?_, ?_⟩
  · rw [e1, kd9_succ]
    have : b * 2 * (2 * 2 ^ n.toNat) = (b * 2 ^ n.toNat) * 4 := by
      rw [Int.mul_assoc, ← Int.mul_assoc 2 2, Int.mul_comm (2 * 2) _, ← Int.mul_assoc]; rfl
    omega
  · rw [e1, e2, kd9_succ]; omega
  · rw [e1, kd9_succ]; omega
theorem kd9_unpad {a b : Int} (hb : 0 < b) : (a * 2 ^ Int.toNat 1) / (b * 2 ^ Int.toNat 1) = a / b ∧ ((a * 2 ^ Int.toNat 1) % (b * 2 ^ Int.toNat 1)).fdiv (2 ^ Int.toNat 1) = a % b := by
  rw [kd9_fdiv, show (2 : Int) ^ Int.toNat 1 = 2 from rfl]
  refine ⟨Int.mul_ediv_mul_of_pos_left _ _ (by decide), ?_⟩
  rw [Int.mul_comm a, Int.mul_comm b, Int.mul_emod_mul_of_pos _ _ (by decide)]
  exact Int.mul_ediv_cancel_left _ (by decide)

set_option maxHeartbeats 4000000 in
theorem ku_div2_step (k : Nat) (hk8 : k ≤ 8) (H : ∀ j, j + 1 = k → KuD3 j) : KuD2 k := by
  intro news a b n q r ta tb tn
  walk_at "ku_open"
  intro w loose mean mg mb dp un gd cn cs a₀ ccd cl outer A₀ base h₀ L m₀ s Q E kuB kuF kuX kuN kuT hk hpre hdn hun hret
  obtain ⟨hD, hnk, hq, hr⟩ := hpre
  have hb0 : b ≠ 0 := by have := kd9_div0 hD; omega
  have hn1 : 1 ≤ n := hD.1
  have hlim := kd9_lim hk8 hnk
  have hf1 : 0 ≤ n.fdiv (2 ^ Int.toNat 1) := by rw [kd9_fdiv, show (2 : Int) ^ Int.toNat 1 = 2 from rfl]; omega
  have hf2 : 0 ≤ (n + 1).fdiv (2 ^ Int.toNat 1) := by rw [kd9_fdiv, show (2 : Int) ^ Int.toNat 1 = 2 from rfl]; omega
  have hsA : (Builtin.Int.intBits a : Int) + 1 ≤ 2 ^ 27 := by have := (kd9_divBits hD).1; omega
  have hsB : (Builtin.Int.intBits b : Int) + 1 ≤ 2 ^ 27 := by have := (kd9_divBits hD).2; omega
  have hs1 : (Builtin.Int.intBits 1 : Int) + n.fdiv (2 ^ Int.toNat 1) ≤ 2 ^ 27 := by
    rw [show Builtin.Int.intBits 1 = 1 by decide, kd9_fdiv, show (2 : Int) ^ Int.toNat 1 = 2 from rfl]; omega
  have hs2 : (Builtin.Int.intBits 1 : Int) + (n + 1).fdiv (2 ^ Int.toNat 1) ≤ 2 ^ 27 := by
    rw [show Builtin.Int.intBits 1 = 1 by decide, kd9_fdiv, show (2 : Int) ^ Int.toNat 1 = 2 from rfl]; omega
  walk_at "ku_enter"
  k_steps
  · refine divmod_N (by k_asm) (by k_asm) hb0 ?_ (Or.inl (kd9_noPylong hD (by assumption)))
    intro h9 F9 N9
    dsimp only
    k_steps
    subst hq hr
    rw [Int.fdiv_eq_ediv_of_nonneg _ (Int.le_of_lt (kd9_div0 hD)), Int.fmod_eq_emod_of_nonneg _ (Int.le_of_lt (kd9_div0 hD))] at *
    exact hret _ _ _ _ _ _ (by k_asm) (by k_asm) (allLt_of fun p hp => Heap.lt_size ((by k_asm : News _ _ _ news) p hp).1)
  · have he : (n + 1) % 2 = 0 := by
      have hx : Builtin.bitAnd n 1 ≠ 0 := by assumption
      rw [bitAnd_m1] at hx
      omega
    obtain ⟨j, rfl⟩ := kd9_big hD (by assumption) hnk
    have hD2 := kd9_pad hD
    have hM := kd9_roomP he hnk
    have hfin := kd9_fin hD2 he
    have hs3 := hfin.2
    have hs4 : (Builtin.Int.intBits ((a * 2 ^ Int.toNat 1 / 2 ^ ((n + 1).fdiv (2 ^ Int.toNat 1)).toNat) / (b * 2 ^ Int.toNat 1)) : Int) + (n + 1).fdiv (2 ^ Int.toNat 1) ≤ 2 ^ 27 := by
      have := hfin.2; unfold kuHalf at this; omega
    clear hs3
    refine' H j rfl ?k1 ?k2 ?k3 ?k4 ?k5 ?kK (kd9_pre1 hD2 he hM) ?kd ?ku ?_
    walk_at "ku_args"
    intro D1 u1 u2 c1 h1 tk1 F1 N1 l1
    (try dsimp only)
    (try k_fold)
    k_steps
    refine' H j rfl ?k1 ?k2 ?k3 ?k4 ?k5 ?kK (kd9_pre2 hD2 he hM) ?kd ?ku ?_
    walk_at "ku_args"
    intro D2 v1 v2 c2 h2 tk2 F2 N2 l2
    (try dsimp only)
    (try k_fold)
    k_steps
    all_goals first
      | exact absurd ‹Builtin.bitAnd n 1 = 0› ‹Builtin.bitAnd n 1 ≠ 0›
      | skip
    subst hq hr
    have hun9 := kd9_unpad (a := a) (kd9_div0 hD)
    exact ku_pairEnd hret (hfin.1.trans hun9.1) hun9.2 (by k_asm) (by k_asm) (by k_mem) (by kcj_all) (by assumption : _ < _ ∧ _ < _ ∧ _ < _ ∧ AllLt _ _).2.2.2
  · have he : n % 2 = 0 := by
      have hx : Builtin.bitAnd n 1 = 0 := by assumption
      rw [bitAnd_m1] at hx
      exact hx
    obtain ⟨j, rfl⟩ := kd9_big hD (by assumption) hnk
    have hM := kd9_room he hnk
    have hfin := kd9_fin hD he
    have hs4 : (Builtin.Int.intBits ((a / 2 ^ (n.fdiv (2 ^ Int.toNat 1)).toNat) / b) : Int) + n.fdiv (2 ^ Int.toNat 1) ≤ 2 ^ 27 := by
      have := hfin.2; unfold kuHalf at this; omega
    refine' H j rfl ?k1 ?k2 ?k3 ?k4 ?k5 ?kK (kd9_pre1 hD he hM) ?kd ?ku ?_
    walk_at "ku_args"
    intro D1 u1 u2 c1 h1 tk1 F1 N1 l1
    (try dsimp only)
    (try k_fold)
    k_steps
    refine' H j rfl ?k1 ?k2 ?k3 ?k4 ?k5 ?kK (kd9_pre2 hD he hM) ?kd ?ku ?_
    walk_at "ku_args"
    intro D2 v1 v2 c2 h2 tk2 F2 N2 l2
    (try dsimp only)
    (try k_fold)
    k_steps
    all_goals first
      | exact absurd ‹Builtin.bitAnd n 1 = 0› ‹Builtin.bitAnd n 1 ≠ 0›
      | skip
    subst hq hr
    exact ku_pairEnd hret hfin.1 rfl (by k_asm) (by k_asm) (by k_mem) (by kcj_all) (by assumption : _ < _ ∧ _ < _ ∧ _ < _ ∧ AllLt _ _).2.2.2

theorem kd9_pre3 {a12 a3 b b1 b2 n : Int} (h : KuDiv3 a12 a3 b b1 b2 n) : 0 < b1 ∧ 0 < b := by
  obtain ⟨h1, h2, h3, h4, h5, h6, h7, h8, h9, h10⟩ := h
  have := kd9_pow (n.toNat - 1)
  omega
theorem kd9_div3bits {a12 a3 b b1 b2 n : Int} (h : KuDiv3 a12 a3 b b1 b2 n) (hn : n ≤ 1024000) :
    (Builtin.Int.intBits b1 : Int) + n ≤ 2 ^ 27 ∧ (Builtin.Int.intBits (a12 - b1 * 2 ^ n.toNat + b1) : Int) + n ≤ 2 ^ 27 ∧ IntMulOk (1 * 2 ^ n.toNat - 1) b2 ∧
    (Builtin.Int.intBits (a12 % b1) : Int) + n ≤ 2 ^ 27 ∧ (a12.fdiv (2 ^ n.toNat) ≠ b1 → IntMulOk (a12 / b1) b2 ∧ KuDiv a12 b1 n) := by
  obtain ⟨hb1, hb⟩ := kd9_pre3 h
  obtain ⟨h1, h2, h3, h4, h5, h6, h7, h8, h9, h10⟩ := h
  have hp := kd9_pow n.toNat
  have x1 := kd9_bits (Int.le_of_lt hb1) h10
  have hbb : b < 2 ^ (n.toNat + n.toNat) := by
    rw [kd9_add]
    have := Int.mul_le_mul_of_nonneg_right (show b1 + 1 ≤ 2 ^ n.toNat by omega) (Int.le_of_lt hp)
    rw [Int.add_mul, Int.one_mul] at this
    omega
  have m0 : 0 ≤ b1 * 2 ^ n.toNat := Int.mul_nonneg (Int.le_of_lt hb1) (Int.le_of_lt hp)
  refine ⟨by omega, ?_, ?_, ?_, fun hne => ?_⟩
  · have : Builtin.Int.intBits (a12 - b1 * 2 ^ n.toNat + b1) ≤ n.toNat + n.toNat + 1 := by
      refine PySem.intBits_le_iff.mpr ?_
      have e := kd9_succ (n.toNat + n.toNat)
      have e2 := kbt_cast (n.toNat + n.toNat + 1)
      have : b1 ≤ b := by
        have := Int.mul_le_mul_of_nonneg_left (show (1 : Int) ≤ 2 ^ n.toNat by omega) (Int.le_of_lt hb1)
        omega
      omega
    omega
  · refine PyProof.Rows.mulOk_of_bits (m := n.toNat) (n := n.toNat) ?_ (kd9_bits h7 h8) (by omega)
    rw [Int.one_mul]
    exact kd9_bits (by omega) (by omega)
  · have := kd9_bits (Int.emod_nonneg a12 (show b1 ≠ 0 by omega)) (Int.lt_trans (Int.emod_lt_of_pos a12 hb1) h10)
    omega
  · have hlt : a12 < b1 * 2 ^ n.toNat := by
      rw [kd9_fdiv] at hne
      have e := Int.mul_ediv_add_emod a12 (2 ^ n.toNat)
      have e0 := Int.emod_nonneg a12 (show (2 : Int) ^ n.toNat ≠ 0 by omega)
      have e1 := Int.emod_lt_of_pos a12 hp
      have hle : a12 / 2 ^ n.toNat < b1 + 1 := Int.ediv_lt_of_lt_mul hp (by rw [Int.add_mul, Int.one_mul]; omega)
      have := Int.mul_le_mul_of_nonneg_right (show a12 / 2 ^ n.toNat + 1 ≤ b1 by omega) (Int.le_of_lt hp)
      rw [Int.add_mul, Int.one_mul, Int.mul_comm] at this
      omega
    have hq := kd9_quot hb1 h2 hlt
    exact ⟨PyProof.Rows.mulOk_of_bits (kd9_bits hq.1 hq.2) (kd9_bits h7 h8) (by omega), h1, h2, hlt, h9, h10⟩
theorem kd9_p3a {a12 a3 b b1 b2 n : Int} (h : KuDiv3 a12 a3 b b1 b2 n) (e : a12.fdiv (2 ^ n.toNat) = b1) :
    (1 * 2 ^ n.toNat - 1) * b + (Builtin.bitOr ((a12 - b1 * 2 ^ n.toNat + b1) * 2 ^ n.toNat) a3 - (1 * 2 ^ n.toNat - 1) * b2) = a12 * 2 ^ n.toNat + a3 ∧
    Builtin.bitOr ((a12 - b1 * 2 ^ n.toNat + b1) * 2 ^ n.toNat) a3 - (1 * 2 ^ n.toNat - 1) * b2 < b := by
  obtain ⟨hb1, hb⟩ := kd9_pre3 h
  obtain ⟨h1, h2, h3, h4, h5, h6, h7, h8, h9, h10⟩ := h
  have hp := kd9_pow n.toNat
  have hr0 : 0 ≤ a12 - b1 * 2 ^ n.toNat + b1 := by
    rw [kd9_fdiv] at e
    have e1 := Int.mul_ediv_add_emod a12 (2 ^ n.toNat)
    have e0 := Int.emod_nonneg a12 (show (2 : Int) ^ n.toNat ≠ 0 by omega)
    rw [e, Int.mul_comm] at e1
    omega
  rw [kd9_bitOr hr0 h4 h5, Int.one_mul]
  generalize (2 : Int) ^ n.toNat = M at *
  have key : (M - 1) * b + ((a12 - b1 * M + b1) * M + a3 - (M - 1) * b2) = a12 * M + a3 := by
    rw [h6]; grind
  refine ⟨key, ?_⟩
  have m1 := Int.mul_le_mul_of_nonneg_right (show a12 + 1 ≤ b by omega) (Int.le_of_lt hp)
  have m2 : (M - 1) * b = b * M - b := by rw [Int.sub_mul, Int.one_mul, Int.mul_comm]
  rw [Int.add_mul, Int.one_mul] at m1
  omega
theorem kd9_p3b {a12 a3 b b1 b2 n : Int} (h : KuDiv3 a12 a3 b b1 b2 n) :
    (a12 / b1) * b + (Builtin.bitOr ((a12 % b1) * 2 ^ n.toNat) a3 - (a12 / b1) * b2) = a12 * 2 ^ n.toNat + a3 ∧
    Builtin.bitOr ((a12 % b1) * 2 ^ n.toNat) a3 - (a12 / b1) * b2 < b := by
  obtain ⟨hb1, hb⟩ := kd9_pre3 h
  obtain ⟨h1, h2, h3, h4, h5, h6, h7, h8, h9, h10⟩ := h
  have hp := kd9_pow n.toNat
  have r0 := Int.emod_nonneg a12 (show b1 ≠ 0 by omega)
  have r1 := Int.emod_lt_of_pos a12 hb1
  have e := Int.mul_ediv_add_emod a12 b1
  have q0 := Int.ediv_nonneg h2 (Int.le_of_lt hb1)
  rw [kd9_bitOr r0 h4 h5]
  generalize (2 : Int) ^ n.toNat = M at *
  generalize a12 / b1 = q at *
  generalize a12 % b1 = r at *
  refine ⟨by rw [h6, ← e]; grind, ?_⟩
  have m1 := Int.mul_le_mul_of_nonneg_right (show r + 1 ≤ b1 by omega) (Int.le_of_lt hp)
  rw [Int.add_mul, Int.one_mul] at m1
  have := Int.mul_nonneg q0 h7
  omega

theorem kd9_found {q r b X : Int} (hb : 0 < b) (h : q * b + r = X) (h0 : ¬ r < 0) (h1 : r < b) : q = X / b ∧ r = X % b := by
  have := kbt_unique (a := X) (q := q) (r := r) hb (by rw [Int.mul_comm]; omega) (by omega) h1
  exact ⟨this.1.symm, this.2.symm⟩
/-- a turn of the loop that mends the quotient -/
def KuTurn (h₀ : Heap) (L : Addr) (s : Shared) (m : Str → Option Value) (news : List (Addr × Obj)) (b q r : Int) (f : Flow) (s₃ : Shared) : Prop :=
  f = .next ∧ r < 0 ∧ ∃ h' tk' tq' tr', s₃ = { s with heap := h', toks := tk' } ∧ Fr h₀ L h' (fun y => if y = Str.ofString "r" then some (.int (r + b) tr') else if y = Str.ofString "q" then some (.int (q - 1) tq') else m y) ∧ News h₀ L h' news
theorem ku_mend {prog : Program} {w : World} {A : Around} {E : Value → Shared → Prop} {Q : Flow → Shared → Prop} {s : Shared} {env : Env} {h₀ : Heap} {L : Addr} {test : Expr} {body : List Stmt} {pos : Pos} {m : Str → Option Value} {news : List (Addr × Obj)} {b q0 r0 X : Int} {tq tr : Tok}
    (F : Fr h₀ L s.heap m) (N : News h₀ L s.heap news) (hr : m (Str.ofString "r") = some (.int r0 tr)) (hq : m (Str.ofString "q") = some (.int q0 tq)) (hb : 0 < b) (hX : q0 * b + r0 = X ∧ r0 < b)
    (turn : ∀ (q r : Int) (tq tr : Tok) h₁ tk₁, q * b + r = X → r < b → Fr h₀ L h₁ (fun y => if y = Str.ofString "r" then some (.int r tr) else if y = Str.ofString "q" then some (.int q tq) else m y) → News h₀ L h₁ news →
      wpAny (model prog w) A (isTrue test env (eval test env)) (fun b' s₂ =>
        if b' = true then wpAny (model prog w) A (execs body env) (KuTurn h₀ L s m news b q r) E s₂ else Q .next s₂) E { s with heap := h₁, toks := tk₁ })
    (hE : PassesOwn (model prog w) A env E := by passes_own) :
    wpAny (model prog w) A (exec (.While test body [] pos) env) Q E s := by
  have e0 := ku_two hr hq
  rw [e0] at F
  refine While_inv (fun n m₁ nx => nx = news ∧ ∃ q r tq tr, m₁ = (fun y => if y = Str.ofString "r" then some (.int r tr) else if y = Str.ofString "q" then some (.int q tq) else m y) ∧ q * b + r = X ∧ r < b ∧ n = (-r).toNat) (n₀ := (-r0).toNat) F N ⟨rfl, q0, r0, tq, tr, rfl, hX.1, hX.2, rfl⟩ ?_ hE
  rintro n m₁ nx h₁ tk₁ F₁ N₁ ⟨rfl, q, r, tq, tr, rfl, hx, hlt, rfl⟩
  refine wpAny_mono (turn q r tq tr h₁ tk₁ hx hlt F₁ N₁) (fun b' s₂ h₂ => ?_) fun _ _ x => x
  cases b' with
  | false => exact h₂
  | true =>
    rw [if_pos rfl] at h₂ ⊢
    refine wpAny_mono h₂ (fun f s₃ h₃ => ?_) fun _ _ x => x
    obtain ⟨rfl, hneg, h', tk', tq', tr', rfl, F', N'⟩ := h₃
    refine WhileStep.intro F' N' (n' := (-(r + b)).toNat) (by omega) ⟨rfl, q - 1, r + b, tq', tr', rfl, ?_, by omega, rfl⟩
    rw [Int.sub_mul, Int.one_mul]; omega
theorem ku_turned {h₀ : Heap} {L : Addr} {s : Shared} {m : Str → Option Value} {news : List (Addr × Obj)} {b q r : Int} {tq tr tq' tr' tk : Tok} {h' : Heap} (hneg : r < 0)
    (F : Fr h₀ L h' (fun y => if y = Str.ofString "r" then some (.int (r + b) tr') else if y = Str.ofString "q" then some (.int (q - 1) tq') else if y = Str.ofString "r" then some (.int r tr) else if y = Str.ofString "q" then some (.int q tq) else m y)) (N : News h₀ L h' news) :
    KuTurn h₀ L s m news b q r .next { s with heap := h', toks := tk } := by
  refine ⟨rfl, hneg, h', tk, tq', tr', rfl, ?_, N⟩
  refine cast (congrArg (Fr h₀ L h') ?_) F
  funext y
  split
  · rfl
  · split
    · rfl
    · rfl

local macro_rules | `(tactic| walk_at "exec While Compare cons nil") => `(tactic| (k_here; refine KuStop.on ?_))

local macro_rules | `(tactic| walk_at "binaryOp Mult int int") => `(tactic| (k_here; refine mul_int ?_ (by assumption)))
set_option maxHeartbeats 4000000 in
theorem ku_div3_step (k : Nat) (hk8 : k ≤ 8) (H : KuD2 k) : KuD3 k := by
  intro news a12 a3 b b1 b2 n q r t1 t2 t3 t4 t5 t6
  walk_at "ku_open"
  intro w loose mean mg mb dp un gd cn cs a₀ ccd cl outer A₀ base h₀ L m₀ s Q E kuB kuF kuX kuN kuT hk hpre hdn hun hret
  obtain ⟨hD, hnk, hq, hr⟩ := hpre
  have hb0 := kd9_pre3 hD
  have hn1 : 1 ≤ n := hD.1
  have hn0 : 0 ≤ n := by omega
  have hlim := kd9_lim hk8 hnk
  have hs1 : (Builtin.Int.intBits 1 : Int) + n ≤ 2 ^ 27 := by
    rw [show Builtin.Int.intBits 1 = 1 by decide]; omega
  obtain ⟨hs2, hs3, hm1, hs4, hm2⟩ := kd9_div3bits hD hlim
  walk_at "ku_enter"
  k_steps
  · have hX := kd9_p3a hD (by assumption)
    refine KuStop.off (ku_mend (by k_asm) (by k_asm) rfl rfl hb0.2 hX ?_)
    intro q9 r9 tq9 tr9 h9 tk9 hx9 hb9 F9 N9
    k_steps
    · exact ku_turned (by assumption) (by k_asm) (by k_asm)
    · have hu9 := kd9_found hb0.2 hx9 (by assumption) hb9
      exact ku_pairEnd hret (hu9.1.trans hq.symm) (hu9.2.trans hr.symm) (by k_asm) (by k_asm) (by k_mem) (by kcj_all) (by first | assumption | exact (by assumption : _ < _ ∧ AllLt _ _).2)
  · obtain ⟨hm3, hd3⟩ := hm2 (by assumption)
    refine' H ?k1 ?k2 ?k3 ?k4 ?k5 ?kK ⟨hd3, hnk, rfl, rfl⟩ ?kd ?ku ?_
    walk_at "ku_args"
    intro D1 u1 u2 c1 h1 tk1 F1 N1 l1
    (try dsimp only)
    (try k_fold)
    k_steps
    have hX := kd9_p3b hD
    refine KuStop.off (ku_mend (by k_asm) (by k_asm) rfl rfl hb0.2 hX ?_)
    intro q9 r9 tq9 tr9 h9 tk9 hx9 hb9 F9 N9
    k_steps
    · exact ku_turned (by assumption) (by k_asm) (by k_asm)
    · have hu9 := kd9_found hb0.2 hx9 (by assumption) hb9
      exact ku_pairEnd hret (hu9.1.trans hq.symm) (hu9.2.trans hr.symm) (by k_asm) (by k_asm) (by k_mem) (by kcj_all) (by first | assumption | exact (by assumption : _ < _ ∧ AllLt _ _).2)

theorem ku_div2 : ∀ k, k ≤ 8 → KuD2 k
  | 0, h => ku_div2_step 0 h (fun _ e => absurd e (Nat.succ_ne_zero _))
  | k + 1, h => ku_div2_step (k + 1) h (fun j e => by cases e; exact ku_div3_step k (Nat.le_of_succ_le h) (ku_div2 k (Nat.le_of_succ_le h)))
end
/-! a zone: how it is written, how many seconds it is ahead -/
def kuFig (fm hr : Int) : Str := if fm = 2 then Str.ofString (toString hr) else Txt.slice (Str.ofString (toString (100 + hr))) (some 1) none
def kuNames : List Str := [Str.ofString "GMT", Str.ofString "UTC", Str.ofString "UT", Str.ofString "Z"]
def kuText (bh hr mn fm : Int) : Str :=
  if fm = 3 then kuNames.getD (hr.fmod 4).toNat (Str.ofString "Z") else
    (if bh = 1 then Str.ofString "-" else Str.ofString "+") ++ kuFig fm hr ++ (if fm = 0 then Str.ofString "" else Str.ofString ":") ++ Txt.slice (Str.ofString (toString (100 + mn))) (some 1) none
def kuSize (bh hr mn fm : Int) : Int := if fm = 3 then 0 else if bh = 1 then -(3600 * hr + 60 * mn) else 3600 * hr + 60 * mn
def kuTextOf (x : Int) : Str := kuText (x.fmod 2) ((x.fdiv 2).fmod 100) (((x.fdiv 2).fdiv 100).fmod 100) ((((x.fdiv 2).fdiv 100).fdiv 100).fmod 4)
def kuSizeOf (x : Int) : Int := kuSize (x.fmod 2) ((x.fdiv 2).fmod 100) (((x.fdiv 2).fdiv 100).fmod 100) ((((x.fdiv 2).fdiv 100).fdiv 100).fmod 4)
theorem ku_fmod {x k : Int} (hk : 0 < k) : 0 ≤ x.fmod k ∧ x.fmod k < k := by
  rw [Int.fmod_eq_emod_of_nonneg _ (Int.le_of_lt hk)]
  exact ⟨Int.emod_nonneg _ (by omega), Int.emod_lt_of_pos _ hk⟩

theorem ku_namesAt {j : Int} (h : 0 ≤ j ∧ j < 4) {t1 t2 t3 t4 : Tok} : ∃ t, ([Value.str (Str.ofString "GMT") t1, Value.str (Str.ofString "UTC") t2, Value.str (Str.ofString "UT") t3, Value.str (Str.ofString "Z") t4] : List Value)[j.toNat]? = some (Value.str (kuNames.getD j.toNat (Str.ofString "Z")) t) := by
  have : j = 0 ∨ j = 1 ∨ j = 2 ∨ j = 3 := by omega
  rcases this with rfl | rfl | rfl | rfl <;> exact ⟨_, rfl⟩
theorem ku_listN {h₀ h : Heap} {L l : Addr} {news : List (Addr × Obj)} {vs : List Value} {n : Nat} (N : News h₀ L h news) (hm : (l, listOf vs.toArray n) ∈ news) : h.IsList l vs.toArray := ⟨_, (N _ hm).1, rfl, n, rfl⟩
theorem ku_itemE {prog : Program} {w : World} {A : Around} {E : Value → Shared → Prop} {s : Shared} {value slice : PySem.Expr} {l : Addr} {vs : List Value} {k : Int} {u : Tok} {R : Tok → Value} {Q : Value → Shared → Prop}
    (hl : s.heap.IsList l vs.toArray) (h0 : 0 ≤ k) (hhi : k < 2 ^ 63) (hx : ∃ t, vs[k.toNat]? = some (R t)) (h : ∀ t, Q (R t) s)
    (hs : subscripted slice false (.ref l) (.int k u) = operate [.ref l, .int k u] (getItem (.ref l) (.int k u)) := by with_unfolding_all rfl) :
    wpAny (model prog w) A (subscriptTail value slice (.ref l) (.int k u)) Q E s :=
  let ⟨t, e⟩ := hx
  ku_item hl h0 hhi e (h t) hs

section
local macro_rules | `(tactic| walk_at "exec If") => `(tactic| (k_here; (with_reducible rename KuGate => kg9); clear kg9; refine KuStop.on ?_))
set_option maxHeartbeats 4000000 in
theorem ku_zone {news : List (Addr × Obj)} {x : Int} {t : Tok} : KuAt 93 news True 2 [.int x t] (kuPair news (fun t => .str (kuTextOf x) t) (fun t => .int (kuSizeOf x) t)) := by
  walk_at "ku_open"
  intro w loose mean mg mb dp un gd cn cs a₀ ccd cl outer A₀ base h₀ L m₀ s Q E kuB kuF kuX kuN kuT hk hpre hdn hun hret
  unfold kuTextOf kuSizeOf at hret
  have kuG : KuGate := KuGate.mk
  walk_at "ku_enter"
  k_steps
  refine KuStop.off ?_
  have hbh := ku_fmod (x := x) (k := 2) (by decide)
  have hhr := ku_fmod (x := x.fdiv 2) (k := 100) (by decide)
  have hmn := ku_fmod (x := (x.fdiv 2).fdiv 100) (k := 100) (by decide)
  have hfm := ku_fmod (x := ((x.fdiv 2).fdiv 100).fdiv 100) (k := 4) (by decide)
  generalize ((x.fdiv 2).fdiv 100).fdiv 100 = X3 at *
  generalize ((x.fdiv 2).fdiv 100).fmod 100 = mn at *
  generalize (x.fdiv 2).fmod 100 = hr at *
  generalize x.fmod 2 = bh at *
  k_steps
  · refine ku_itemE (R := fun t => .str (kuNames.getD (hr.fmod 4).toNat (Str.ofString "Z")) t) (ku_listN (by k_asm) (by k_mem)) (ku_fmod (by decide)).1 (by have := ku_fmod (x := hr) (k := 4) (by decide); omega) (ku_namesAt (ku_fmod (by decide))) ?_
    intro t9
    dsimp only
    k_steps
    refine' ku_pairEndV hret ?ex ?ey ?F ?N ?hm ?hs ?hl
    case F => k_asm
    case N => k_asm
    case hm => k_mem
    case hs => kcj_all
    case hl => exact (by assumption : _ < _ ∧ _ < _ ∧ _ < _ ∧ _ < _ ∧ AllLt _ _).2.2.2.2
    case ex => exact ⟨_, by unfold kuText; rw [if_pos (by assumption)]⟩
    case ey => exact ⟨_, by unfold kuSize; rw [if_pos (by assumption)]⟩
  all_goals (try (exfalso; have e1 : X3.fmod 4 = 2 := (by assumption); have e2 : X3.fmod 4 = 0 := (by assumption); rw [e1] at e2; exact absurd e2 (by decide)))
  all_goals (
    refine' ku_pairEndV hret ?ex ?ey ?F ?N ?hm ?hs ?hl
    case F => k_asm
    case N => k_asm
    case hm => k_mem
    case hs => kcj_all
    case hl => exact (by assumption : _ < _ ∧ _ < _ ∧ _ < _ ∧ AllLt _ _).2.2.2
    case ex => exact ⟨_, congrArg (fun z => Value.str z _) (by
      unfold kuText kuFig
      rw [if_neg ‹X3.fmod 4 ≠ 3›]
      (first | rw [if_pos ‹bh = 1›] | rw [if_neg ‹bh ≠ 1›])
      (first | rw [if_pos ‹X3.fmod 4 = 2›] | rw [if_neg ‹X3.fmod 4 ≠ 2›])
      (first | rw [if_pos ‹X3.fmod 4 = 0›] | rw [if_neg ‹X3.fmod 4 ≠ 0›]))⟩
    case ey => exact ⟨_, congrArg (fun z => Value.int z _) (by
      unfold kuSize
      rw [if_neg ‹X3.fmod 4 ≠ 3›]
      (first | rw [if_pos ‹bh = 1›] | rw [if_neg ‹bh ≠ 1›]))⟩)
end
/-! the pattern's machine looks at a digit only to see that it is one -/
open PySem.Sre in
def kuRt (t : Array Nat) (m : Sre.M) : Sre.M := { m with text := t }
section
open PySem.Sre
variable {t : Array Nat} {m : Sre.M}
theorem rt_attempt {f : Sre.Frame} {a b : Nat} {c : Bool} : (kuRt t m).attempt f a b c = kuRt t (m.attempt f a b c) := by
  unfold M.attempt
  show (if m.weight + 1 + f.kept.marks.size > 16777216 then _ else _) = kuRt t (if m.weight + 1 + f.kept.marks.size > 16777216 then _ else _)
  split <;> rfl
theorem rt_afterRun {w : Wait} {c : Int} {k : Sre.Kept} : (kuRt t m).afterRun w c k = kuRt t (m.afterRun w c k) := rt_attempt
theorem rt_afterLoop {w : Wait} {i : Nat} {c : Int} {f : Option Nat → Bool} : (kuRt t m).afterLoop w i c f = kuRt t (m.afterLoop w i c f) :=
  rt_attempt (m := { m with inner := (m.loopAt i).outer })
theorem rt_round {w : Wait} {i : Nat} {c : Int} {g : Bool} {k : Sre.Kept} : (kuRt t m).round w i c g k = kuRt t (m.round w i c g k) :=
  rt_attempt (m := m.setLoop i fun l => { l with count := c, began := if g then some m.pos else l.began })
theorem rt_until {g : Bool} : (kuRt t m).until_ g = kuRt t (m.until_ g) := by
  unfold M.until_
  show (match m.inner with | none => _ | some i => _) = kuRt t (match m.inner with | none => _ | some i => _)
  cases m.inner with
  | none => rfl
  | some i =>
    dsimp only
    show (if (m.loopAt i).count + 1 < (m.code.getD ((m.loopAt i).pc + 2) 0 : Nat) then _ else _) = kuRt t (if (m.loopAt i).count + 1 < (m.code.getD ((m.loopAt i).pc + 2) 0 : Nat) then _ else _)
    split
    · exact rt_round
    · split
      · exact rt_afterLoop
      · show (if ((m.loopAt i).count + 1 < (m.code.getD ((m.loopAt i).pc + 3) 0 : Nat) || m.code.getD ((m.loopAt i).pc + 3) 0 == maxRepeat) && (m.loopAt i).began != some m.pos then _ else _) = kuRt t (if ((m.loopAt i).count + 1 < (m.code.getD ((m.loopAt i).pc + 3) 0 : Nat) || m.code.getD ((m.loopAt i).pc + 3) 0 == maxRepeat) && (m.loopAt i).began != some m.pos then _ else _)
        split
        · exact rt_round
        · exact rt_afterLoop
/-- two texts that the set at i cannot tell apart -/
def KuLike (code t u : Array Nat) (i : Nat) : Prop := ∀ p seen, accepts code i (t.getD p 0) seen = accepts code i (u.getD p 0) seen
theorem rt_run {code u : Array Nat} {i : Nat} (h : KuLike code t u i) : ∀ n p found seen, Sre.run code t i n p found seen = Sre.run code u i n p found seen
  | 0, _, _, _ => rfl
  | n + 1, p, found, seen => by
    unfold Sre.run
    rw [h p seen]
    cases accepts code i (u.getD p 0) seen with
    | error e => rfl
    | ok x =>
      obtain ⟨y, s⟩ := x
      show (if y = true then _ else _) = (if y = true then _ else _)
      split
      · exact rt_run h n _ _ _
      · rfl
theorem rt_in (hop : ops[m.word 0]? = some .IN ∨ ops[m.word 0]? = some .LITERAL) (h : KuLike m.code t m.text m.pc) : (kuRt t m).exec = kuRt t m.exec := by
  have e := h m.pos (m.seen.add (m.word 0))
  rcases hop with hop | hop
  all_goals
    have hop' : ops[(kuRt t m).word 0]? = ops[m.word 0]? := rfl
    unfold M.exec
    rw [hop', hop]
    dsimp only
    show (if m.pos ≥ m.lim then _ else match accepts m.code m.pc (t.getD m.pos 0) (m.seen.add (m.word 0)) with | .error why => _ | .ok (false, seen) => _ | .ok (true, seen) => _) = kuRt t (if m.pos ≥ m.lim then _ else match accepts m.code m.pc (m.text.getD m.pos 0) (m.seen.add (m.word 0)) with | .error why => _ | .ok (false, seen) => _ | .ok (true, seen) => _)
    split
    · rfl
    · rw [e]
      cases accepts m.code m.pc (m.text.getD m.pos 0) (m.seen.add (m.word 0)) with
      | error e => rfl
      | ok x =>
        obtain ⟨y, s⟩ := x
        cases y <;> rfl
theorem rt_at (hop : ops[m.word 0]? = some .AT) (h : ∀ p, (t.getD p 0 == 10) = (m.text.getD p 0 == 10)) (hk : m.word 1 = 0 ∨ m.word 1 = 5) : (kuRt t m).exec = kuRt t m.exec := by
  have hop' : ops[(kuRt t m).word 0]? = ops[m.word 0]? := rfl
  have e : M.isAt { kuRt t m with seen := m.seen.add (m.word 0) } (m.word 1) = M.isAt { m with seen := m.seen.add (m.word 0) } (m.word 1) := by
    rcases hk with hk | hk <;> rw [hk]
    · rfl
    · show Except.ok (m.pos == m.lim || (m.pos + 1 == m.lim && t.getD m.pos 0 == 10)) = Except.ok (m.pos == m.lim || (m.pos + 1 == m.lim && m.text.getD m.pos 0 == 10))
      rw [h]
  unfold M.exec
  rw [hop', hop]
  dsimp only
  show (match M.isAt { kuRt t m with seen := m.seen.add (m.word 0) } (m.word 1) with | .error why => _ | .ok yes => _) = kuRt t (match M.isAt { m with seen := m.seen.add (m.word 0) } (m.word 1) with | .error why => _ | .ok yes => _)
  rw [e]
  cases M.isAt { m with seen := m.seen.add (m.word 0) } (m.word 1) with
  | error e => rfl
  | ok y => cases y <;> rfl
theorem rt_one (hop : ops[m.word 0]? = some .REPEAT_ONE) (h : KuLike m.code t m.text (m.pc + 4)) : (kuRt t m).exec = kuRt t m.exec := by
  have hop' : ops[(kuRt t m).word 0]? = ops[m.word 0]? := rfl
  have e := fun n => rt_run h n m.pos 0 ((m.seen.add (m.word 0)).add (m.word 4))
  unfold M.exec
  rw [hop', hop]
  dsimp only
  show (if (m.word 2 : Int) > (m.lim : Int) - m.pos then _ else match Sre.run m.code t (m.pc + 4) (min (m.word 3) ((m.lim : Int) - m.pos).toNat) m.pos 0 ((m.seen.add (m.word 0)).add (m.word 4)) with | .error why => _ | .ok (n, seen) => _)
    = kuRt t (if (m.word 2 : Int) > (m.lim : Int) - m.pos then _ else match Sre.run m.code m.text (m.pc + 4) (min (m.word 3) ((m.lim : Int) - m.pos).toNat) m.pos 0 ((m.seen.add (m.word 0)).add (m.word 4)) with | .error why => _ | .ok (n, seen) => _)
  split
  · rfl
  · rw [e]
    cases Sre.run m.code m.text (m.pc + 4) (min (m.word 3) ((m.lim : Int) - m.pos).toNat) m.pos 0 ((m.seen.add (m.word 0)).add (m.word 4)) with
    | error e => rfl
    | ok x =>
      obtain ⟨n, seen⟩ := x
      show (if n < m.word 2 then _ else _) = kuRt t (if n < m.word 2 then _ else _)
      split
      · rfl
      · exact rt_afterRun (m := { m with seen := seen, pos := m.pos + n })
theorem rt_repeat (hop : ops[m.word 0]? = some .REPEAT) : (kuRt t m).exec = kuRt t m.exec := by
  have hop' : ops[(kuRt t m).word 0]? = ops[m.word 0]? := rfl
  unfold M.exec
  rw [hop', hop]
  exact rt_attempt (m := { m with seen := m.seen.add (m.word 0), loops := m.loops.push { pc := m.pc, outer := m.inner }, inner := some m.loops.size })
theorem rt_max (hop : ops[m.word 0]? = some .MAX_UNTIL) : (kuRt t m).exec = kuRt t m.exec := by
  have hop' : ops[(kuRt t m).word 0]? = ops[m.word 0]? := rfl
  unfold M.exec
  rw [hop', hop]
  exact rt_until (m := { m with seen := m.seen.add (m.word 0), pc := m.pc + 1 })
theorem rt_mark (hop : ops[m.word 0]? = some .MARK) : (kuRt t m).exec = kuRt t m.exec := by
  have hop' : ops[(kuRt t m).word 0]? = ops[m.word 0]? := rfl
  unfold M.exec
  rw [hop', hop]
  rfl
theorem rt_success (hop : ops[m.word 0]? = some .SUCCESS) : (kuRt t m).exec = kuRt t m.exec := by
  have hop' : ops[(kuRt t m).word 0]? = ops[m.word 0]? := rfl
  unfold M.exec
  rw [hop', hop]
  show (if m.outermost && ((m.wholeText && m.pos != m.lim) || (m.mustAdvance && m.pos == m.start)) then _ else _) = kuRt t (if m.outermost && ((m.wholeText && m.pos != m.lim) || (m.mustAdvance && m.pos == m.start)) then _ else _)
  split <;> rfl
def kuWait : Wait → Bool
  | .nextStart | .giveBack | .closeLoop | .maxMore | .maxTail => true
  | _ => false
theorem rt_resume {f : Sre.Frame} (hf : kuWait f.wait = true) : (kuRt t m).resume f true = kuRt t (m.resume f true) := by
  obtain ⟨w, a, b, c, d, e, g, h⟩ := f
  cases w <;> first | rfl | cases hf

/-- the places at which the pattern looks at a sign -/
def kuPlaces : List Nat := [13, 25, 34, 46, 55, 60]
def kuStepOk (code u : Array Nat) (m : M) : Bool :=
  decide (m.code = code) && decide (m.text = u) &&
  match m.answer, m.frames with
  | some _, [] => true
  | some y, f :: _ => y && kuWait f.wait
  | none, _ => decide (m.pc < m.code.size) && (match ops[m.word 0]? with
    | some .SUCCESS | some .REPEAT | some .MARK | some .MAX_UNTIL => true
    | some .AT => m.word 1 == 0 || m.word 1 == 5
    | some .IN | some .LITERAL => kuPlaces.contains m.pc
    | some .REPEAT_ONE => kuPlaces.contains (m.pc + 4)
    | _ => false)
def kuRunOk (code u : Array Nat) : Nat → M → Bool
  | 0, _ => true
  | n + 1, m => m.outcome.isSome || (kuStepOk code u m && kuRunOk code u n m.step)
theorem rt_step {code u : Array Nat} (hl : ∀ i ∈ kuPlaces, KuLike code t u i) (h10 : ∀ p, (t.getD p 0 == 10) = (u.getD p 0 == 10)) (ho : m.outcome.isSome = false) (hok : kuStepOk code u m = true) : (kuRt t m).step = kuRt t m.step := by
  unfold kuStepOk at hok
  simp only [Bool.and_eq_true, decide_eq_true_eq] at hok
  obtain ⟨⟨hc, hu⟩, hk⟩ := hok
  subst hc hu
  unfold M.step
  rw [show (kuRt t m).outcome.isSome = m.outcome.isSome from rfl, ho, if_neg Bool.false_ne_true, if_neg Bool.false_ne_true]
  show (match m.answer, m.frames with | some yes, [] => _ | some yes, f :: rest => _ | none, _ => _) = kuRt t (match m.answer, m.frames with | some yes, [] => _ | some yes, f :: rest => _ | none, _ => _)
  cases ha : m.answer with
  | some y =>
    cases hf : m.frames with
    | nil => dsimp only [kuRt]; rw [hf, ha]
    | cons f r =>
      rw [ha, hf] at hk
      simp only [Bool.and_eq_true] at hk
      obtain ⟨rfl, hw⟩ := hk
      exact rt_resume (m := { m with answer := none, frames := r, weight := m.weight - (1 + f.kept.marks.size), pc := f.pc, pos := f.pos, outermost := f.outermost }) hw
  | none =>
    rw [ha] at hk
    simp only [Bool.and_eq_true, decide_eq_true_eq] at hk
    obtain ⟨hpc, hk⟩ := hk
    dsimp only
    show (if m.pc < m.code.size then _ else _) = kuRt t (if m.pc < m.code.size then _ else _)
    rw [if_pos hpc, if_pos hpc]
    split at hk
    · rename_i hop; exact rt_success hop
    · rename_i hop; exact rt_repeat hop
    · rename_i hop; exact rt_mark hop
    · rename_i hop; exact rt_max hop
    · rename_i hop; exact rt_at hop h10 (by simpa using hk)
    · rename_i hop; exact rt_in (.inl hop) (hl _ (by simpa using hk))
    · rename_i hop; exact rt_in (.inr hop) (hl _ (by simpa using hk))
    · rename_i hop; exact rt_one hop (hl _ (by simpa using hk))
    · cases hk
theorem rt_runFor {code u : Array Nat} (hl : ∀ i ∈ kuPlaces, KuLike code t u i) (h10 : ∀ p, (t.getD p 0 == 10) = (u.getD p 0 == 10)) : ∀ n (m : M), kuRunOk code u n m = true → M.runFor n (kuRt t m) = kuRt t (M.runFor n m)
  | 0, _, _ => rfl
  | n + 1, m, h => by
    unfold M.runFor
    rw [show (kuRt t m).outcome.isSome = m.outcome.isSome from rfl]
    cases ho : m.outcome.isSome with
    | true => rfl
    | false =>
      unfold kuRunOk at h
      rw [ho, Bool.false_or, Bool.and_eq_true] at h
      rw [if_neg Bool.false_ne_true, if_neg Bool.false_ne_true, rt_step hl h10 ho h.1]
      exact rt_runFor hl h10 n m.step h.2
end

def kuCode : Array Nat := #[14, 4, 0, 1, 6, 6, 0, 23, 14, 0, 1, 17, 0, 13, 6, 16, 45, 16, 43, 0, 17, 1, 18, 17, 2, 13, 4, 8, 0, 0, 24, 9, 0, 1, 13, 4, 8, 0, 0, 1, 17, 3, 24, 6, 0, 1, 16, 58, 1, 23, 17, 0, 1, 17, 4, 13, 4, 8, 0, 0, 13, 4, 8, 0, 0, 17, 5, 18, 6, 5, 1]
section
open PySem.Sre
theorem ku_digit {c : Nat} (h : 48 ≤ c ∧ c ≤ 57) {i : Nat} (hi : i ∈ kuPlaces) (seen : Sre.Seen) : accepts kuCode i c seen = accepts kuCode i 48 seen := by
  have hc : c = 48 ∨ c = 49 ∨ c = 50 ∨ c = 51 ∨ c = 52 ∨ c = 53 ∨ c = 54 ∨ c = 55 ∨ c = 56 ∨ c = 57 := by omega
  simp only [kuPlaces, List.mem_cons, List.not_mem_nil, or_false] at hi
  rcases hi with rfl | rfl | rfl | rfl | rfl | rfl <;> rcases hc with rfl | rfl | rfl | rfl | rfl | rfl | rfl | rfl | rfl | rfl <;> rfl
/-- the same signs, but for digits -/
def KuSame : List Nat → List Nat → Prop
  | [], [] => True
  | a :: r, b :: s => (a = b ∨ (b = 48 ∧ 48 ≤ a ∧ a ≤ 57)) ∧ KuSame r s
  | _, _ => False
theorem KuSame.size : ∀ {a b : List Nat}, KuSame a b → a.length = b.length
  | [], [], _ => rfl
  | _ :: _, _ :: _, h => congrArg (· + 1) (KuSame.size h.2)
  | [], _ :: _, h => h.elim
  | _ :: _, [], h => h.elim
theorem KuSame.at : ∀ {a b : List Nat}, KuSame a b → ∀ p, a.getD p 0 = b.getD p 0 ∨ (b.getD p 0 = 48 ∧ 48 ≤ a.getD p 0 ∧ a.getD p 0 ≤ 57)
  | [], [], _, _ => .inl rfl
  | _ :: _, _ :: _, h, 0 => by simpa using h.1
  | _ :: _, _ :: _, h, p + 1 => by simpa using KuSame.at h.2 p
  | [], _ :: _, h, _ => h.elim
  | _ :: _, [], h, _ => h.elim
theorem ku_like {a b : List Nat} (h : KuSame a b) : (∀ i ∈ kuPlaces, KuLike kuCode a.toArray b.toArray i) ∧ ∀ p, (a.toArray.getD p 0 == 10) = (b.toArray.getD p 0 == 10) := by
  have e : ∀ (l : List Nat) p, l.toArray.getD p 0 = l.getD p 0 := fun l p => by simp
  refine ⟨fun i hi p seen => ?_, fun p => ?_⟩
  · rw [e, e]
    rcases h.at p with h | ⟨h1, h2⟩
    · rw [h]
    · rw [h1]; exact ku_digit h2 hi seen
  · rw [e, e]
    rcases h.at p with h | ⟨h1, h2⟩
    · rw [h]
    · rw [h1]
      have : a.getD p 0 ≠ 10 := by omega
      simpa using this
def kuStart (b : List Nat) : M := forSearch kuCode b.toArray 3 0 b.length false
theorem ku_start {a b : List Nat} (h : KuSame a b) : kuStart a = kuRt a.toArray (kuStart b) := by
  unfold kuStart
  rw [h.size]
  unfold forSearch
  dsimp only
  split <;> rfl
theorem ku_search {a b : List Nat} (h : KuSame a b) (n : Nat) (hok : kuRunOk kuCode b.toArray n (kuStart b) = true) : M.runFor n (kuStart a) = kuRt a.toArray (M.runFor n (kuStart b)) := by
  rw [ku_start h]
  exact rt_runFor (ku_like h).1 (ku_like h).2 n _ hok
-- the three shapes: +0000, +00:00, +0:00, and their like with a minus
theorem ku_run0 : kuRunOk kuCode [43, 48, 48, 48, 48].toArray 40 (kuStart [43, 48, 48, 48, 48]) = true ∧ kuRunOk kuCode [45, 48, 48, 48, 48].toArray 40 (kuStart [45, 48, 48, 48, 48]) = true := by decide +kernel
theorem ku_run1 : kuRunOk kuCode [43, 48, 48, 58, 48, 48].toArray 40 (kuStart [43, 48, 48, 58, 48, 48]) = true ∧ kuRunOk kuCode [45, 48, 48, 58, 48, 48].toArray 40 (kuStart [45, 48, 48, 58, 48, 48]) = true := by decide +kernel
theorem ku_run2 : kuRunOk kuCode [43, 48, 58, 48, 48].toArray 40 (kuStart [43, 48, 58, 48, 48]) = true ∧ kuRunOk kuCode [45, 48, 58, 48, 48].toArray 40 (kuStart [45, 48, 58, 48, 48]) = true := by decide +kernel
end
/-! the pattern's search and its match's groups, as the machine runs them -/
theorem slot_ku_search : Slot "re.Pattern" "search" "re.Pattern.search" :=
  .of (owner := "re.Pattern") (n := "search") (by rw [typeLookup_type, builtinLookup_eq_fast]; kernel_rfl) (by decide +kernel) (by decide +kernel) (by decide +kernel)
    (by first | exact .inl (by decide +kernel) | exact .inr (by decide +kernel)) (by rw [isSubtype_type]; kernel_rfl)
theorem type_ku_search : typeOf (.builtin "re.Pattern.search") = pure (.type "method_descriptor") := by show builtinType _ = _; rw [builtinType_eq_fast]; kernel_rfl
theorem entry_ku_search : entryFor table "re.Pattern.search" = some Builtin.«re.Pattern.search» := entryFor_of_fast (by kernel_rfl)
theorem args_ku_search (a b : Value) : argsOk "re.Pattern.search" ⟨[a, b], []⟩ := by unfold argsOk; kernel_rfl
theorem attrs_ku_pattern : PlainAttrs "re.Pattern" :=
  ⟨⟨"object.__getattribute__", by rw [typeLookup_type, builtinLookup_eq_fast]; kernel_rfl, by decide +kernel⟩, by rw [typeLookup_type, builtinLookup_eq_fast]; kernel_rfl⟩
theorem slot_ku_group : Slot "re.Match" "group" "re.Match.group" :=
  .of (owner := "re.Match") (n := "group") (by rw [typeLookup_type, builtinLookup_eq_fast]; kernel_rfl) (by decide +kernel) (by decide +kernel) (by decide +kernel)
    (by first | exact .inl (by decide +kernel) | exact .inr (by decide +kernel)) (by rw [isSubtype_type]; kernel_rfl)
theorem type_ku_group : typeOf (.builtin "re.Match.group") = pure (.type "method_descriptor") := by show builtinType _ = _; rw [builtinType_eq_fast]; kernel_rfl
theorem entry_ku_group : entryFor table "re.Match.group" = some Builtin.«re.Match.group» := entryFor_of_fast (by kernel_rfl)
theorem args_ku_group (a b : Value) : argsOk "re.Match.group" ⟨[a, b], []⟩ := by unfold argsOk; kernel_rfl
theorem attrs_ku_match : PlainAttrs "re.Match" :=
  ⟨⟨"object.__getattribute__", by rw [typeLookup_type, builtinLookup_eq_fast]; kernel_rfl, by decide +kernel⟩, by rw [typeLookup_type, builtinLookup_eq_fast]; kernel_rfl⟩

section
open PySem.Sre PySem.Builtin.Re
variable {Mo : Model} {A : Around} {E : Value → Shared → Prop} {s : Shared}
theorem ku_runFor_add : ∀ (a b : Nat) (m : Sre.M), M.runFor (a + b) m = M.runFor b (M.runFor a m)
  | 0, b, m => by rw [Nat.zero_add]; rfl
  | a + 1, b, m => by
    rw [Nat.add_right_comm]
    show (if m.outcome.isSome then m else M.runFor (a + b) m.step) = M.runFor b (if m.outcome.isSome then m else M.runFor a m.step)
    cases ho : m.outcome.isSome with
    | true =>
      rw [if_pos rfl, if_pos rfl]
      cases b with
      | zero => rfl
      | succ b => show m = if m.outcome.isSome then m else _; rw [ho, if_pos rfl]
    | false => rw [if_neg Bool.false_ne_true, if_neg Bool.false_ne_true]; exact ku_runFor_add a b m.step
theorem ku_drive {Q : Sre.M → Shared → Prop} : ∀ (k n : Nat) (m : Sre.M), k < n → (M.runFor (4 * (k + 1)) m).outcome.isSome = true → Q (M.runFor (4 * (k + 1)) m) s → wpAny Mo A (reDrive n m) Q E s
  | _, 0, _, h, _, _ => absurd h (Nat.not_lt_zero _)
  | 0, n + 1, m, _, ho, hq => by
    unfold reDrive
    show wpAny Mo A (if (M.runFor 4 m).outcome.isSome = true then pure (M.runFor 4 m) else _) Q E s
    rw [if_pos ho]
    exact wpAny_pure hq
  | k + 1, n + 1, m, h, ho, hq => by
    unfold reDrive
    show wpAny Mo A (if (M.runFor 4 m).outcome.isSome = true then pure (M.runFor 4 m) else (do rule "sre.turn"; reDrive n (M.runFor 4 m))) Q E s
    have e : M.runFor (4 * (k + 1 + 1)) m = M.runFor (4 * (k + 1)) (M.runFor 4 m) := by rw [← ku_runFor_add]; congr 1; omega
    rw [e] at ho hq
    split
    · rename_i ho1
      have e2 : M.runFor (4 * (k + 1)) (M.runFor 4 m) = M.runFor 4 m := by
        show (if (M.runFor 4 m).outcome.isSome then M.runFor 4 m else _) = _
        rw [if_pos ho1]
      rw [e2] at hq
      exact wpAny_pure hq
    · exact wpAny_bind (wpAny_rule (ku_drive k n _ (Nat.lt_of_succ_lt_succ h) ho hq))
theorem ku_forIn {f : Nat → PUnit → Sem (ForInStep PUnit)} {Q : PUnit → Shared → Prop} (hf : ∀ i (Q' : ForInStep PUnit → Shared → Prop), Q' (.yield ⟨⟩) s → wpAny Mo A (f i ⟨⟩) Q' E s) (h : Q ⟨⟩ s) : ∀ l : List Nat,
    wpAny Mo A (forIn l PUnit.unit f : Sem PUnit) Q E s
  | [] => wpAny_pure h
  | i :: r => by
    rw [List.forIn_cons]
    exact wpAny_bind (hf i _ (ku_forIn hf h r))
theorem ku_toEnd {m : Sre.M} {Q : Option Sre.M → Shared → Prop} (k : Nat) (hk : k < 2 ^ 64) (ho : (M.runFor (4 * (k + 1)) m).outcome = some Sre.Outcome.matched) (h : Q (some (M.runFor (4 * (k + 1)) m)) s) : wpAny Mo A (reRunToEnd m) Q E s := by
  unfold reRunToEnd
  refine wpAny_bind (ku_drive k _ m hk (by rw [ho]; rfl) ?_)
  refine wpAny_bind (ku_forIn (fun i Q' hq => ?_) ?_ _)
  · split
    · exact wpAny_bind (wpAny_rule (wpAny_pure hq))
    · exact wpAny_pure hq
  · rw [ho]
    exact wpAny_pure h
theorem ku_named {z : Str} {t : Tok} : reNamed "re.Pattern.search" "search" ["string", "pos", "endpos"] 1 [.str z t] [] = pure [some (.str z t), none, none] := by rfl
end
section
open PySem.Sre PySem.Builtin.Re
variable {prog : Program} {w : World} {A : Around} {E : Value → Shared → Prop} {s : Shared} {h₀ : Heap} {L : Addr} {m : Str → Option Value} {news : List (Addr × Obj)}
theorem ku_target {a : List Nat} {t : Tok} {oc op : Obj} {fs : Array Value} {cs : Array Value} {cn : Nat} {Q : ReTarget → Shared → Prop} (hp : s.heap.get? 79 = some op) (hf : op.data = .fields fs) (h6 : fs.getD 6 .none = .int 0 0) (h2 : fs.getD 2 .none = .int 3 0)
    (h5 : fs.getD 5 .none = .ref 78) (hc : s.heap.get? 78 = some oc) (hd : oc.data = .seq cs cn) (hcode : (cs.map reRawOf).map (·.toNat) = kuCode) (hsz : (a.length : Int) < 2 ^ 63 - 1)
    (h : Q { pattern := .ref 79, string := .str ⟨a.toArray⟩ t, code := kuCode, text := a.toArray, kind := 0, groups := 3, pos := 0, lim := a.length } s) :
    wpAny (model prog w) A (reTarget "re.Pattern.search" "search" ⟨[.ref 79, .str ⟨a.toArray⟩ t], []⟩) Q E s := by
  unfold reTarget
  dsimp only
  rw [ku_named]
  refine wpAny_bind (wpAny_pure ?_)
  dsimp only
  refine wpAny_bind (wpAny_pure ?_)
  refine wpAny_bind (wpAny_pure ?_)
  refine wpAny_bind (wpAny_fieldsOf hp hf ?_)
  rw [show reTextOf (.str ⟨a.toArray⟩ t) = pure (a.toArray, 0) from rfl]
  refine wpAny_bind (wpAny_pure ?_)
  dsimp only
  rw [h6, h2, h5]
  rw [if_neg (by decide), if_neg (by decide), show ∀ v, reNoCollectionInside v 0 = pure () from fun _ => rfl]
  refine wpAny_bind (wpAny_pure ?_)
  unfold reRawItems
  refine wpAny_bind (wpAny_bind (wpAny_seqItems hc hd (wpAny_pure ?_)))
  refine wpAny_pure ?_
  have e1 : min (2 ^ 63 - 1 : Int).toNat a.toArray.size = a.length := by
    rw [List.size_toArray]; omega
  rw [e1]
  show Q { pattern := .ref 79, string := .str ⟨a.toArray⟩ t, code := (cs.map reRawOf).map (·.toNat), text := a.toArray, kind := 0, groups := 3, pos := min 0 a.toArray.size, lim := a.length } s
  rw [hcode, Nat.zero_min]
  exact h
/-- the spans of a match, the whole first -/
def kuSpans (m : Sre.M) : List Value := rawInt m.start :: rawInt m.handed :: (List.range 3).flatMap fun g =>
    match if ((2 * g + 1 : Nat) : Int) ≤ m.lastmark then (m.marks.getD (2 * g) none, m.marks.getD (2 * g + 1) none) else (none, none) with
    | (some b, some e) => [rawInt b, rawInt e]
    | _ => [rawInt (-1), rawInt (-1)]
def kuMatchO (a : List Nat) (t : Tok) (li : Int) (x : Addr) : Obj := { cls := .type "re.Match", data := .fields #[.str ⟨a.toArray⟩ t, .ref 79, rawInt 0, rawInt (a.length : Nat), rawInt li, .ref x] }
theorem ku_newMatch {a : List Nat} {t : Tok} {mm : Sre.M} {Q : Value → Shared → Prop} (F : Fr h₀ L s.heap m) (N : News h₀ L s.heap news)
    (hw : (List.range 3).any (fun g => match mm.marks.getD (2 * g) none, mm.marks.getD (2 * g + 1) none with | some b, some e => ((2 * g + 1 : Nat) : Int) ≤ mm.lastmark && e < b | _, _ => false) = false) (hl : (kuSpans mm).length ≤ 100)
    (h : ∀ x y h', Fr h₀ L h' m → News h₀ L h' ((y, kuMatchO a t mm.lastindex x) :: (x, { cls := .type "tuple", data := .seq (kuSpans mm).toArray }) :: news) → (∀ p ∈ news, p.1 < x) → x < y → Q (.ref y) { s with heap := h' }) :
    wpAny (model prog w) A (reNewMatch (.ref 79) (.str ⟨a.toArray⟩ t) 3 0 a.length mm) Q E s := by
  unfold reNewMatch
  dsimp only
  rw [if_neg (fun hx => absurd (hx.symm.trans hw) (by decide))]
  refine wpAny_bind (newTuple_N F N (fun h' F' N' => ?_) (by have := sizeLine_eq; show (kuSpans mm).length ≤ sizeLine; omega))
  unfold newFields
  refine wpAny_newObj_type (h _ _ _ (F'.push _) (N'.push F' _) (fun p hp => Heap.lt_size (N p hp).1) ?_) ?_
  · exact Heap.lt_size (N' _ (List.Mem.head _)).1
  · show (6 : Nat) ≤ sizeLine + 2
    have := sizeLine_eq
    omega
/-- what the search finds in a text that is like b -/
structure KuFound (b : List Nat) (li : Int) (sp : List Value) : Prop where
  ok : kuRunOk kuCode b.toArray 40 (kuStart b) = true
  out : (M.runFor 40 (kuStart b)).outcome = some Sre.Outcome.matched
  right : (List.range 3).any (fun g => match (M.runFor 40 (kuStart b)).marks.getD (2 * g) none, (M.runFor 40 (kuStart b)).marks.getD (2 * g + 1) none with | some x, some e => ((2 * g + 1 : Nat) : Int) ≤ (M.runFor 40 (kuStart b)).lastmark && e < x | _, _ => false) = false
  spans : kuSpans (M.runFor 40 (kuStart b)) = sp
  few : sp.length ≤ 100
  last : (M.runFor 40 (kuStart b)).lastindex = li
theorem ku_searchCall {a b : List Nat} {t : Tok} {li : Int} {sp : List Value} {oc op : Obj} {fs : Array Value} {cs : Array Value} {cn : Nat} {Q : Value → Shared → Prop} (F : Fr h₀ L s.heap m) (N : News h₀ L s.heap news)
    (hp : s.heap.get? 79 = some op) (hpc : op.cls = .type "re.Pattern") (hf : op.data = .fields fs) (h6 : fs.getD 6 .none = .int 0 0) (h2 : fs.getD 2 .none = .int 3 0)
    (h5 : fs.getD 5 .none = .ref 78) (hc : s.heap.get? 78 = some oc) (hd : oc.data = .seq cs cn) (hcode : (cs.map reRawOf).map (·.toNat) = kuCode)
    (hab : KuSame a b) (hb : KuFound b li sp) (hsz : (a.length : Int) < 2 ^ 63 - 1)
    (h : ∀ x y h', Fr h₀ L h' m → News h₀ L h' ((y, kuMatchO a t li x) :: (x, { cls := .type "tuple", data := .seq sp.toArray }) :: news) → (∀ p ∈ news, p.1 < x) → x < y → Q (.ref y) { s with heap := h' }) :
    wpAny (model prog w) A (call (.builtin "re.Pattern.search") [.ref 79, .str ⟨a.toArray⟩ t]) Q E s := by
  refine wpAny_call_entry slot_ku_search ⟨op, hp, hpc⟩ entry_ku_search ?_ (args_ku_search _ _)
  unfold Builtin.«re.Pattern.search»
  refine wpAny_bind (ku_target hp hf h6 h2 h5 hc hd hcode hsz ?_)
  unfold reAnswer
  have e := ku_search hab 40 hb.ok
  refine wpAny_bind (ku_toEnd 9 (by decide) (m := kuStart a) ?_ ?_)
  · rw [show 4 * (9 + 1) = 40 from rfl, e]; exact hb.out
  · rw [show 4 * (9 + 1) = 40 from rfl, e]
    dsimp only
    refine wpAny_bind (ku_newMatch F N hb.right (by show (kuSpans (M.runFor 40 (kuStart b))).length ≤ 100; rw [hb.spans]; exact hb.few) ?_)
    intro x y h' F' N' l1 l2
    refine wpAny_pure ⟨_, rfl, h x y h' F' ?_ l1 l2⟩
    have e3 : kuSpans (kuRt a.toArray (M.runFor 40 (kuStart b))) = sp := hb.spans
    have e4 : (kuRt a.toArray (M.runFor 40 (kuStart b))).lastindex = li := hb.last
    rw [e3, e4] at N'
    exact N'
end
section
open PySem.Sre PySem.Builtin.Re
theorem ku_found0p : KuFound [43, 48, 48, 48, 48] 3 [rawInt 0, rawInt 5, rawInt 0, rawInt 1, rawInt 1, rawInt 3, rawInt 3, rawInt 5] := ⟨ku_run0.1, by kernel_rfl, by kernel_rfl, by kernel_rfl, by decide, by kernel_rfl⟩
theorem ku_found0m : KuFound [45, 48, 48, 48, 48] 3 [rawInt 0, rawInt 5, rawInt 0, rawInt 1, rawInt 1, rawInt 3, rawInt 3, rawInt 5] := ⟨ku_run0.2, by kernel_rfl, by kernel_rfl, by kernel_rfl, by decide, by kernel_rfl⟩
theorem ku_found1p : KuFound [43, 48, 48, 58, 48, 48] 3 [rawInt 0, rawInt 6, rawInt 0, rawInt 1, rawInt 1, rawInt 3, rawInt 4, rawInt 6] := ⟨ku_run1.1, by kernel_rfl, by kernel_rfl, by kernel_rfl, by decide, by kernel_rfl⟩
theorem ku_found1m : KuFound [45, 48, 48, 58, 48, 48] 3 [rawInt 0, rawInt 6, rawInt 0, rawInt 1, rawInt 1, rawInt 3, rawInt 4, rawInt 6] := ⟨ku_run1.2, by kernel_rfl, by kernel_rfl, by kernel_rfl, by decide, by kernel_rfl⟩
theorem ku_found2p : KuFound [43, 48, 58, 48, 48] 3 [rawInt 0, rawInt 5, rawInt 0, rawInt 1, rawInt 1, rawInt 2, rawInt 3, rawInt 5] := ⟨ku_run2.1, by kernel_rfl, by kernel_rfl, by kernel_rfl, by decide, by kernel_rfl⟩
theorem ku_found2m : KuFound [45, 48, 58, 48, 48] 3 [rawInt 0, rawInt 5, rawInt 0, rawInt 1, rawInt 1, rawInt 2, rawInt 3, rawInt 5] := ⟨ku_run2.2, by kernel_rfl, by kernel_rfl, by kernel_rfl, by decide, by kernel_rfl⟩
end
section
open PySem.Sre PySem.Builtin.Re
variable {prog : Program} {w : World} {A : Around} {E : Value → Shared → Prop} {s : Shared}
theorem ku_groupCall {a : List Nat} {t u : Tok} {li : Int} {x y : Addr} {sp : List Value} {ox : Obj} {cn : Nat} {g : Int} {b e : Nat} {Q : Value → Shared → Prop}
    (hy : s.heap.get? y = some (kuMatchO a t li x)) (hx : s.heap.get? x = some ox) (hd : ox.data = .seq sp.toArray cn) (hg : 0 ≤ g ∧ 2 * g < sp.length)
    (hb : (sp.toArray.map reRawOf).getD (2 * g.toNat) (-1) = (b : Int)) (he : (sp.toArray.map reRawOf).getD (2 * g.toNat + 1) (-1) = (e : Int)) (hsz : a.length ≤ 1000)
    (h : Q (.str ⟨a.toArray.extract b e⟩ s.toks) { s with toks := s.toks + 1 }) :
    wpAny (model prog w) A (call (.builtin "re.Match.group") [.ref y, .int g u]) Q E s := by
  refine wpAny_call_entry slot_ku_group ⟨_, hy, rfl⟩ entry_ku_group ?_ (args_ku_group _ _)
  unfold Builtin.«re.Match.group»
  refine wpAny_bind (wpAny_pure ?_)
  dsimp only
  unfold reFound reRawItems
  refine wpAny_bind (wpAny_bind (wpAny_fieldsOf hy rfl ?_))
  refine wpAny_bind (wpAny_bind (wpAny_seqItems hx hd (wpAny_pure ?_)))
  refine wpAny_pure ?_
  have hn : ∀ X : ReFound, X.spans = sp.toArray.map reRawOf → reGroupNumber X (.int g u) = pure g.toNat := fun X hX => by
    show (if g < 0 || 2 * g ≥ X.spans.size then _ else pure g.toNat) = pure g.toNat
    rw [hX]
    refine if_neg ?_
    simp only [Array.size_map, List.size_toArray, Bool.or_eq_true, decide_eq_true_eq]
    omega
  rw [hn _ rfl]
  refine wpAny_bind (wpAny_pure ?_)
  refine wpAny_bind ?_
  unfold reGroupText
  show wpAny _ _ (if (sp.toArray.map reRawOf).getD (2 * g.toNat) (-1) < 0 || (sp.toArray.map reRawOf).getD (2 * g.toNat + 1) (-1) < 0 then _ else (do let (text, kind) ← reTextOf (.str ⟨a.toArray⟩ t); reSlice text kind ((sp.toArray.map reRawOf).getD (2 * g.toNat) (-1)).toNat ((sp.toArray.map reRawOf).getD (2 * g.toNat + 1) (-1)).toNat)) _ _ _
  rw [hb, he]
  rw [if_neg (by simp only [Bool.or_eq_true, decide_eq_true_eq]; omega)]
  rw [show reTextOf (.str ⟨a.toArray⟩ t) = pure (a.toArray, 0) from rfl]
  refine wpAny_bind (wpAny_pure ?_)
  show wpAny _ _ (mkStr ⟨a.toArray.extract b e⟩) _ _ _
  refine wpAny_mkStr (wpAny_pure ⟨_, rfl, h⟩) ?_
  have := sizeLine_eq
  show (a.toArray.extract b e).size ≤ sizeLine
  rw [Array.size_extract, List.size_toArray]
  omega
end
theorem ku_short {a : List Nat} {b e : Nat} (h : a.length ≤ 10) : (⟨a.toArray.extract b e⟩ : Str).length ≤ 640 := by
  show (a.toArray.extract b e).size ≤ 640
  rw [Array.size_extract, List.size_toArray]
  omega
/-- the text is one of the names of zone 0 -/
def kuNamed (z : Str) : Bool := decide (z = ⟨#[71, 77, 84]⟩) || (decide (z = ⟨#[85, 84, 67]⟩) || (decide (z = ⟨#[85, 84]⟩) || (decide (z = ⟨#[90]⟩) || false)))
/-- a text that the pattern reads as hours H and minutes Mi, ahead or behind -/
structure KuRead (a b : List Nat) (li : Int) (b2 e2 b3 e3 : Nat) (H Mi : Int) (neg : Bool) : Prop where
  same : KuSame a b
  found : KuFound b li [rawInt 0, rawInt (a.length : Nat), rawInt 0, rawInt 1, rawInt b2, rawInt e2, rawInt b3, rawInt e3]
  short : a.length ≤ 10
  hours : PySem.intText? ⟨a.toArray.extract b2 e2⟩ = some H
  minutes : PySem.intText? ⟨a.toArray.extract b3 e3⟩ = some Mi
  some3 : (⟨a.toArray.extract b3 e3⟩ : Str).length = 2
  sign : ((⟨a.toArray.extract 0 1⟩ : Str) == Str.ofString "-") = neg

theorem ku_pat {P : Params} {h : Heap} (X : (Ku.hd.heap_39 P).In h) : ∃ op oc cs cn fs, h.get? 79 = some op ∧ op.cls = .type "re.Pattern" ∧ op.dict = none ∧ op.data = .fields fs ∧ fs.getD 6 .none = .int 0 0 ∧ fs.getD 2 .none = .int 3 0 ∧ fs.getD 5 .none = .ref 78 ∧
    h.get? 78 = some oc ∧ oc.data = .seq cs cn ∧ (cs.map Builtin.Re.reRawOf).map (·.toNat) = kuCode :=
  ⟨_, _, _, _, _, X 79 _ rfl, rfl, rfl, rfl, rfl, rfl, rfl, X 78 _ rfl, rfl, by kernel_rfl⟩
section
variable {prog : Program} {w : World} {A : Around} {E : Value → Shared → Prop} {s : Shared} {P : Params} {h₀ : Heap} {L : Addr} {m : Str → Option Value} {news : List (Addr × Obj)}
theorem ku_getSearch {pl : Sem Bool} {Q : Value × List Value → Shared → Prop} (X : (Ku.hd.heap_39 P).In s.heap) (h : Q (.builtin "re.Pattern.search", [.ref 79]) s) :
    wpAny (model prog w) A (getMethod (.ref 79) (Str.ofString "search") pl) Q E s := by
  obtain ⟨op, oc, cs, cn, fs, q1, q2, q3, q4, q5, q6, q7, q8, q9, q10⟩ := ku_pat X
  exact getMethod_builtin ⟨_, q1, q2⟩ attrs_ku_pattern slot_ku_search type_ku_search (fun a e => by cases e; exact ⟨_, q1, q3⟩) h
theorem ku_searchK {a b : List Nat} {t : Tok} {li : Int} {sp : List Value} {Q : Value → Shared → Prop} (X : (Ku.hd.heap_39 P).In s.heap) (F : Fr h₀ L s.heap m) (N : News h₀ L s.heap news) (hab : KuSame a b) (hb : KuFound b li sp) (hsz : a.length ≤ 10)
    (h : ∀ x y h', Fr h₀ L h' m → News h₀ L h' ((y, kuMatchO a t li x) :: (x, { cls := .type "tuple", data := .seq sp.toArray }) :: news) → (∀ p ∈ news, p.1 < x) → x < y → Q (.ref y) { s with heap := h' }) :
    wpAny (model prog w) A (call (.builtin "re.Pattern.search") [.ref 79, .str ⟨a.toArray⟩ t]) Q E s := by
  obtain ⟨op, oc, cs, cn, fs, q1, q2, q3, q4, q5, q6, q7, q8, q9, q10⟩ := ku_pat X
  exact ku_searchCall F N q1 q2 q4 q5 q6 q7 q8 q9 q10 hab hb (by omega) h
theorem ku_getGroup {pl : Sem Bool} {a : List Nat} {t : Tok} {li : Int} {x y : Addr} {Q : Value × List Value → Shared → Prop} (N : News h₀ L s.heap news) (hm : (y, kuMatchO a t li x) ∈ news) (h : Q (.builtin "re.Match.group", [.ref y]) s) :
    wpAny (model prog w) A (getMethod (.ref y) (Str.ofString "group") pl) Q E s :=
  getMethod_builtin ⟨_, (N _ hm).1, rfl⟩ attrs_ku_match slot_ku_group type_ku_group (fun a e => by cases e; exact ⟨_, (N _ hm).1, rfl⟩) h
theorem noBool_ku_match : typeLookup (.type "re.Match") "__bool__" = pure none := by rw [typeLookup_type, builtinLookup_eq_fast]; kernel_rfl
theorem noLen_ku_match : typeLookup (.type "re.Match") "__len__" = pure none := by rw [typeLookup_type, builtinLookup_eq_fast]; kernel_rfl
theorem ku_matchTrue {a : List Nat} {t : Tok} {li : Int} {x y : Addr} {Q : Bool → Shared → Prop} (N : News h₀ L s.heap news) (hm : (y, kuMatchO a t li x) ∈ news) (h : Q true s) : wpAny (model prog w) A (truthy (.ref y)) Q E s := by
  have hT : s.TypeIs (.ref y) "re.Match" := ⟨_, (N _ hm).1, rfl⟩
  unfold truthy
  first
    | refine wpAny_bind (wpAny_callSpecial?_none (name := Str.ofString "__bool__") hT noBool_ku_match ?_)
    | refine wpAny_bind (wpAny_pure (wpAny_bind (wpAny_callSpecial?_none (name := Str.ofString "__bool__") hT noBool_ku_match ?_)))
  first
    | refine wpAny_bind (wpAny_specialOf (name := Str.ofString "__len__") hT noLen_ku_match ?_)
    | refine wpAny_bind (wpAny_pure (wpAny_bind (wpAny_specialOf (name := Str.ofString "__len__") hT noLen_ku_match ?_)))
  exact wpAny_pure h
theorem ku_groupN {a : List Nat} {t u : Tok} {li : Int} {x y : Addr} {sp : List Value} {g : Int} {b e : Nat} {Q : Value → Shared → Prop} (N : News h₀ L s.heap news) (hm : (y, kuMatchO a t li x) ∈ news)
    (hx : (x, ({ cls := .type "tuple", data := .seq sp.toArray } : Obj)) ∈ news) (hg : 0 ≤ g ∧ 2 * g < sp.length)
    (hb : (sp.map Builtin.Re.reRawOf).getD (2 * g.toNat) (-1) = (b : Int)) (he : (sp.map Builtin.Re.reRawOf).getD (2 * g.toNat + 1) (-1) = (e : Int)) (hsz : a.length ≤ 10)
    (h : Q (.str ⟨a.toArray.extract b e⟩ s.toks) { s with toks := s.toks + 1 }) :
    wpAny (model prog w) A (call (.builtin "re.Match.group") [.ref y, .int g u]) Q E s :=
  have e1 : ∀ i, (sp.toArray.map Builtin.Re.reRawOf).getD i (-1) = (sp.map Builtin.Re.reRawOf).getD i (-1) := fun i => by simp
  ku_groupCall (N _ hm).1 (N _ hx).1 rfl hg ((e1 _).trans hb) ((e1 _).trans he) (by omega) h
end

/-- what offset_from_tz_string makes of a text -/
def KuOff (z : Str) (v : Int) : Prop := (kuNamed z = true ∧ v = 0) ∨ (kuNamed z = false ∧ ∃ (a b : List Nat) (li : Int) (b2 e2 b3 e3 : Nat) (H Mi : Int) (neg : Bool), z = ⟨a.toArray⟩ ∧ KuRead a b li b2 e2 b3 e3 H Mi neg ∧ v = if neg then -(3600 * H + 60 * Mi) else 3600 * H + 60 * Mi)
set_option maxHeartbeats 4000000 in
theorem ku_off {news : List (Addr × Obj)} {z : Str} {v : Int} {t : Tok} : KuAt 86 news (KuOff z v) 2 [.str z t] (kuVal news (fun t => .int v t)) := by
  walk_at "ku_open"
  intro w loose mean mg mb dp un gd cn cs a₀ ccd cl outer A₀ base h₀ L m₀ s Q E kuB kuF kuX kuN kuT hk hpre hdn hun hret
  walk_at "ku_enter"
  k_steps
  · have ht9 : kuNamed z = true := (by assumption)
    rcases hpre with ⟨_, rfl⟩ | ⟨hf, _⟩
    · exact hret _ _ _ (by k_asm) (by k_asm)
    · exact absurd (ht9.symm.trans hf) (by decide)
  have ht9 : kuNamed z = false := (by assumption)
  rcases hpre with ⟨hf, _⟩ | ⟨_, a, b, li, b2, e2, b3, e3, H, Mi, neg, hz, ⟨r1, r2, r3, r5, r6, r7, r8⟩, hv⟩
  · exact absurd (hf.symm.trans ht9) (by decide)
  clear ht9
  subst hz hv
  (rename KTD.TextTab _ _ _ => kt1; clear kt1)
  (rename StrTab _ _ _ _ _ => kt2; clear kt2)
  refine ku_getSearch (P := w.params) (by k_in) ?_
  k_steps
  refine ku_searchK (P := w.params) (by k_in) (by k_asm) (by k_asm) r1 r2 r3 ?_
  intro x9 y9 h9 F9 N9 l9 k9
  replace l9 := allLt_of l9
  (try dsimp only)
  k_steps
  refine ku_matchTrue (by k_asm) (by k_mem) ?_
  k_steps
  refine ku_getGroup (by k_asm) (by k_mem) ?_
  k_steps
  refine ku_groupN (b := b2) (e := e2) (by k_asm) (by k_mem) (by k_mem) ⟨by decide, by simp only [List.length_cons, List.length_nil]; omega⟩ rfl rfl r3 ?_
  (try dsimp only)
  k_steps
  refine KIN.call_text r5 (ku_short r3) ?_
  (try dsimp only)
  k_steps
  refine ku_getGroup (by k_asm) (by k_mem) ?_
  k_steps
  refine ku_groupN (b := b3) (e := e3) (by k_asm) (by k_mem) (by k_mem) ⟨by decide, by simp only [List.length_cons, List.length_nil]; omega⟩ rfl rfl r3 ?_
  (try dsimp only)
  k_steps
  · refine ku_getGroup (by k_asm) (by k_mem) ?_
    k_steps
    refine ku_groupN (b := b3) (e := e3) (by k_asm) (by k_mem) (by k_mem) ⟨by decide, by simp only [List.length_cons, List.length_nil]; omega⟩ rfl rfl r3 ?_
    (try dsimp only)
    k_steps
    refine ku_getGroup (by k_asm) (by k_mem) ?_
    k_steps
    refine ku_groupN (b := 0) (e := 1) (by k_asm) (by k_mem) (by k_mem) ⟨by decide, by simp only [List.length_cons, List.length_nil]; omega⟩ rfl rfl r3 ?_
    (try dsimp only)
    k_steps
    · refine cb_retI hret ?_ (by k_asm) (cb_drop (by k_asm) (by kcj_all))
      rw [‹((⟨a.toArray.extract 0 1⟩ : Str) == Str.ofString "-") = true›] at r8
      subst r8
      rfl
    · refine cb_retI hret ?_ (by k_asm) (cb_drop (by k_asm) (by kcj_all))
      rw [‹((⟨a.toArray.extract 0 1⟩ : Str) == Str.ofString "-") = false›] at r8
      subst r8
      rfl
  · exfalso
    rw [r7] at *
    omega
/-- 2 ^ n, kept shut -/
@[irreducible] def kuPow (n : Nat) : Int := 2 ^ n
theorem kuPow_def (n : Nat) : kuPow n = 2 ^ n := by unfold kuPow; rfl
theorem kuPow_add (a b : Nat) : kuPow (a + b) = kuPow a * kuPow b := by rw [kuPow_def, kuPow_def, kuPow_def, kd9_add]
theorem kuPow_pos (n : Nat) : 0 < kuPow n := by rw [kuPow_def]; exact kd9_pow n
theorem kuPow_big {n : Nat} (h : 1 ≤ n) : 2 ≤ kuPow n := by
  obtain ⟨k, rfl⟩ : ∃ k, n = k + 1 := ⟨n - 1, by omega⟩
  rw [kuPow_def, kd9_succ]
  have := kd9_pow k
  omega
theorem kuPow_le {a b : Nat} (h : a ≤ b) : kuPow a ≤ kuPow b := by
  obtain ⟨k, rfl⟩ : ∃ k, b = k + a := ⟨b - a, by omega⟩
  rw [kuPow_add]
  have h1 := kuPow_pos k
  have := Int.mul_le_mul_of_nonneg_right (show (1 : Int) ≤ kuPow k by omega) (Int.le_of_lt (kuPow_pos a))
  omega
theorem ku_bitsP {x : Int} {k : Nat} (h : x.natAbs < (kuPow k).natAbs) : Builtin.Int.intBits x ≤ k := by
  refine PySem.intBits_le_iff.mpr ?_
  rw [kuPow_def] at h
  have := kbt_cast k
  have := kd9_pow k
  omega
abbrev kuP : Int := kuPow (Int.toNat 32)
theorem kuP_val : kuP = 4294967296 := by show kuPow 32 = _; rw [kuPow_def]; rfl
def kuCommon : List Int := [31, 28, 31, 30, 31, 30, 31, 31, 30, 31, 30, 31]
theorem kuCommon_le (i : Nat) : 0 ≤ kuCommon.getD i 0 ∧ kuCommon.getD i 0 ≤ 31 := by
  by_cases h : i < 12
  · have : i = 0 ∨ i = 1 ∨ i = 2 ∨ i = 3 ∨ i = 4 ∨ i = 5 ∨ i = 6 ∨ i = 7 ∨ i = 8 ∨ i = 9 ∨ i = 10 ∨ i = 11 := by omega
    rcases this with rfl | rfl | rfl | rfl | rfl | rfl | rfl | rfl | rfl | rfl | rfl | rfl <;> decide
  · have : kuCommon.getD i 0 = 0 := by
      rw [List.getD_eq_getElem?_getD, List.getElem?_eq_none (by simp only [kuCommon, List.length_cons, List.length_nil]; omega)]
      rfl
    omega
theorem ku_foldBits {f : Int → Int} : ∀ (ks : List Int) (a : Int) (m : Nat), (∀ k ∈ ks, (f k).natAbs < 2 ^ 20) → 20 ≤ m → a.natAbs < (kuPow m).natAbs → (ks.foldl (fun a k => a * kuP + f k) a).natAbs < (kuPow (m + 33 * ks.length)).natAbs
  | [], a, m, _, _, h => by simpa using h
  | k :: r, a, m, hk, hm, h => by
    rw [List.foldl_cons, show m + 33 * (k :: r).length = (m + 33) + 33 * r.length by rw [List.length_cons]; omega]
    refine ku_foldBits r _ (m + 33) (fun k h => hk k (List.mem_cons_of_mem _ h)) (by omega) ?_
    have h1 := hk k (List.mem_cons_self ..)
    have h2 := kuPow_le hm
    have h3 : kuPow 20 = 1048576 := by rw [kuPow_def]; rfl
    have h4 : kuPow 33 = 8589934592 := by rw [kuPow_def]; rfl
    have h5 := kuPow_pos m
    rw [kuPow_add, h4, kuP_val]
    omega
abbrev kuWh : Int := kuPow (Int.toNat 153600) - 1
theorem ku_partBits (n : Nat) (hn : 1 ≤ n) : Builtin.Int.intBits (kuWh.fdiv (kuPow n - 1)) ≤ 153600 := by
  have h0 := kuPow_big hn
  have h1 := kuPow_big (n := Int.toNat 153600) (by decide)
  refine ku_bitsP ?_
  rw [Int.fdiv_eq_ediv_of_nonneg _ (by omega)]
  have a1 : 0 ≤ kuWh / (kuPow n - 1) := Int.ediv_nonneg (by show 0 ≤ kuPow (Int.toNat 153600) - 1; omega) (by omega)
  have a2 : kuWh / (kuPow n - 1) ≤ kuWh := Int.ediv_le_self _ (by show 0 ≤ kuPow (Int.toNat 153600) - 1; omega)
  have a3 : kuWh = kuPow 153600 - 1 := rfl
  omega
theorem ku_mulBig {a : Int} {n : Nat} (hn : 1 ≤ n) (h : a.natAbs < (kuPow 160000).natAbs) : IntMulOk a (kuWh.fdiv (kuPow n - 1)) :=
  PyProof.Rows.mulOk_of_bits (ku_bitsP h) (ku_partBits n hn) (by decide)
def kuL12 (start : Int) : Int := List.foldl (fun a k => a * kuP + kuCommon.getD ((start + k).fmod 12).toNat 0) 0 (rangeKs 0 12)
def kuTn (ns : List Int) : Int := ns.foldl (fun a k => a * kuP + k) 0
theorem ku_L12 (start : Int) : (kuL12 start * kuP).natAbs < (kuPow 160000).natAbs := by
  have h := ku_foldBits (f := fun k => kuCommon.getD ((start + k).fmod 12).toNat 0) (rangeKs 0 12) 0 20 (fun k _ => by have := kuCommon_le ((start + k).fmod 12).toNat; show (kuCommon.getD ((start + k).fmod 12).toNat 0).natAbs < 2 ^ 20; omega) (by omega) (by have := kuPow_pos 20; omega)
  have e : (20 + 33 * (rangeKs 0 12).length) = 416 := by rw [rangeKs_length]
  rw [e] at h
  have h2 : kuPow (33 + 416) ≤ kuPow 160000 := kuPow_le (by decide)
  have h4 : kuPow 33 = 8589934592 := by rw [kuPow_def]; rfl
  rw [kuPow_add, h4] at h2
  have := kuPow_pos 416
  unfold kuL12
  rw [kuP_val] at h ⊢
  omega
theorem ku_Tn {ns : List Int} (h : ∀ k ∈ ns, k.natAbs < 2 ^ 20) (hl : ns.length ≤ 6) : (kuTn ns * kuP).natAbs < (kuPow 160000).natAbs := by
  have h := ku_foldBits (f := fun k => k) ns 0 20 h (by omega) (by have := kuPow_pos 20; omega)
  have h1 : kuPow (20 + 33 * ns.length) ≤ kuPow 416 := kuPow_le (by omega)
  have h2 : kuPow (33 + 416) ≤ kuPow 160000 := kuPow_le (by decide)
  have h4 : kuPow 33 = 8589934592 := by rw [kuPow_def]; rfl
  rw [kuPow_add, h4] at h2
  have := kuPow_pos (20 + 33 * ns.length)
  unfold kuTn
  rw [kuP_val] at h ⊢
  omega
theorem ku_once {n : Nat} (h : n ≤ 159999) (w : Int) (hw : w = 1 ∨ w = -1) : (w * kuPow n).natAbs < (kuPow 160000).natAbs := by
  have h4 : kuPow 1 = 2 := by rw [kuPow_def]; rfl
  have h2 : kuPow 160000 = 2 * kuPow 159999 := (kuPow_add 1 159999).trans (by rw [h4])
  have h3 := kuPow_le h
  have := kuPow_pos n
  rcases hw with rfl | rfl <;> omega
theorem ku_fmodB {x k : Int} (hk : 0 < k) : 0 ≤ x.fmod k ∧ x.fmod k < k := by
  rw [Int.fmod_eq_emod_of_nonneg _ (Int.le_of_lt hk)]
  exact ⟨Int.emod_nonneg _ (by omega), Int.emod_lt_of_pos _ hk⟩
theorem ku_smallP : Builtin.Int.intBits kuP ≤ 64 ∧ Builtin.Int.intBits (400000 * kuP) ≤ 64 ∧ Builtin.Int.intBits (kuP - 1) ≤ 64 := by
  rw [kuP_val]; decide
theorem ku_shl {prog : Program} {w : World} {A : Around} {E : Value → Shared → Prop} {s : Shared} {n : Int} {t u : Tok} {Q : Value → Shared → Prop} (hn : 0 ≤ n ∧ n ≤ 1000000) (h : Q (.int (kuPow n.toNat) s.toks) { s with toks := s.toks + 1 }) :
    wpAny (model prog w) A (binaryOp .LShift (.int 1 t) (.int n u)) Q E s := by
  refine lshift_int hn.1 (by rw [show Builtin.Int.intBits 1 = 1 by decide]; omega) ?_
  rw [Int.one_mul, ← kuPow_def]
  exact h
theorem ku_fdiv {prog : Program} {w : World} {A : Around} {E : Value → Shared → Prop} {s : Shared} {a : Int} {n : Nat} {t u : Tok} {Q : Value → Shared → Prop} (hn : 1 ≤ n) (hp : PylongRoom (model prog w) A s) (h : Q (.int (a.fdiv (kuPow n - 1)) s.toks) { s with toks := s.toks + 1 }) :
    wpAny (model prog w) A (binaryOp .FloorDiv (.int a t) (.int (kuPow n - 1) u)) Q E s :=
  floordiv_int (by have := kuPow_big hn; omega) h (Or.inr hp)
theorem ku_slim5 {h₀ h : Heap} {L : Addr} {m : Str → Option Value} {v1 v2 v3 v4 v5 : Value} (x1 x2 x3 x4 x5 : Str) (F : Fr h₀ L h m) (h1 : m x1 = some v1) (h2 : m x2 = some v2) (h3 : m x3 = some v3) (h4 : m x4 = some v4) (h5 : m x5 = some v5) :
    ∃ m' : Str → Option Value, Fr h₀ L h (fun y => if y = x1 then some v1 else if y = x2 then some v2 else if y = x3 then some v3 else if y = x4 then some v4 else if y = x5 then some v5 else m' y) := by
  refine ⟨m, ?_⟩
  refine cast (congrArg (Fr h₀ L h) ?_) F
  funext y
  split
  · rename_i e; rw [e, h1]
  · split
    · rename_i e; rw [e, h2]
    · split
      · rename_i e; rw [e, h3]
      · split
        · rename_i e; rw [e, h4]
        · split
          · rename_i e; rw [e, h5]
          · rfl
theorem ku_imp : importsNone Ku.hd.view_39 = true := by decide +kernel
/-- what _law_dividend gives back -/
def kuDvd (start : Int) (ns : List Int) : Int :=
  86400 * (kuL12 start * kuP * (kuWh.fdiv (kuPow (Int.toNat 384) - 1)) +
      1 * kuPow (32 * (48 - (1 - start).fmod 48)).toNat * (kuWh.fdiv (kuPow (Int.toNat (32 * 48)) - 1)) +
      (-1) * kuPow (32 * (1200 - (1 - start).fmod 1200)).toNat * (kuWh.fdiv (kuPow (Int.toNat (32 * 1200)) - 1)) +
      1 * kuPow (32 * (4800 - (1 - start).fmod 4800)).toNat * (kuWh.fdiv (kuPow (Int.toNat (32 * 4800)) - 1))) +
    400000 * kuP * kuWh - (kuP - 1) * (kuTn ns * kuP * (kuWh.fdiv (kuPow (Int.toNat (32 * (ns.length : Int))) - 1)))
section
local macro_rules | `(tactic| walk_at "binaryOp LShift int int") => `(tactic| (k_here; refine ku_shl (by first | decide | omega) ?_))
local macro_rules | `(tactic| walk_at "binaryOp FloorDiv int int") => `(tactic| (k_here; k_dflt (refine' ku_fdiv ?a9 ?b9 ?_; (case a9 => first | decide | omega); (case b9 => (refine' PylongRoom.of ?n9 ?d9 ?s9; (case n9 => exact Heap.NoLimit.keeps (Top.nolimit (by assumption)) (Fr.keep (by assumption))); (case d9 => assumption); (case s9 => (refine' PySem.SeerAt.of ?x1 ?x2 ?x3 ?x4 ?x5 ?x6 ?x7; (case x2 => rfl); (case x3 => first | rfl | exact PySem.Around.frames_deeper (PyProof.Rows.Below.stack (by assumption))); (case x4 => rfl); (case x5 => rfl); (case x6 => rfl); (case x7 => rfl); (case x1 => exact PySem.Heap.NoSeer.keeps (PyProof.Rows.Top.seer (by assumption) ku_imp) (PyProof.Rows.Fr.keep (by assumption))))))))))
local macro_rules | `(tactic| walk_at "binaryOp Mult int int") => `(tactic| (k_here; refine mul_int ?_ (by first | with_reducible assumption | exact IntMulOk.of_left (by with_reducible assumption) | exact IntMulOk.of_right (by with_reducible assumption) | exact IntMulOk.of_left (by decide) | ((with_reducible rename IntMulOk _ _ => h9); exact h9))))
structure KuGate2 : Prop where
structure KuGate3 : Prop where
local macro_rules | `(tactic| walk_at "binaryOp FloorDiv int int") => `(tactic| (k_here; (with_reducible rename KuGate3 => kg9); clear kg9; refine KuStop.on ?_))
local macro_rules | `(tactic| walk_at "exec For Name Name cons nil") => `(tactic| (k_here; (with_reducible rename KuGate2 => kg9); clear kg9; refine KuStop.on ?_))
local macro_rules | `(tactic| walk_at "pyIter ref") => `(tactic| (k_here; (with_reducible rename KuGate => kg9); clear kg9; refine KuStop.on ?_))
set_option maxHeartbeats 16000000 in
theorem ku_dvd {start : Int} {l : Addr} {vs : List Value} {c : Nat} {ns : List Int} {t : Tok} : KuAt 100 [(l, listOf vs.toArray c)] (IntsAre vs ns ∧ 1 ≤ ns.length ∧ ns.length ≤ 6 ∧ ∀ k ∈ ns, k.natAbs < 2 ^ 20) 110 [.int start t, .ref l] (kuVal [] fun t => .int (kuDvd start ns) t) := by
  walk_at "ku_open"
  intro w loose mean mg mb dp un gd cn cs a₀ ccd cl outer A₀ base h₀ L m₀ s Q E kuB kuF kuX kuN kuT hk hpre hdn hun hret
  obtain ⟨hI, hl1, hl6, hns⟩ := hpre
  have hroom : dp + 1 + Builtin.pylongFrames < recursionLimit := by
    have : Builtin.pylongFrames = 100 := rfl
    omega
  obtain ⟨hb0, hb1, hb2⟩ := ku_smallP
  have f48 := ku_fmodB (x := 1 - start) (k := 48) (by decide)
  have f1200 := ku_fmodB (x := 1 - start) (k := 1200) (by decide)
  have f4800 := ku_fmodB (x := 1 - start) (k := 4800) (by decide)
  have m1 : IntMulOk (List.foldl (fun a k => a * kuP + kuCommon.getD ((start + k).fmod 12).toNat 0) 0 (rangeKs 0 12) * kuP) (kuWh.fdiv (kuPow (Int.toNat 384) - 1)) := ku_mulBig (by decide) (ku_L12 start)
  have m2 : IntMulOk (1 * kuPow (32 * (48 - (1 - start).fmod 48)).toNat) (kuWh.fdiv (kuPow (Int.toNat (32 * 48)) - 1)) := ku_mulBig (by decide) (ku_once (by omega) _ (Or.inl rfl))
  have m3 : IntMulOk ((-1) * kuPow (32 * (1200 - (1 - start).fmod 1200)).toNat) (kuWh.fdiv (kuPow (Int.toNat (32 * 1200)) - 1)) := ku_mulBig (by decide) (ku_once (by omega) _ (Or.inr rfl))
  have m4 : IntMulOk (1 * kuPow (32 * (4800 - (1 - start).fmod 4800)).toNat) (kuWh.fdiv (kuPow (Int.toNat (32 * 4800)) - 1)) := ku_mulBig (by decide) (ku_once (by omega) _ (Or.inl rfl))
  have m5 := ku_mulBig (n := Int.toNat (32 * (ns.length : Int))) (by omega) (ku_Tn hns hl6)
  have kuG : KuGate := KuGate.mk
  walk_at "ku_enter"
  k_steps
  refine KuStop.off (ku_forRange (Str.ofString "lengths") [] 12 (fun a k => a * kuP + kuCommon.getD ((start + k).fmod 12).toNat 0) rfl rfl (by assumption) (by decide) (by decide) (by k_asm) (by k_asm) rfl ?_ ?_)
  · intro k9 t9 a9 ta9 u9 h9 tk9 own9 hk9 ho9 F9 N9
    dsimp only [envOf] at F9 N9
    k_sweep
    k_steps
  intro u9 t9 h9 tk9 F9 N9
  dsimp only [envOf] at F9 N9
  (try dsimp only)
  k_sweep
  obtain ⟨m8, F8⟩ := ku_slim5 (Str.ofString "lengths") (Str.ofString "place") (Str.ofString "whole") (Str.ofString "start") (Str.ofString "sizes") F9 rfl rfl rfl rfl rfl
  clear F9
  have kuG2 : KuGate2 := KuGate2.mk
  k_steps
  refine KuStop.off ?_
  (rename News _ _ _ _ => nOld)
  have N2 := cb_drop (news := [(l, listOf vs.toArray c)]) nOld (by kcj_all)
  clear nOld
  (rename Fr _ _ _ _ => fOld)
  obtain ⟨m7, F7⟩ := ku_slim5 (Str.ofString "turns") (Str.ofString "lengths") (Str.ofString "place") (Str.ofString "whole") (Str.ofString "sizes") fOld rfl rfl rfl rfl rfl
  clear fOld m1 m2 m3 m4 f48 f1200 f4800
  obtain ⟨a1, ns, rfl⟩ : ∃ a1 r, ns = a1 :: r := by
    cases ns with
    | nil => exact absurd hl1 (by decide)
    | cons a r => exact ⟨a, r, rfl⟩
  rcases ns with _ | ⟨a2, ns⟩
  · have m6 : IntMulOk ((0 * kuPow (Int.toNat 32) + a1) * kuPow (Int.toNat 32)) ((kuPow (Int.toNat 153600) - 1).fdiv (kuPow (Int.toNat (32 * 1)) - 1)) := m5
    cases hI
    rename_i hI
    cases hI
    have kuG3 : KuGate3 := KuGate3.mk
    (rename Fr _ _ _ _ => lF')
    (with_unfolding_all refine' For_turns lF' ?_)
    k_steps
    refine KuStop.off ?_
    refine ku_fdiv (by decide) (PylongRoom.of (Heap.NoLimit.keeps (Top.nolimit (by assumption)) (Fr.keep (by assumption))) (by assumption) (PySem.SeerAt.of (PySem.Heap.NoSeer.keeps (PyProof.Rows.Top.seer (by assumption) ku_imp) (PyProof.Rows.Fr.keep (by assumption))) rfl rfl rfl rfl rfl rfl)) ?_
    dsimp only
    refine mul_int ?_ m6
    dsimp only
    k_steps
    exact cb_retI hret rfl (by k_asm) (cb_drop (by k_asm) (by kcj_all))
  rcases ns with _ | ⟨a3, ns⟩
  · have m6 : IntMulOk (((0 * kuPow (Int.toNat 32) + a1) * kuPow (Int.toNat 32) + a2) * kuPow (Int.toNat 32)) ((kuPow (Int.toNat 153600) - 1).fdiv (kuPow (Int.toNat (32 * 2)) - 1)) := m5
    cases hI
    rename_i hI
    cases hI
    rename_i hI
    cases hI
    have kuG3 : KuGate3 := KuGate3.mk
    (rename Fr _ _ _ _ => lF')
    (with_unfolding_all refine' For_turns lF' ?_)
    k_steps
    refine KuStop.off ?_
    refine ku_fdiv (by decide) (PylongRoom.of (Heap.NoLimit.keeps (Top.nolimit (by assumption)) (Fr.keep (by assumption))) (by assumption) (PySem.SeerAt.of (PySem.Heap.NoSeer.keeps (PyProof.Rows.Top.seer (by assumption) ku_imp) (PyProof.Rows.Fr.keep (by assumption))) rfl rfl rfl rfl rfl rfl)) ?_
    dsimp only
    refine mul_int ?_ m6
    dsimp only
    k_steps
    exact cb_retI hret rfl (by k_asm) (cb_drop (by k_asm) (by kcj_all))
  rcases ns with _ | ⟨a4, ns⟩
  · have m6 : IntMulOk ((((0 * kuPow (Int.toNat 32) + a1) * kuPow (Int.toNat 32) + a2) * kuPow (Int.toNat 32) + a3) * kuPow (Int.toNat 32)) ((kuPow (Int.toNat 153600) - 1).fdiv (kuPow (Int.toNat (32 * 3)) - 1)) := m5
    cases hI
    rename_i hI
    cases hI
    rename_i hI
    cases hI
    rename_i hI
    cases hI
    have kuG3 : KuGate3 := KuGate3.mk
    (rename Fr _ _ _ _ => lF')
    (with_unfolding_all refine' For_turns lF' ?_)
    k_steps
    refine KuStop.off ?_
    refine ku_fdiv (by decide) (PylongRoom.of (Heap.NoLimit.keeps (Top.nolimit (by assumption)) (Fr.keep (by assumption))) (by assumption) (PySem.SeerAt.of (PySem.Heap.NoSeer.keeps (PyProof.Rows.Top.seer (by assumption) ku_imp) (PyProof.Rows.Fr.keep (by assumption))) rfl rfl rfl rfl rfl rfl)) ?_
    dsimp only
    refine mul_int ?_ m6
    dsimp only
    k_steps
    exact cb_retI hret rfl (by k_asm) (cb_drop (by k_asm) (by kcj_all))
  rcases ns with _ | ⟨a5, ns⟩
  · have m6 : IntMulOk (((((0 * kuPow (Int.toNat 32) + a1) * kuPow (Int.toNat 32) + a2) * kuPow (Int.toNat 32) + a3) * kuPow (Int.toNat 32) + a4) * kuPow (Int.toNat 32)) ((kuPow (Int.toNat 153600) - 1).fdiv (kuPow (Int.toNat (32 * 4)) - 1)) := m5
    cases hI
    rename_i hI
    cases hI
    rename_i hI
    cases hI
    rename_i hI
    cases hI
    rename_i hI
    cases hI
    have kuG3 : KuGate3 := KuGate3.mk
    (rename Fr _ _ _ _ => lF')
    (with_unfolding_all refine' For_turns lF' ?_)
    k_steps
    refine KuStop.off ?_
    refine ku_fdiv (by decide) (PylongRoom.of (Heap.NoLimit.keeps (Top.nolimit (by assumption)) (Fr.keep (by assumption))) (by assumption) (PySem.SeerAt.of (PySem.Heap.NoSeer.keeps (PyProof.Rows.Top.seer (by assumption) ku_imp) (PyProof.Rows.Fr.keep (by assumption))) rfl rfl rfl rfl rfl rfl)) ?_
    dsimp only
    refine mul_int ?_ m6
    dsimp only
    k_steps
    exact cb_retI hret rfl (by k_asm) (cb_drop (by k_asm) (by kcj_all))
  rcases ns with _ | ⟨a6, ns⟩
  · have m6 : IntMulOk ((((((0 * kuPow (Int.toNat 32) + a1) * kuPow (Int.toNat 32) + a2) * kuPow (Int.toNat 32) + a3) * kuPow (Int.toNat 32) + a4) * kuPow (Int.toNat 32) + a5) * kuPow (Int.toNat 32)) ((kuPow (Int.toNat 153600) - 1).fdiv (kuPow (Int.toNat (32 * 5)) - 1)) := m5
    cases hI
    rename_i hI
    cases hI
    rename_i hI
    cases hI
    rename_i hI
    cases hI
    rename_i hI
    cases hI
    rename_i hI
    cases hI
    have kuG3 : KuGate3 := KuGate3.mk
    (rename Fr _ _ _ _ => lF')
    (with_unfolding_all refine' For_turns lF' ?_)
    k_steps
    refine KuStop.off ?_
    refine ku_fdiv (by decide) (PylongRoom.of (Heap.NoLimit.keeps (Top.nolimit (by assumption)) (Fr.keep (by assumption))) (by assumption) (PySem.SeerAt.of (PySem.Heap.NoSeer.keeps (PyProof.Rows.Top.seer (by assumption) ku_imp) (PyProof.Rows.Fr.keep (by assumption))) rfl rfl rfl rfl rfl rfl)) ?_
    dsimp only
    refine mul_int ?_ m6
    dsimp only
    k_steps
    exact cb_retI hret rfl (by k_asm) (cb_drop (by k_asm) (by kcj_all))
  rcases ns with _ | ⟨a7, ns⟩
  · have m6 : IntMulOk (((((((0 * kuPow (Int.toNat 32) + a1) * kuPow (Int.toNat 32) + a2) * kuPow (Int.toNat 32) + a3) * kuPow (Int.toNat 32) + a4) * kuPow (Int.toNat 32) + a5) * kuPow (Int.toNat 32) + a6) * kuPow (Int.toNat 32)) ((kuPow (Int.toNat 153600) - 1).fdiv (kuPow (Int.toNat (32 * 6)) - 1)) := m5
    cases hI
    rename_i hI
    cases hI
    rename_i hI
    cases hI
    rename_i hI
    cases hI
    rename_i hI
    cases hI
    rename_i hI
    cases hI
    rename_i hI
    cases hI
    have kuG3 : KuGate3 := KuGate3.mk
    (rename Fr _ _ _ _ => lF')
    (with_unfolding_all refine' For_turns lF' ?_)
    k_steps
    refine KuStop.off ?_
    refine ku_fdiv (by decide) (PylongRoom.of (Heap.NoLimit.keeps (Top.nolimit (by assumption)) (Fr.keep (by assumption))) (by assumption) (PySem.SeerAt.of (PySem.Heap.NoSeer.keeps (PyProof.Rows.Top.seer (by assumption) ku_imp) (PyProof.Rows.Fr.keep (by assumption))) rfl rfl rfl rfl rfl rfl)) ?_
    dsimp only
    refine mul_int ?_ m6
    dsimp only
    k_steps
    exact cb_retI hret rfl (by k_asm) (cb_drop (by k_asm) (by kcj_all))
  exact absurd hl6 (by simp only [List.length_cons]; omega)
end
theorem ku_restPGo {prog : Program} {w : World} {A : Around} {s : Shared} {h₀ : Heap} {L : Addr} {m : Str → Option Value} {env : Env} {elt : PySem.Expr} {x x₂ : Str} {scope : Scope} {cl : List (Str × Addr)} {S : List (Addr × Obj) → Prop} {P : Nat → Value → Prop} {Fin : List Value → List (Addr × Obj) → Prop} {news : List (Addr × Obj)} {n : Nat} {G : Nat → Value → Value → Prop} {R : Nat → Value → Prop} (hS : S news)
    (src : ∀ i v, i < n → P i v → ∃ (t : Addr) (ot : Obj) (v₁ v₂ : Value) (nt : Nat), v = .ref t ∧ (t, ot) ∈ news ∧ ot.cls = .type "tuple" ∧ ot.data = .seq #[v₁, v₂] nt ∧ G i v₁ v₂)
    (turn : ∀ i v₁ v₂ ys I oI C oC D m₂ h tk (E' : Value → Shared → Prop) (Q : Value → Shared → Prop), i < n → G i v₁ v₂ → LCg.NsObj oC m₂ → m₂ x = some v₁ → m₂ x₂ = some v₂ → Fr h₀ L h m → News h₀ L h ((I, oI) :: (C, oC) :: (D, LCg.lst ys) :: news) → LCg.Off3 I C D news → ((@Ne Nat I C) ∧ (@Ne Nat I D) ∧ (@Ne Nat C D)) →
      (∀ y h' tk', R i y → Fr h₀ L h' m → News h₀ L h' ((I, oI) :: (C, oC) :: (D, LCg.lst ys) :: news) → Q y { s with heap := h', toks := tk' }) →
      wpAny (model prog w) A (eval elt (compEnvC scope cl C env)) Q E' { s with heap := h, toks := tk })
    (done : ∀ ys, ys.length = n → (∀ i y, ys[i]? = some y → R i y) → Fin ys news) :
    ∀ (k i : Nat) (ys : List Value), i + k = n → ys.length = i → (∀ i y, ys[i]? = some y → R i y) → LCp.CompRestP prog w A h₀ L m env elt x x₂ scope cl s S P Fin k i ys news
  | 0, i, ys, hk, hl, hy => LCp.CompRestP.zero (done ys (by omega) hy)
  | k + 1, i, ys, hk, hl, hy => by
    refine LCp.CompRestP.succ fun v hv => ?_
    obtain ⟨t, ot, v₁, v₂, nt, e1, e2, e3, e4, g⟩ := src i v (by omega) hv
    refine ⟨t, ot, v₁, v₂, nt, e1, e2, e3, e4, ?_⟩
    intro I oI C oC D m₂ h tk E' hC h1 h2 F N off ne
    refine turn i v₁ v₂ ys I oI C oC D m₂ h tk E' _ (by omega) g hC h1 h2 F N off ne ?_
    intro y h' tk' hR F' N'
    refine LCg.CompEnd.intro F' N' news (fun p hp => hp) off hS ?_
    refine ku_restPGo hS src turn done k (i + 1) (ys ++ [y]) (by omega) (by rw [List.length_append, hl]; rfl) ?_
    intro j z hz
    rw [List.getElem?_append] at hz
    split at hz
    · exact hy j z hz
    · rename_i hj
      have : j = i := by
        have := (List.getElem?_eq_some_iff.mp hz).1
        simp only [List.length_cons, List.length_nil] at this
        omega
      subst this
      rw [hl, Nat.sub_self] at hz
      cases hz
      exact hR
/-- a comprehension over pairs that keeps the ledger as it is -/
theorem ku_restP {prog : Program} {w : World} {A : Around} {s : Shared} {h₀ : Heap} {L : Addr} {m : Str → Option Value} {env : Env} {elt : PySem.Expr} {x x₂ : Str} {scope : Scope} {cl : List (Str × Addr)} {S : List (Addr × Obj) → Prop} {P : Nat → Value → Prop} {Fin : List Value → List (Addr × Obj) → Prop} {news : List (Addr × Obj)} {n : Nat} (G : Nat → Value → Value → Prop) (R : Nat → Value → Prop) (hS : S news)
    (src : ∀ i v, i < n → P i v → ∃ (t : Addr) (ot : Obj) (v₁ v₂ : Value) (nt : Nat), v = .ref t ∧ (t, ot) ∈ news ∧ ot.cls = .type "tuple" ∧ ot.data = .seq #[v₁, v₂] nt ∧ G i v₁ v₂)
    (turn : ∀ i v₁ v₂ ys I oI C oC D m₂ h tk (E' : Value → Shared → Prop) (Q : Value → Shared → Prop), i < n → G i v₁ v₂ → LCg.NsObj oC m₂ → m₂ x = some v₁ → m₂ x₂ = some v₂ → Fr h₀ L h m → News h₀ L h ((I, oI) :: (C, oC) :: (D, LCg.lst ys) :: news) → LCg.Off3 I C D news → ((@Ne Nat I C) ∧ (@Ne Nat I D) ∧ (@Ne Nat C D)) →
      (∀ y h' tk', R i y → Fr h₀ L h' m → News h₀ L h' ((I, oI) :: (C, oC) :: (D, LCg.lst ys) :: news) → Q y { s with heap := h', toks := tk' }) →
      wpAny (model prog w) A (eval elt (compEnvC scope cl C env)) Q E' { s with heap := h, toks := tk })
    (done : ∀ ys, ys.length = n → (∀ i y, ys[i]? = some y → R i y) → Fin ys news) :
    LCp.CompRestP prog w A h₀ L m env elt x x₂ scope cl s S P Fin n 0 [] news :=
  ku_restPGo hS src turn done n 0 [] (Nat.zero_add n) rfl (fun _ _ h => nomatch h)
/-- ints, one by one -/
theorem ku_intsOf : ∀ {vs : List Value} {ns : List Int}, vs.length = ns.length → (∀ i y, vs[i]? = some y → ∃ t, y = Value.int (ns.getD i 0) t) → IntsAre vs ns
  | [], [], _, _ => IntsAre.nil
  | [], _ :: _, h, _ => nomatch h
  | _ :: _, [], h, _ => nomatch h
  | v :: vs, k :: ns, h, f => by
    obtain ⟨t, rfl⟩ := f 0 v rfl
    exact IntsAre.cons k t (ku_intsOf (Nat.succ.inj h) (fun i y e => f (i + 1) y e))
theorem ku_intsAt : ∀ {vs : List Value} {ns : List Int}, IntsAre vs ns → ∀ i, i < ns.length → ∃ t, vs[i]? = some (Value.int (ns.getD i 0) t)
  | _, _, .nil, i, h => absurd h (Nat.not_lt_zero i)
  | _, _, .cons _ t _, 0, _ => ⟨t, rfl⟩
  | _, _, .cons _ _ r, i + 1, h => ku_intsAt r i (Nat.lt_of_succ_lt_succ h)
theorem ku_intsLen : ∀ {vs : List Value} {ns : List Int}, IntsAre vs ns → vs.length = ns.length
  | _, _, .nil => rfl
  | _, _, .cons _ _ r => congrArg (· + 1) (ku_intsLen r)
theorem ku_restGo {prog : Program} {w : World} {A : Around} {s : Shared} {h₀ : Heap} {L : Addr} {m : Str → Option Value} {env : Env} {elt : PySem.Expr} {x : Str} {scope : Scope} {cl : List (Str × Addr)} {S : List (Addr × Obj) → Prop} {P : Nat → Value → Prop} {Fin : List Value → List (Addr × Obj) → Prop} {n : Nat} (Inv : Nat → List Value → List (Addr × Obj) → Prop) (hS : ∀ i ys news, Inv i ys news → S news)
    (turn : ∀ i v ys news I oI C oC D m₂ h tk (E' : Value → Shared → Prop) (Q : Value → Shared → Prop), i < n → Inv i ys news → P i v → LCg.NsObj oC m₂ → m₂ x = some v → Fr h₀ L h m → News h₀ L h ((I, oI) :: (C, oC) :: (D, LCg.lst ys) :: news) → LCg.Off3 I C D news → ((@Ne Nat I C) ∧ (@Ne Nat I D) ∧ (@Ne Nat C D)) →
      (∀ y h' tk' news', Inv (i + 1) (ys ++ [y]) news' → Fr h₀ L h' m → News h₀ L h' ((I, oI) :: (C, oC) :: (D, LCg.lst ys) :: news') → LCg.Off3 I C D news' → Q y { s with heap := h', toks := tk' }) →
      wpAny (model prog w) A (eval elt (compEnvC scope cl C env)) Q E' { s with heap := h, toks := tk })
    (done : ∀ ys news, Inv n ys news → Fin ys news) :
    ∀ (k i : Nat) (ys : List Value) (news : List (Addr × Obj)), i + k = n → Inv i ys news → LCg.CompRest prog w A h₀ L m env elt x scope cl s S P Fin k i ys news
  | 0, i, ys, news, hk, hi => LCg.CompRest.zero (done ys news (by rw [Nat.add_zero] at hk; rw [← hk]; exact hi))
  | k + 1, i, ys, news, hk, hi => by
    refine LCg.CompRest.succ ?_
    intro v I oI C oC D m₂ h tk E' hv hC h1 F N off ne
    refine turn i v ys news I oI C oC D m₂ h tk E' _ (by omega) hi hv hC h1 F N off ne ?_
    intro y h' tk' news' hi' F' N' off'
    exact LCg.CompEnd.intro F' N' news' (fun p hp => hp) off' (hS _ _ _ hi') (ku_restGo Inv hS turn done k (i + 1) (ys ++ [y]) news' (by omega) hi')
/-- a row of pairs in the ledger -/
def KuZones (nw : List (Addr × Obj)) (zvs : List Value) (zs : List (Str × Int)) : Prop :=
  zvs.length = zs.length ∧ ∀ (i : Nat) (v : Value), zvs[i]? = some v → ∃ z : Str × Int, zs[i]? = some z ∧ ∃ (D : Addr) (c : Nat) (t1 t2 : Tok), v = .ref D ∧ (D, kuPairO (.str z.1 t1) (.int z.2 t2) c) ∈ nw
theorem KuZones.nil {nw : List (Addr × Obj)} : KuZones nw [] [] := ⟨rfl, fun _ _ h => nomatch h⟩
theorem KuZones.up {nw nw' : List (Addr × Obj)} {zvs : List Value} {zs : List (Str × Int)} (h : KuZones nw zvs zs) (u : ∀ p ∈ nw, p ∈ nw') : KuZones nw' zvs zs := ⟨h.1, fun i v e => by
  obtain ⟨z, hz, D, c, t1, t2, e1, e2⟩ := h.2 i v e
  exact ⟨z, hz, D, c, t1, t2, e1, u _ e2⟩⟩
theorem KuZones.snoc {nw : List (Addr × Obj)} {zvs : List Value} {zs : List (Str × Int)} {D : Addr} {c : Nat} {t1 t2 : Tok} {z : Str × Int} (h : KuZones nw zvs zs) (hm : (D, kuPairO (.str z.1 t1) (.int z.2 t2) c) ∈ nw) : KuZones nw (zvs ++ [.ref D]) (zs ++ [z]) := by
  refine ⟨by rw [List.length_append, List.length_append, h.1]; rfl, fun i v e => ?_⟩
  rw [List.getElem?_append] at e
  rw [List.getElem?_append]
  split at e
  · rename_i hi
    rw [if_pos (h.1 ▸ hi)]
    exact h.2 i v e
  · rename_i hi
    have hi' : i - zvs.length = 0 := by
      have := (List.getElem?_eq_some_iff.mp e).1
      simp only [List.length_cons, List.length_nil] at this
      omega
    rw [if_neg (by rw [← h.1]; exact hi), ← h.1, hi']
    rw [hi'] at e
    cases e
    exact ⟨z, rfl, D, c, t1, t2, rfl, hm⟩
theorem ku_slim2 {h₀ h : Heap} {L : Addr} {m : Str → Option Value} {v1 v2 : Value} (x1 x2 : Str) (F : Fr h₀ L h m) (h1 : m x1 = some v1) (h2 : m x2 = some v2) :
    ∃ m' : Str → Option Value, Fr h₀ L h (fun y => if y = x1 then some v1 else if y = x2 then some v2 else m' y) := ⟨m, ku_two h1 h2 ▸ F⟩
theorem ku_slim3 {h₀ h : Heap} {L : Addr} {m : Str → Option Value} {v1 v2 v3 : Value} (x1 x2 x3 : Str) (F : Fr h₀ L h m) (h1 : m x1 = some v1) (h2 : m x2 = some v2) (h3 : m x3 = some v3) :
    ∃ m' : Str → Option Value, Fr h₀ L h (fun y => if y = x1 then some v1 else if y = x2 then some v2 else if y = x3 then some v3 else m' y) := by
  refine ⟨m, cast (congrArg (Fr h₀ L h) ?_) F⟩
  funext y
  split
  · rename_i e; rw [e, h1]
  · split
    · rename_i e; rw [e, h2]
    · split
      · rename_i e; rw [e, h3]
      · rfl
theorem ku_newsIn {h₀ h : Heap} {L : Addr} {a b c d : Addr × Obj} {r : List (Addr × Obj)} (N : News h₀ L h (d :: a :: b :: c :: r)) : News h₀ L h (a :: b :: c :: d :: r) := fun p hp => N p (by
  simp only [List.mem_cons] at hp ⊢
  rcases hp with h | h | h | h | h
  · exact .inr (.inl h)
  · exact .inr (.inr (.inl h))
  · exact .inr (.inr (.inr (.inl h)))
  · exact .inl h
  · exact .inr (.inr (.inr (.inr h))))
theorem ku_offIn {I C D D9 : Addr} {oI oC oD o9 : Obj} {r : List (Addr × Obj)} (a : AllLt D9 ((I, oI) :: (C, oC) :: (D, oD) :: r)) (o : LCg.Off3 I C D r) : LCg.Off3 I C D ((D9, o9) :: r) :=
  ⟨⟨Nat.ne_of_gt a.1, Nat.ne_of_gt a.2.1, Nat.ne_of_gt a.2.2.1⟩, o⟩
abbrev kuZone (x : Int) : Str × Int := (kuTextOf x, kuSizeOf x)
theorem ku_zoneTake {ms : List Int} {i : Nat} (h : i < ms.length) : (ms.take (i + 1)).map kuZone = (ms.take i).map kuZone ++ [kuZone (ms.getD i 0)] := by
  rw [List.take_add_one, List.map_append, List.getElem?_eq_getElem h, List.getD_eq_getElem?_getD, List.getElem?_eq_getElem h]
  rfl
theorem ku_zonesRest {prog : Program} {w : World} {A : Around} {s : Shared} {h₀ : Heap} {L Ds : Addr} {m : Str → Option Value} {env : Env} {elt : PySem.Expr} {x : Str} {scope : Scope} {cl : List (Str × Addr)} {Fin : List Value → List (Addr × Obj) → Prop} {ws : List Value} {ms : List Int} (hJ : IntsAre ws ms)
    (turn : ∀ (k : Int) t ys news I oI C oC D m₂ h tk (E' : Value → Shared → Prop) (Q : Value → Shared → Prop), LCg.NsObj oC m₂ → m₂ x = some (.int k t) → Fr h₀ L h m → News h₀ L h ((I, oI) :: (C, oC) :: (D, LCg.lst ys) :: news) → LCg.Off3 I C D news → ((@Ne Nat I C) ∧ (@Ne Nat I D) ∧ (@Ne Nat C D)) →
      kuPair ((I, oI) :: (C, oC) :: (D, LCg.lst ys) :: news) (fun t => .str (kuTextOf k) t) (fun t => .int (kuSizeOf k) t) h₀ L m s Q →
      wpAny (model prog w) A (eval elt (compEnvC scope cl C env)) Q E' { s with heap := h, toks := tk })
    (done : ∀ ys news, KuZones news ys (ms.map kuZone) → Fin ys news) :
    LCg.CompRest prog w A h₀ L m env elt x scope cl s (LCg.SrcAt h₀ Ds ws.toArray) (fun i v => ws.toArray[i]? = some v) Fin ws.toArray.size 0 [] [(Ds, listOf ws.toArray 0)] := by
  have hlen : ws.toArray.size = ms.length := by rw [List.size_toArray, ku_intsLen hJ]
  refine ku_restGo (n := ws.toArray.size) (fun i ys nw => (Ds, listOf ws.toArray 0) ∈ nw ∧ KuZones nw ys ((ms.take i).map kuZone)) ?_ ?_ ?_ _ 0 [] _ (Nat.zero_add _) ⟨List.mem_singleton.mpr rfl, KuZones.nil⟩
  · rintro i ys news ⟨hm, _⟩
    exact .inr ⟨_, hm, rfl, _, rfl⟩
  · rintro i v ys news I oI C oC D m₂ h tk E' Q hi ⟨hm, hz⟩ hv hC hx F N off ne hq
    rw [hlen] at hi
    obtain ⟨t, ht⟩ := ku_intsAt hJ i hi
    rw [List.getElem?_toArray, ht] at hv
    cases hv
    refine turn (ms.getD i 0) t ys news I oI C oC D m₂ h tk E' Q hC hx F N off ne ?_
    intro D9 t1 t2 c h' tk' F' N' a9
    refine hq _ h' tk' ((D9, kuPairO (.str (kuTextOf (ms.getD i 0)) t1) (.int (kuSizeOf (ms.getD i 0)) t2) c) :: news) ⟨List.mem_cons_of_mem _ hm, ?_⟩ F' (ku_newsIn N') (ku_offIn a9 off)
    rw [ku_zoneTake hi]
    exact (hz.up fun p hp => List.mem_cons_of_mem _ hp).snoc (z := kuZone (ms.getD i 0)) (List.mem_cons_self ..)
  · rintro ys news ⟨_, hz⟩
    rw [hlen, List.take_of_length_le (Nat.le_refl _)] at hz
    exact done ys news hz
theorem ku_pairsRest {prog : Program} {w : World} {A : Around} {s : Shared} {h₀ : Heap} {L ax : Addr} {m : Str → Option Value} {env : Env} {elt : PySem.Expr} {x x₂ : Str} {scope : Scope} {cl : List (Str × Addr)} {Fin : List Value → List (Addr × Obj) → Prop} {news : List (Addr × Obj)} {zvs : List Value} {zs : List (Str × Int)} (hz : KuZones news zvs zs) (hS : LCg.SrcAt h₀ ax zvs.toArray news)
    (turn : ∀ (z : Str × Int) t1 t2 ys I oI C oC D m₂ h tk (E' : Value → Shared → Prop) (Q : Value → Shared → Prop), z ∈ zs → LCg.NsObj oC m₂ → m₂ x = some (.str z.1 t1) → m₂ x₂ = some (.int z.2 t2) → Fr h₀ L h m → News h₀ L h ((I, oI) :: (C, oC) :: (D, LCg.lst ys) :: news) → LCg.Off3 I C D news → ((@Ne Nat I C) ∧ (@Ne Nat I D) ∧ (@Ne Nat C D)) →
      kuVal ((I, oI) :: (C, oC) :: (D, LCg.lst ys) :: news) (fun t => .int z.2 t) h₀ L m s Q →
      wpAny (model prog w) A (eval elt (compEnvC scope cl C env)) Q E' { s with heap := h, toks := tk })
    (done : ∀ ys, IntsAre ys (zs.map (·.2)) → Fin ys news) :
    LCp.CompRestP prog w A h₀ L m env elt x x₂ scope cl s (LCg.SrcAt h₀ ax zvs.toArray) (fun i v => zvs.toArray[i]? = some v) Fin zvs.toArray.size 0 [] news := by
  have hlen : zvs.toArray.size = zs.length := by rw [List.size_toArray, hz.1]
  refine ku_restP (fun i v₁ v₂ => ∃ z t1 t2, zs[i]? = some z ∧ v₁ = .str z.1 t1 ∧ v₂ = .int z.2 t2) (fun i y => ∃ t, y = Value.int ((zs.map (·.2)).getD i 0) t) hS ?_ ?_ ?_
  · intro i v _ hv
    rw [List.getElem?_toArray] at hv
    obtain ⟨z, e, D, c, t1, t2, rfl, hm⟩ := hz.2 i v hv
    exact ⟨D, _, _, _, c, rfl, hm, rfl, rfl, z, t1, t2, e, rfl, rfl⟩
  · rintro i v₁ v₂ ys I oI C oC D m₂ h tk E' Q _ ⟨z, t1, t2, e, rfl, rfl⟩ hC h1 h2 F N off ne hq
    refine turn z t1 t2 ys I oI C oC D m₂ h tk E' Q (List.mem_of_getElem? e) hC h1 h2 F N off ne ?_
    intro t h' tk' F' N'
    refine hq _ h' tk' ⟨t, ?_⟩ F' N'
    rw [List.getD_eq_getElem?_getD, List.getElem?_map, e]
    rfl
  · intro ys hl hy
    exact done ys (ku_intsOf (by rw [hl, hlen, List.length_map]) hy)
theorem ku_five {vs : List Value} {l : Nat} {x : List Int} (_ : IntsAre vs (List.take (min 6 l - 1) x)) : (List.take (min 6 l - 1) x).length ≤ 5 := by rw [List.length_take]; omega
/-- what a statement leaves behind is told, and nothing else is handed on -/
theorem ku_cut {M : Model} {A : Around} {E : Value → Shared → Prop} {s : Shared} {h₀ h : Heap} {L : Addr} {m : Str → Option Value} {st : Stmt} {rest : List Stmt} {env : Env} {Q : Flow → Shared → Prop} (_F : Fr h₀ L h m) (I : (Str → Option Value) → List (Addr × Obj) → Prop)
    (h1 : ∀ Q' : Flow → Shared → Prop, (∀ h' tk m' nw, I m' nw → Fr h₀ L h' m' → News h₀ L h' nw → Q' .next { s with heap := h', toks := tk }) → wpAny M A (exec st env) Q' E s)
    (h2 : ∀ h' tk m' nw, I m' nw → Fr h₀ L h' m' → News h₀ L h' nw → wpAny M A (execs rest env) Q E { s with heap := h', toks := tk }) :
    wpAny M A (execs (st :: rest) env) Q E s := by
  refine wpAny_execs_cons (wpAny_mono (h1 (fun fl s' => fl = .next ∧ ∃ h' tk m' nw, s' = { s with heap := h', toks := tk } ∧ I m' nw ∧ Fr h₀ L h' m' ∧ News h₀ L h' nw) ?_) ?_ fun _ _ e => e)
  · intro h' tk m' nw i F N
    exact ⟨rfl, h', tk, m', nw, rfl, i, F, N⟩
  · rintro fl s' ⟨rfl, h', tk, m', nw, rfl, i, F, N⟩
    exact h2 h' tk m' nw i F N
abbrev KuI1 (ax : Addr) (m' : Str → Option Value) (nw : List (Addr × Obj)) : Prop := nw = [] ∧ ∃ (n : Int) (t : Tok) (m₀ : Str → Option Value), m' = fun y => if y = Str.ofString "start" then some (.int n t) else if y = Str.ofString "script" then some (.ref ax) else m₀ y
theorem ku_cut1 {M : Model} {A : Around} {E : Value → Shared → Prop} {s : Shared} {h₀ h : Heap} {L ax : Addr} {vs : List Value} {m : Str → Option Value} {st : Stmt} {rest : List Stmt} {env : Env} {Q : Flow → Shared → Prop} (F : Fr h₀ L h m) (_ : h₀.IsList ax vs.toArray)
    (h1 : ∀ Q' : Flow → Shared → Prop, (∀ h' tk m' nw, KuI1 ax m' nw → Fr h₀ L h' m' → News h₀ L h' nw → Q' .next { s with heap := h', toks := tk }) → wpAny M A (exec st env) Q' E s)
    (h2 : ∀ (n : Int) (t : Tok) (h' : Heap) (tk : Nat) (m₀ : Str → Option Value), Fr h₀ L h' (fun y => if y = Str.ofString "start" then some (.int n t) else if y = Str.ofString "script" then some (.ref ax) else m₀ y) → News h₀ L h' [] → wpAny M A (execs rest env) Q E { s with heap := h', toks := tk }) :
    wpAny M A (execs (st :: rest) env) Q E s := ku_cut F (KuI1 ax) h1 (by
  rintro h' tk m' nw ⟨rfl, n, t, m₀, rfl⟩ F N
  exact h2 n t h' tk m₀ F N)
/-- a loop over range(n) that turns one int name and forgets others: the name's value is told by the turn's number -/
theorem ku_forAt {prog : Program} {w : World} {A : Around} {E : Value → Shared → Prop} {s : Shared} {env : Env} {h₀ : Heap} {L : Addr} {x : Str} {body : List Stmt} {Q : Flow → Shared → Prop} {r : Addr} {b₀ : Int} {t₀ u₀ v₀ : Tok} {m₀ : Str → Option Value} {news : List (Addr × Obj)} (y : Str) (S : List Str) (n : Nat) (D : Nat → Int) {tc : Tok} (hL : env.locals = L)
    (hh : A.handled = none) (hr : IsRange s.heap r 0 b₀ 1 t₀ u₀ v₀) (hsmall : Builtin.Range.small 0 b₀ 1 = true) (hn : Builtin.Range.rangeSize 0 b₀ 1 = (n : Int)) (F : Fr h₀ L s.heap m₀) (N : News h₀ L s.heap news) (hy : m₀ y = some (.int (D 0) tc))
    (turn : ∀ (i : Nat) t ta (u : Str → Option Value) h tk own, i < n → OwnOff own (news.map (·.1)) → Fr h₀ L h (fun z => if z = x then some (.int i t) else if z = y then some (.int (D i) ta) else if S.contains z = true then u z else m₀ z) → News h₀ L h (news ++ own) →
      wpAny (model prog w) A (execs body env) (InvPostN h₀ L (fun m' nx => nx = news ∧ (∃ t', m' y = some (.int (D (i + 1)) t')) ∧ ∀ z, z ≠ x → z ≠ y → S.contains z = false → m' z = m₀ z) own (news.map (·.1)) { s with heap := h, toks := tk } Q) E { s with heap := h, toks := tk })
    (done : ∀ (u : Str → Option Value) t h tk, Fr h₀ L h (fun z => if z = x then u z else if z = y then some (.int (D n) t) else if S.contains z = true then u z else m₀ z) → News h₀ L h news → Q .next { s with heap := h, toks := tk }) :
    wpAny (model prog w) A (pyIter (.ref r)) (fun it s₂ => LoopAtV prog w A h₀ env x body Q E it s₂) E s := by
  subst hL
  refine wpAny_pyIter_range hr hsmall ?_
  have W : Walks prog w A s.heap.objs.size [s.heap.objs.size] [s.heap.objs.size] n (fun i v => i < n ∧ ∃ t, v = .int (0 + i * 1) t)
      (fun i h => IsRangeIter h s.heap.objs.size (0 + (i : Nat) * 1) ((n : Int) - (i : Nat)) 1) := (Walks.range hh _ 0 1 n).bound
  refine loop_invN (fun i m nx => nx = news ∧ (∃ t, m y = some (.int (D i) t)) ∧ ∀ z, z ≠ x → z ≠ y → S.contains z = false → m z = m₀ z) W ?_ ?_ ?_ ?_ (by show IsRangeIter _ _ _ _ _; rw [hn]; simpa using Heap.get?_push_size _ rfl) (F.push _) (fun p hp => ⟨Heap.get?_push_of_some _ (N p hp).1, (N p hp).2⟩) ⟨rfl, ⟨tc, hy⟩, fun _ _ _ _ => rfl⟩ ?_ ?_
  · intro hm
    exact absurd F.ns.lt ((List.mem_singleton.mp hm) ▸ Nat.lt_irrefl _)
  · intro b hb
    rw [List.mem_singleton.mp hb]
    exact next_is_new F
  · intro p hp hI
    exact absurd (Heap.lt_size (N p hp).1) ((List.mem_singleton.mp hI) ▸ Nat.lt_irrefl _)
  · intro p hp hI
    exact absurd (Heap.lt_size (N p hp).1) ((List.mem_singleton.mp hI) ▸ Nat.lt_irrefl _)
  · rintro i v m₁ nx h tk own hi ⟨_, t, rfl⟩ _ hoff ⟨rfl, ⟨ta, ha⟩, hm⟩ F₁ N₁
    have e : (fun z => if z = x then some (Value.int (0 + (i : Int) * 1) t) else m₁ z) = fun z => if z = x then some (Value.int (i : Int) t) else if z = y then some (.int (D i) ta) else if S.contains z = true then m₁ z else m₀ z := by
      funext z
      split
      · rw [show (0 + (i : Int) * 1) = i by omega]
      · rename_i hx
        split
        · rename_i hy; rw [hy, ha]
        · rename_i hy
          split
          · rfl
          · rename_i hs; exact hm z hx hy (by simpa using hs)
    rw [e] at F₁
    exact turn i t ta m₁ h tk own hi hoff F₁ N₁
  · rintro m₁ nx h tk ⟨rfl, ⟨t, ha⟩, hm⟩ F₁ N₁
    refine done m₁ t h tk ?_ N₁
    have e : m₁ = fun z => if z = x then m₁ z else if z = y then some (.int (D n) t) else if S.contains z = true then m₁ z else m₀ z := by
      funext z
      split
      · rfl
      · rename_i hx
        split
        · rename_i hy; rw [hy, ha]
        · rename_i hy
          split
          · rfl
          · rename_i hs; exact hm z hx hy (by simpa using hs)
    rw [← e]
    exact F₁
/-! the plain law -/
theorem kl_pow_mul (a : Nat) : ∀ j, ∃ q, kuPow (a * j) - 1 = q * (kuPow a - 1)
  | 0 => ⟨0, by rw [Nat.mul_zero, show kuPow 0 = 1 by rw [kuPow_def]; rfl]; omega⟩
  | j + 1 => by
    obtain ⟨q, h⟩ := kl_pow_mul a j
    refine ⟨q * kuPow a + 1, ?_⟩
    rw [Nat.mul_add, Nat.mul_one, kuPow_add, Int.add_mul, Int.one_mul]
    have e : kuPow (a * j) = q * (kuPow a - 1) + 1 := by omega
    rw [e]
    grind
/-- the part of the whole that comes round every k places -/
theorem kl_part {k j : Nat} (hk : 1 ≤ k) (h : 32 * k * j = 153600) : kuWh.fdiv (kuPow (32 * k) - 1) * (kuPow (32 * k) - 1) = kuWh := by
  have h0 := kuPow_big (n := 32 * k) (by omega)
  obtain ⟨q, hq⟩ := kl_pow_mul (32 * k) j
  rw [h] at hq
  have e : kuWh = kuPow 153600 - 1 := rfl
  rw [Int.fdiv_eq_ediv_of_nonneg _ (by omega), e, hq, Int.mul_ediv_cancel _ (by omega)]
def klH (ns : List Int) : Int := ns.foldl (fun a k => a * kuP + k) 0
theorem klH_gen : ∀ (ns : List Int) (a : Int), ns.foldl (fun a k => a * kuP + k) a = a * kuPow (32 * ns.length) + klH ns
  | [], a => by
    show a = a * kuPow 0 + 0
    rw [show kuPow 0 = 1 by rw [kuPow_def]; rfl]; omega
  | k :: r, a => by
    have e1 := klH_gen r (a * kuP + k)
    have e2 := klH_gen r (0 * kuP + k)
    show r.foldl _ (a * kuP + k) = _
    unfold klH
    rw [List.foldl_cons, e1, e2, List.length_cons, Nat.mul_add, Nat.mul_one, kuPow_add]
    show (a * kuP + k) * kuPow (32 * r.length) + klH r = a * (kuPow (32 * r.length) * kuP) + ((0 * kuP + k) * kuPow (32 * r.length) + klH r)
    grind
theorem klH_cons (x : Int) (l : List Int) : klH (x :: l) = x * kuPow (32 * l.length) + klH l := by
  have := klH_gen l (0 * kuP + x)
  show l.foldl _ (0 * kuP + x) = _
  rw [this]; grind
theorem klH_snoc (x : Int) (l : List Int) : klH (l ++ [x]) = klH l * kuP + x := by
  unfold klH
  rw [List.foldl_append]
  rfl
theorem klH_turn (x : Int) (l : List Int) : kuP * klH (x :: l) = klH (l ++ [x]) + x * (kuPow (32 * (l.length + 1)) - 1) := by
  rw [klH_cons, klH_snoc, Nat.mul_add, Nat.mul_one, kuPow_add]
  show kuP * (x * kuPow (32 * l.length) + klH l) = klH l * kuP + x + x * (kuPow (32 * l.length) * kuP - 1)
  grind
theorem klH_bound {S : Int} (hS : 0 ≤ S) : ∀ (r : List Int), (∀ k ∈ r, -S ≤ k ∧ k ≤ S) → -(S * (kuPow (32 * r.length) - 1)) ≤ klH r * (kuP - 1) ∧ klH r * (kuP - 1) ≤ S * (kuPow (32 * r.length) - 1)
  | [], _ => by
    show -(S * (kuPow 0 - 1)) ≤ 0 * (kuP - 1) ∧ 0 * (kuP - 1) ≤ S * (kuPow 0 - 1)
    rw [show kuPow 0 = 1 by rw [kuPow_def]; rfl]; omega
  | k :: r, h => by
    obtain ⟨i1, i2⟩ := klH_bound hS r (fun j hj => h j (List.mem_cons_of_mem _ hj))
    obtain ⟨h1, h2⟩ := h k (List.mem_cons_self ..)
    have hp := kuPow_pos (32 * r.length)
    rw [klH_cons, List.length_cons, Nat.mul_add, Nat.mul_one, kuPow_add]
    show -(S * (kuPow (32 * r.length) * kuP - 1)) ≤ (k * kuPow (32 * r.length) + klH r) * (kuP - 1) ∧ (k * kuPow (32 * r.length) + klH r) * (kuP - 1) ≤ S * (kuPow (32 * r.length) * kuP - 1)
    rw [kuP_val] at *
    generalize kuPow (32 * r.length) = M at *
    have a1 := Int.mul_le_mul_of_nonneg_right h1 (Int.le_of_lt hp)
    have a2 := Int.mul_le_mul_of_nonneg_right h2 (Int.le_of_lt hp)
    rw [Int.neg_mul] at a1
    have e1 : S * (M * 4294967296 - 1) = (S * M) * 4294967296 - S := by grind
    have e2 : S * (M - 1) = S * M - S := by grind
    have e3 : (k * M + klH r) * (4294967296 - 1) = (k * M) * 4294967295 + klH r * 4294967295 := by grind
    rw [e1, e3]
    rw [e2] at i1 i2
    have e4 : klH r * (4294967296 - 1) = klH r * 4294967295 := rfl
    rw [e4] at i1 i2
    omega
theorem kuTn_eq (ns : List Int) : kuTn ns = klH ns := rfl

/-! months and days; months are counted from the year 0 on -/
def klLeap1 (m : Int) : Int := (if m % 48 = 1 then 1 else 0) - (if m % 1200 = 1 then 1 else 0) + (if m % 4800 = 1 then 1 else 0)
def klCom (m : Int) : Int := kuCommon.getD (m.fmod 12).toNat 0
def klDays (m : Int) : Int := kuDby (m.fdiv 12) + kuDbm (m.fdiv 12) (m.fmod 12 + 1)
theorem kuLeap_eq (y : Int) : (if kuLeap y = true then (1 : Int) else 0) = (if y % 4 = 0 then 1 else 0) - (if y % 100 = 0 then 1 else 0) + (if y % 400 = 0 then 1 else 0) := by
  unfold kuLeap
  rw [Int.fmod_eq_emod_of_nonneg _ (by decide), Int.fmod_eq_emod_of_nonneg _ (by decide), Int.fmod_eq_emod_of_nonneg _ (by decide)]
  simp only [Bool.and_eq_true, Bool.or_eq_true, beq_iff_eq, bne_iff_ne, ne_eq]
  repeat' split
  all_goals omega
theorem klDays_at {y r : Int} (h0 : 0 ≤ r) (h1 : r < 12) : klDays (12 * y + r) = kuDby y + kuDbm y (r + 1) := by
  unfold klDays
  rw [Int.fdiv_eq_ediv_of_nonneg _ (by decide), Int.fmod_eq_emod_of_nonneg _ (by decide), show (12 * y + r) / 12 = y by omega, show (12 * y + r) % 12 = r by omega]
theorem klCom_at {y r : Int} (h0 : 0 ≤ r) (h1 : r < 12) : klCom (12 * y + r) = kuCommon.getD r.toNat 0 := by
  unfold klCom
  rw [Int.fmod_eq_emod_of_nonneg _ (by decide), show (12 * y + r) % 12 = r by omega]
theorem klLeap_at {y r : Int} (h0 : 0 ≤ r) (h1 : r < 12) : klLeap1 (12 * y + r) = if r = 1 then (if kuLeap y = true then 1 else 0) else 0 := by
  rw [kuLeap_eq]
  unfold klLeap1
  by_cases h : r = 1
  · subst h
    rw [if_pos rfl]
    have a1 : ((12 * y + 1) % 48 = 1) ↔ (y % 4 = 0) := by omega
    have a2 : ((12 * y + 1) % 1200 = 1) ↔ (y % 100 = 0) := by omega
    have a3 : ((12 * y + 1) % 4800 = 1) ↔ (y % 400 = 0) := by omega
    simp only [a1, a2, a3]
  · rw [if_neg h, if_neg (by omega), if_neg (by omega), if_neg (by omega)]
    rfl
theorem kuDby_step (y : Int) : kuDby (y + 1) = kuDby y + 365 + (if kuLeap y = true then 1 else 0) := by
  rw [kuLeap_eq]
  unfold kuDby
  simp only [Int.fdiv_eq_ediv_of_nonneg _ (show (0 : Int) ≤ 4 by decide), Int.fdiv_eq_ediv_of_nonneg _ (show (0 : Int) ≤ 100 by decide), Int.fdiv_eq_ediv_of_nonneg _ (show (0 : Int) ≤ 400 by decide)]
  repeat' split
  all_goals omega
theorem klDays_step (m : Int) : klDays (m + 1) = klDays m + (klCom m + klLeap1 m) := by
  have hm : m = 12 * (m / 12) + m % 12 := by omega
  have h0 : 0 ≤ m % 12 := by omega
  have h1 : m % 12 < 12 := by omega
  generalize m / 12 = y at *
  generalize m % 12 = r at *
  subst hm
  rw [klDays_at h0 h1, klCom_at h0 h1, klLeap_at h0 h1]
  by_cases h : r = 11
  · subst h
    rw [show 12 * y + 11 + 1 = 12 * (y + 1) + 0 by omega, klDays_at (by decide) (by decide), kuDby_step]
    unfold kuDbm
    rw [if_neg (show ¬ (11 : Int) = 1 by decide), if_neg (show ¬ (2 < (0 : Int) + 1 ∧ kuLeap (y + 1) = true) from fun x => absurd x.1 (by decide))]
    simp only [show (2 : Int) < 11 + 1 by decide, true_and]
    rw [show kuDbmT.getD (0 + 1 - 1 : Int).toNat 0 = 0 by decide, show kuDbmT.getD (11 + 1 - 1 : Int).toNat 0 = 334 by decide, show kuCommon.getD (11 : Int).toNat 0 = 31 by decide]
    omega
  · rw [show 12 * y + r + 1 = 12 * y + (r + 1) by omega, klDays_at (by omega) (by omega)]
    have hr : r = 0 ∨ r = 1 ∨ r = 2 ∨ r = 3 ∨ r = 4 ∨ r = 5 ∨ r = 6 ∨ r = 7 ∨ r = 8 ∨ r = 9 ∨ r = 10 := by omega
    unfold kuDbm
    generalize kuDby y = dy
    rcases hr with rfl | rfl | rfl | rfl | rfl | rfl | rfl | rfl | rfl | rfl | rfl <;> simp [kuDbmT, kuCommon] <;> omega
theorem klCom_le (m : Int) : 28 ≤ klCom m ∧ klCom m ≤ 31 := by
  unfold klCom
  have := ku_fmodB (x := m) (k := 12) (by decide)
  generalize m.fmod 12 = r at *
  have : r = 0 ∨ r = 1 ∨ r = 2 ∨ r = 3 ∨ r = 4 ∨ r = 5 ∨ r = 6 ∨ r = 7 ∨ r = 8 ∨ r = 9 ∨ r = 10 ∨ r = 11 := by omega
  rcases this with rfl | rfl | rfl | rfl | rfl | rfl | rfl | rfl | rfl | rfl | rfl | rfl <;> decide
theorem klLeap1_le (m : Int) : -1 ≤ klLeap1 m ∧ klLeap1 m ≤ 2 := by
  unfold klLeap1
  repeat' split
  all_goals omega
/-! the lengths come round -/
abbrev klD (k : Nat) : Int := kuWh.fdiv (kuPow (32 * k) - 1)
theorem kl_alg1 {P a b c D M W : Int} (hd : D * (M - 1) = W) (ht : P * b = a + c * (M - 1)) : P * (b * P * D) = a * P * D + P * (c * W) := by
  rw [← hd]
  have : P * (b * P * D) = (P * b) * P * D := by grind
  rw [this, ht]
  grind
theorem klC_turn {m : Int} : kuP * (kuL12 m * kuP * klD 12) = kuL12 (m + 1) * kuP * klD 12 + kuP * (klCom m * kuWh) := by
  have hd := kl_part (k := 12) (j := 400) (by decide) (by decide)
  have e1 : kuL12 m = klH (klCom m :: [klCom (m + 1), klCom (m + 2), klCom (m + 3), klCom (m + 4), klCom (m + 5), klCom (m + 6), klCom (m + 7), klCom (m + 8), klCom (m + 9), klCom (m + 10), klCom (m + 11)]) := by
    show klH [klCom (m + 0), klCom (m + 1), klCom (m + 2), klCom (m + 3), klCom (m + 4), klCom (m + 5), klCom (m + 6), klCom (m + 7), klCom (m + 8), klCom (m + 9), klCom (m + 10), klCom (m + 11)] = _
    rw [Int.add_zero]
  have e2 : kuL12 (m + 1) = klH ([klCom (m + 1), klCom (m + 2), klCom (m + 3), klCom (m + 4), klCom (m + 5), klCom (m + 6), klCom (m + 7), klCom (m + 8), klCom (m + 9), klCom (m + 10), klCom (m + 11)] ++ [klCom m]) := by
    show klH [klCom (m + 1 + 0), klCom (m + 1 + 1), klCom (m + 1 + 2), klCom (m + 1 + 3), klCom (m + 1 + 4), klCom (m + 1 + 5), klCom (m + 1 + 6), klCom (m + 1 + 7), klCom (m + 1 + 8), klCom (m + 1 + 9), klCom (m + 1 + 10), klCom (m + 1 + 11)] = _
    have e : klCom (m + 1 + 11) = klCom m := by
      unfold klCom
      rw [Int.fmod_eq_emod_of_nonneg _ (by decide), Int.fmod_eq_emod_of_nonneg _ (by decide)]
      congr 2
      omega
    rw [e]
    simp only [Int.add_assoc, List.cons_append, List.nil_append]
    rfl
  have ht := klH_turn (klCom m) [klCom (m + 1), klCom (m + 2), klCom (m + 3), klCom (m + 4), klCom (m + 5), klCom (m + 6), klCom (m + 7), klCom (m + 8), klCom (m + 9), klCom (m + 10), klCom (m + 11)]
  rw [← e1, ← e2] at ht
  have ht2 : kuP * kuL12 m = kuL12 (m + 1) + klCom m * (kuPow (32 * 12) - 1) := ht
  exact kl_alg1 hd ht2
theorem klO_turn {C j : Nat} (hC : 2 ≤ C) (h : 32 * C * j = 153600) {m : Int} :
    kuP * (1 * kuPow (32 * ((C : Int) - (1 - m).fmod C)).toNat * klD C) = 1 * kuPow (32 * ((C : Int) - (1 - (m + 1)).fmod C)).toNat * klD C + (if m % C = 1 then kuP * kuWh else 0) := by
  have hd : klD C * (kuPow (32 * C) - 1) = kuWh := kl_part (k := C) (by omega) h
  have b1 := ku_fmodB (x := 1 - m) (k := C) (by omega)
  have b2 := ku_fmodB (x := 1 - (m + 1)) (k := C) (by omega)
  have hC0 : (0 : Int) ≤ C := by omega
  rw [Int.fmod_eq_emod_of_nonneg _ hC0, Int.fmod_eq_emod_of_nonneg _ hC0]
  have e3 := Int.mul_ediv_add_emod m C
  have s0 := Int.emod_nonneg m (show (C : Int) ≠ 0 by omega)
  have s1 := Int.emod_lt_of_pos m (show (0 : Int) < C by omega)
  have hp : kuPow (32 * 1) = kuP := rfl
  by_cases hs : m % (C : Int) = 1
  · rw [if_pos hs]
    have q1 : (1 - m) % (C : Int) = 0 := (kbt_unique (q := -(m / C)) (show (0 : Int) < C by omega) (by rw [Int.mul_neg]; omega) (by omega) (by omega)).2
    have q2 : (1 - (m + 1)) % (C : Int) = C - 1 := (kbt_unique (q := -(m / C) - 1) (show (0 : Int) < C by omega) (by rw [Int.mul_sub, Int.mul_neg, Int.mul_one]; omega) (by omega) (by omega)).2
    rw [q1, q2, show (32 * ((C : Int) - 0)).toNat = 32 * C by omega, show (32 * ((C : Int) - (C - 1))).toNat = 32 * 1 by omega, hp]
    generalize klD C = D at *
    generalize kuPow (32 * C) = M at *
    rw [← hd]
    grind
  · rw [if_neg hs]
    have q : (1 - m) % (C : Int) = (1 - (m + 1)) % (C : Int) + 1 := by
      by_cases h0 : m % (C : Int) = 0
      · rw [(kbt_unique (a := 1 - m) (r := 1) (q := -(m / C)) (show (0 : Int) < C by omega) (by rw [Int.mul_neg]; omega) (by omega) (by omega)).2,
          (kbt_unique (a := 1 - (m + 1)) (r := 0) (q := -(m / C)) (show (0 : Int) < C by omega) (by rw [Int.mul_neg]; omega) (by omega) (by omega)).2]
        rfl
      · rw [(kbt_unique (a := 1 - m) (r := C + 1 - m % C) (q := -(m / C) - 1) (show (0 : Int) < C by omega) (by rw [Int.mul_sub, Int.mul_neg, Int.mul_one]; omega) (by omega) (by omega)).2,
          (kbt_unique (a := 1 - (m + 1)) (r := C - m % C) (q := -(m / C) - 1) (show (0 : Int) < C by omega) (by rw [Int.mul_sub, Int.mul_neg, Int.mul_one]; omega) (by omega) (by omega)).2]
        omega
    have t1 := Int.emod_lt_of_pos (1 - m) (show (0 : Int) < C by omega)
    have t0 := Int.emod_nonneg (1 - (m + 1)) (show (C : Int) ≠ 0 by omega)
    rw [q] at t1 ⊢
    generalize (1 - (m + 1)) % (C : Int) = x at *
    have ex : (32 * ((C : Int) - x)).toNat = 32 * 1 + (32 * ((C : Int) - (x + 1))).toNat := by omega
    rw [ex, kuPow_add, hp]
    generalize kuPow (32 * ((C : Int) - (x + 1))).toNat = O
    generalize klD C = D
    grind

def klO (C : Nat) (m : Int) : Int := 1 * kuPow (32 * ((C : Int) - (1 - m).fmod C)).toNat * klD C
def klLen (m : Int) : Int := kuL12 m * kuP * klD 12 + klO 48 m - klO 1200 m + klO 4800 m
def klT (ns : List Int) : Int := klH ns * kuP * klD ns.length
def klDvd (m : Int) (ns : List Int) : Int := 86400 * klLen m + 400000 * kuP * kuWh - (kuP - 1) * klT ns
theorem klLen_turn (m : Int) : kuP * klLen m = klLen (m + 1) + (klCom m + klLeap1 m) * (kuP * kuWh) := by
  have c := klC_turn (m := m)
  have o1 : kuP * klO 48 m = klO 48 (m + 1) + (if m % 48 = 1 then kuP * kuWh else 0) := klO_turn (C := 48) (j := 100) (by decide) (by decide)
  have o2 : kuP * klO 1200 m = klO 1200 (m + 1) + (if m % 1200 = 1 then kuP * kuWh else 0) := klO_turn (C := 1200) (j := 4) (by decide) (by decide)
  have o3 : kuP * klO 4800 m = klO 4800 (m + 1) + (if m % 4800 = 1 then kuP * kuWh else 0) := klO_turn (C := 4800) (j := 1) (by decide) (by decide)
  have e : kuP * klLen m = kuP * (kuL12 m * kuP * klD 12) + kuP * klO 48 m - kuP * klO 1200 m + kuP * klO 4800 m := by unfold klLen; grind
  rw [e, c, o1, o2, o3]
  have e2 : klCom m * kuWh * kuP = kuP * (klCom m * kuWh) := by grind
  unfold klLen klLeap1
  have e3 : (klCom m + ((if m % 48 = 1 then (1 : Int) else 0) - (if m % 1200 = 1 then 1 else 0) + if m % 4800 = 1 then 1 else 0)) * (kuP * kuWh) =
      kuP * (klCom m * kuWh) + ((if m % 48 = 1 then kuP * kuWh else 0) - (if m % 1200 = 1 then kuP * kuWh else 0) + if m % 4800 = 1 then kuP * kuWh else 0) := by
    have : kuP * (klCom m * kuWh) = klCom m * (kuP * kuWh) := by grind
    rw [this]
    generalize kuP * kuWh = X
    repeat' split
    all_goals grind
  rw [e3]
  generalize kuP * (klCom m * kuWh) = X
  omega
theorem klT_turn {x : Int} {l : List Int} {j : Nat} (h : 32 * (l.length + 1) * j = 153600) : kuP * klT (x :: l) = klT (l ++ [x]) + x * (kuP * kuWh) := by
  have hd : klD (l.length + 1) * (kuPow (32 * (l.length + 1)) - 1) = kuWh := kl_part (by omega) h
  have t := klH_turn x l
  unfold klT
  rw [List.length_cons, List.length_append, List.length_cons, List.length_nil, Nat.zero_add]
  generalize klD (l.length + 1) = D at *
  generalize kuPow (32 * (l.length + 1)) = M at *
  have := kl_alg1 hd t
  rw [this]
  grind
theorem klWh_pos : 0 < kuWh := by
  have := kuPow_big (n := 153600) (by decide)
  have e : kuWh = kuPow 153600 - 1 := rfl
  omega
theorem klO_le {C j : Nat} (hC : 2 ≤ C) (h : 32 * C * j = 153600) (m : Int) : 0 ≤ klO C m ∧ klO C m ≤ 2 * kuWh := by
  have hd : klD C * (kuPow (32 * C) - 1) = kuWh := kl_part (k := C) (by omega) h
  have hM := kuPow_big (n := 32 * C) (by omega)
  have hD : 0 ≤ klD C := by
    show 0 ≤ kuWh.fdiv (kuPow (32 * C) - 1)
    rw [Int.fdiv_eq_ediv_of_nonneg _ (by omega)]
    exact Int.ediv_nonneg (Int.le_of_lt klWh_pos) (by omega)
  have b1 := ku_fmodB (x := 1 - m) (k := C) (by omega)
  have hO : kuPow (32 * ((C : Int) - (1 - m).fmod C)).toNat ≤ kuPow (32 * C) := kuPow_le (by omega)
  have hO0 := kuPow_pos (32 * ((C : Int) - (1 - m).fmod C)).toNat
  unfold klO
  rw [Int.one_mul]
  generalize kuPow (32 * ((C : Int) - (1 - m).fmod C)).toNat = O at *
  refine ⟨Int.mul_nonneg (by omega) hD, ?_⟩
  have m1 := Int.mul_le_mul_of_nonneg_right hO hD
  have m2 : kuPow (32 * C) * klD C = kuWh + klD C := by rw [← hd]; grind
  have m3 : klD C * 1 ≤ klD C * (kuPow (32 * C) - 1) := Int.mul_le_mul_of_nonneg_left (by omega) hD
  omega
theorem kl_scaled {H S M D W : Int} (hd : D * (M - 1) = W) (hD : 0 ≤ D) (h1 : -(S * (M - 1)) ≤ H * (kuP - 1)) (h2 : H * (kuP - 1) ≤ S * (M - 1)) :
    -(S * (kuP * W)) ≤ (H * kuP * D) * (kuP - 1) ∧ (H * kuP * D) * (kuP - 1) ≤ S * (kuP * W) := by
  have hP : 0 ≤ kuP := by rw [kuP_val]; decide
  have hPD : 0 ≤ kuP * D := Int.mul_nonneg hP hD
  have a1 := Int.mul_le_mul_of_nonneg_right h1 hPD
  have a2 := Int.mul_le_mul_of_nonneg_right h2 hPD
  have e1 : S * (M - 1) * (kuP * D) = S * (kuP * W) := by rw [← hd]; grind
  have e2 : H * (kuP - 1) * (kuP * D) = (H * kuP * D) * (kuP - 1) := by grind
  rw [Int.neg_mul, e1, e2] at a1
  rw [e1, e2] at a2
  exact ⟨a1, a2⟩
theorem klD_nonneg {k : Nat} (hk : 1 ≤ k) : 0 ≤ klD k := by
  have hM := kuPow_big (n := 32 * k) (by omega)
  show 0 ≤ kuWh.fdiv (kuPow (32 * k) - 1)
  rw [Int.fdiv_eq_ediv_of_nonneg _ (by omega)]
  exact Int.ediv_nonneg (Int.le_of_lt klWh_pos) (by omega)
theorem klLen_le (m : Int) : -(34 * kuWh) ≤ klLen m ∧ klLen m ≤ 36 * kuWh := by
  have o1 := klO_le (C := 48) (j := 100) (by decide) (by decide) m
  have o2 := klO_le (C := 1200) (j := 4) (by decide) (by decide) m
  have o3 := klO_le (C := 4800) (j := 1) (by decide) (by decide) m
  have hd : klD 12 * (kuPow (32 * 12) - 1) = kuWh := kl_part (k := 12) (j := 400) (by decide) (by decide)
  have hD := klD_nonneg (k := 12) (by decide)
  have e1 : kuL12 m = klH ((rangeKs 0 12).map fun k => klCom (m + k)) := rfl
  have b := klH_bound (S := 31) (by decide) ((rangeKs 0 12).map fun k => klCom (m + k)) (by
    intro k hk
    obtain ⟨j, _, rfl⟩ := List.mem_map.mp hk
    have := klCom_le (m + j)
    omega)
  have el : ((rangeKs 0 12).map fun k => klCom (m + k)).length = 12 := by rw [List.length_map, rangeKs_length]
  rw [el, ← e1] at b
  have c := kl_scaled hd hD b.1 b.2
  have hW := klWh_pos
  unfold klLen
  generalize klO 48 m = x1 at *
  generalize klO 1200 m = x2 at *
  generalize klO 4800 m = x3 at *
  generalize kuL12 m * kuP * klD 12 = X at *
  rw [kuP_val] at c
  generalize kuWh = W at *
  omega
theorem klT_le {ns : List Int} {j : Nat} (h0 : 1 ≤ ns.length) (h : 32 * ns.length * j = 153600) (hn : ∀ k ∈ ns, -362340 ≤ k ∧ k ≤ 362340) :
    -(362340 * (kuP * kuWh)) ≤ klT ns * (kuP - 1) ∧ klT ns * (kuP - 1) ≤ 362340 * (kuP * kuWh) := by
  have hd : klD ns.length * (kuPow (32 * ns.length) - 1) = kuWh := kl_part h0 h
  have b := klH_bound (S := 362340) (by decide) ns hn
  exact kl_scaled hd (klD_nonneg h0) b.1 b.2

/-- the months' seconds, written down -/
def klDue (start : Int) (ns : List Int) : Nat → Int
  | 0 => 0
  | k + 1 => klDue start ns k * kuP + (400000 + 86400 * (klDays (start + k) - klDays start) - ns.getD (k % ns.length) 0)
/-- what is left of the dividend behind k months, moved up -/
def klX (start : Int) (ns : List Int) (k : Nat) : Int := klDvd (start + k) (ns.drop (k % ns.length) ++ ns.take (k % ns.length)) + 86400 * (klDays (start + k) - klDays start) * (kuP * kuWh)
theorem kl_rot {ns : List Int} (h0 : 1 ≤ ns.length) (k : Nat) : ∃ l, ns.drop (k % ns.length) ++ ns.take (k % ns.length) = ns.getD (k % ns.length) 0 :: l ∧ ns.drop ((k + 1) % ns.length) ++ ns.take ((k + 1) % ns.length) = l ++ [ns.getD (k % ns.length) 0] := by
  have hk := Nat.mod_lt k (show ns.length > 0 by omega)
  generalize hi : k % ns.length = i at *
  have e : ns.drop i = ns.getD i 0 :: ns.drop (i + 1) := by
    rw [List.getD_eq_getElem?_getD, List.getElem?_eq_getElem hk]
    exact List.drop_eq_getElem_cons hk
  refine ⟨ns.drop (i + 1) ++ ns.take i, by rw [e]; rfl, ?_⟩
  have e2 : ns.take (i + 1) = ns.take i ++ [ns.getD i 0] := by
    rw [List.take_add_one, List.getElem?_eq_getElem hk, List.getD_eq_getElem?_getD, List.getElem?_eq_getElem hk]
    rfl
  by_cases hl : i + 1 = ns.length
  · have : (k + 1) % ns.length = 0 := by
      rw [Nat.add_mod, hi]
      by_cases h1 : ns.length = 1
      · rw [h1]; omega
      · rw [Nat.mod_eq_of_lt (show 1 < ns.length by omega), hl, Nat.mod_self]
    rw [this, List.drop_zero, List.take_zero, List.append_nil, List.drop_of_length_le (by omega), List.nil_append, ← e2, List.take_of_length_le (by omega)]
  · have : (k + 1) % ns.length = i + 1 := by
      rw [Nat.add_mod, hi, Nat.mod_eq_of_lt (show 1 < ns.length by omega), Nat.mod_eq_of_lt (by omega)]
    rw [this, e2, List.append_assoc]
theorem klX_turn {start : Int} {ns : List Int} {j : Nat} (h0 : 1 ≤ ns.length) (h : 32 * ns.length * j = 153600) (k : Nat) :
    kuP * klX start ns k = kuP * (400000 + 86400 * (klDays (start + k) - klDays start) - ns.getD (k % ns.length) 0) * ((kuP - 1) * kuWh) + klX start ns (k + 1) := by
  obtain ⟨l, r1, r2⟩ := kl_rot h0 k
  have hl : l.length + 1 = ns.length := by
    have := congrArg List.length r1
    rw [List.length_append, List.length_drop, List.length_take, List.length_cons] at this
    have hk := Nat.mod_lt k (show ns.length > 0 by omega)
    omega
  have t := klT_turn (x := ns.getD (k % ns.length) 0) (l := l) (j := j) (by rw [hl]; exact h)
  have len := klLen_turn (start + k)
  have d := klDays_step (start + k)
  unfold klX klDvd
  rw [r1, r2, show start + ((k + 1 : Nat) : Int) = start + k + 1 by omega]
  generalize ns.getD (k % ns.length) 0 = o at *
  generalize klT (o :: l) = T at *
  generalize klT (l ++ [o]) = T' at *
  generalize klLen (start + k) = A at *
  generalize klLen (start + k + 1) = A' at *
  generalize klCom (start + k) + klLeap1 (start + k) = c at *
  rw [d]
  generalize klDays (start + k) = y
  generalize klDays start = z
  generalize kuWh = W at *
  generalize kuP = P at *
  grind

theorem klDays_le (start : Int) : ∀ k : Nat, 0 ≤ klDays (start + k) - klDays start ∧ klDays (start + k) - klDays start ≤ 33 * k
  | 0 => by rw [show start + ((0 : Nat) : Int) = start by omega]; omega
  | k + 1 => by
    have i := klDays_le start k
    have d := klDays_step (start + k)
    have c := klCom_le (start + k)
    have l := klLeap1_le (start + k)
    rw [show start + ((k + 1 : Nat) : Int) = start + k + 1 by omega, d]
    omega
theorem klX_le {start : Int} {ns : List Int} {j : Nat} (h0 : 1 ≤ ns.length) (h : 32 * ns.length * j = 153600) (hn : ∀ k ∈ ns, -362340 ≤ k ∧ k ≤ 362340) {k : Nat} (hk : k ≤ 127) :
    0 ≤ klX start ns k ∧ klX start ns k < kuP * ((kuP - 1) * kuWh) := by
  have hl : (ns.drop (k % ns.length) ++ ns.take (k % ns.length)).length = ns.length := by
    have hk := Nat.mod_lt k (show ns.length > 0 by omega)
    rw [List.length_append, List.length_drop, List.length_take]
    omega
  have hm : ∀ x ∈ ns.drop (k % ns.length) ++ ns.take (k % ns.length), -362340 ≤ x ∧ x ≤ 362340 := by
    intro x hx
    rcases List.mem_append.mp hx with hx | hx
    · exact hn x (List.mem_of_mem_drop hx)
    · exact hn x (List.mem_of_mem_take hx)
  have t := klT_le (ns := ns.drop (k % ns.length) ++ ns.take (k % ns.length)) (j := j) (by omega) (by rw [hl]; exact h) hm
  have len := klLen_le (start + k)
  have d := klDays_le start k
  have hW := klWh_pos
  unfold klX klDvd
  generalize ns.drop (k % ns.length) ++ ns.take (k % ns.length) = ns' at *
  generalize klT ns' = T at *
  generalize klLen (start + k) = A at *
  have e1 : (kuP - 1) * T = T * (kuP - 1) := Int.mul_comm _ _
  rw [e1]
  generalize hdd : klDays (start + k) - klDays start = dd at *
  have g1 : 0 ≤ dd * kuWh := Int.mul_nonneg d.1 (Int.le_of_lt hW)
  have g2 : dd * kuWh ≤ 4191 * kuWh := Int.mul_le_mul_of_nonneg_right (by omega) (Int.le_of_lt hW)
  have e2 : 86400 * dd * (kuP * kuWh) = 86400 * kuP * (dd * kuWh) := by grind
  rw [e2]
  rw [kuP_val] at *
  generalize dd * kuWh = y at *
  generalize kuWh = W at *
  omega
theorem kl_sum {start : Int} {ns : List Int} {j : Nat} (h0 : 1 ≤ ns.length) (h : 32 * ns.length * j = 153600) : ∀ k : Nat, kuPow (32 * k) * klX start ns 0 = kuP * klDue start ns k * ((kuP - 1) * kuWh) + klX start ns k
  | 0 => by
    show kuPow 0 * klX start ns 0 = kuP * 0 * ((kuP - 1) * kuWh) + klX start ns 0
    rw [show kuPow 0 = 1 by rw [kuPow_def]; rfl]; omega
  | k + 1 => by
    have i := kl_sum h0 h k (start := start)
    have t := klX_turn h0 h k (start := start)
    rw [Nat.mul_add, Nat.mul_one, kuPow_add]
    show kuPow (32 * k) * kuP * klX start ns 0 = kuP * (klDue start ns k * kuP + (400000 + 86400 * (klDays (start + k) - klDays start) - ns.getD (k % ns.length) 0)) * ((kuP - 1) * kuWh) + klX start ns (k + 1)
    have e : kuPow (32 * k) * kuP * klX start ns 0 = kuP * (kuPow (32 * k) * klX start ns 0) := by grind
    rw [e, i]
    generalize (400000 + 86400 * (klDays (start + k) - klDays start) - ns.getD (k % ns.length) 0) = d at *
    generalize klX start ns k = X at *
    generalize klX start ns (k + 1) = X' at *
    grind
theorem klX0 (start : Int) {ns : List Int} : klX start ns 0 = klDvd start ns := by
  unfold klX
  rw [Nat.zero_mod, List.drop_zero, List.take_zero, List.append_nil, show start + ((0 : Nat) : Int) = start by omega, Int.sub_self]
  grind
/-- the law's division: its quotient, its rest -/
theorem kl_law {start : Int} {ns : List Int} {j : Nat} (h0 : 1 ≤ ns.length) (h : 32 * ns.length * j = 153600) (hn : ∀ k ∈ ns, -362340 ≤ k ∧ k ≤ 362340) :
    KuDiv (klDvd start ns * kuPow 4032) ((kuP - 1) * kuWh) 153632 ∧ klDue start ns 127 = (klDvd start ns * kuPow 4032) / ((kuP - 1) * kuWh) ∧
    klDvd start ns * kuPow 4032 - klDue start ns 127 * ((kuP - 1) * kuWh) = (klDvd start ns * kuPow 4032) % ((kuP - 1) * kuWh) := by
  have hW := klWh_pos
  have hDv : 0 < (kuP - 1) * kuWh := Int.mul_pos (by rw [kuP_val]; decide) hW
  have s := kl_sum h0 h 127 (start := start)
  have b := klX_le h0 h hn (k := 127) (by decide) (start := start)
  have b0 := klX_le h0 h hn (k := 0) (by decide) (start := start)
  rw [klX0] at s b0
  rw [show 32 * 127 = 4032 + 32 from rfl, kuPow_add] at s
  have s' : kuP * (klDvd start ns * kuPow 4032) = kuP * klDue start ns 127 * ((kuP - 1) * kuWh) + klX start ns 127 := by
    rw [← s]
    show kuP * (klDvd start ns * kuPow 4032) = kuPow 4032 * kuP * klDvd start ns
    grind
  have hP : 0 < kuP := by rw [kuP_val]; decide
  have hpow := kuPow_pos 4032
  have a0 : 0 ≤ klDvd start ns * kuPow 4032 := Int.mul_nonneg b0.1 (Int.le_of_lt hpow)
  have up : klDvd start ns * kuPow 4032 ≤ kuP * ((kuP - 1) * kuWh) * kuPow 4032 := Int.mul_le_mul_of_nonneg_right (Int.le_of_lt b0.2) (Int.le_of_lt hpow)
  have q : (klDvd start ns * kuPow 4032) / ((kuP - 1) * kuWh) = klDue start ns 127 ∧ (klDvd start ns * kuPow 4032) % ((kuP - 1) * kuWh) = klDvd start ns * kuPow 4032 - klDue start ns 127 * ((kuP - 1) * kuWh) := by
    have e : kuP * (klDvd start ns * kuPow 4032 - klDue start ns 127 * ((kuP - 1) * kuWh)) = klX start ns 127 := by
      rw [Int.mul_sub, s']; grind
    refine kbt_unique hDv (by rw [Int.mul_comm ((kuP - 1) * kuWh)]; omega) ?_ ?_
    · rw [← e] at b
      exact Int.le_of_mul_le_mul_left (a := kuP) (by rw [Int.mul_zero]; exact b.1) hP
    · rw [← e] at b
      exact Int.lt_of_mul_lt_mul_left b.2 (Int.le_of_lt hP)
  refine ⟨⟨by decide, a0, ?_, ?_, ?_⟩, q.1.symm, q.2.symm⟩
  · rw [← kuPow_def]
    have up' : klDvd start ns * kuPow 4032 < kuP * ((kuP - 1) * kuWh) * kuPow 4032 := Int.mul_lt_mul_of_pos_right b0.2 hpow
    have e : kuP * ((kuP - 1) * kuWh) * kuPow 4032 = (kuP - 1) * kuWh * kuPow (32 + 4032) := by
      rw [kuPow_add]
      show _ = (kuP - 1) * kuWh * (kuP * kuPow 4032)
      grind
    have le : kuPow (32 + 4032) ≤ kuPow (Int.toNat 153632) := kuPow_le (by decide)
    have := Int.mul_le_mul_of_nonneg_left le (Int.le_of_lt hDv)
    omega
  · rw [← kuPow_def]
    have e : kuPow (Int.toNat 153632 - 1) = kuPow 31 * kuPow 153600 := kuPow_add 31 153600
    have k31 : kuPow 31 = 2147483648 := by rw [kuPow_def]; rfl
    have le : kuPow 32 ≤ kuPow 153600 := kuPow_le (by decide)
    have k32 : kuPow 32 = 4294967296 := kuP_val
    have w : kuWh = kuPow 153600 - 1 := rfl
    rw [e, k31, kuP_val, w]
    omega
  · rw [← kuPow_def]
    have e : kuPow (Int.toNat 153632) = kuPow 32 * kuPow 153600 := kuPow_add 32 153600
    have k32 : kuPow 32 = 4294967296 := kuP_val
    have w : kuWh = kuPow 153600 - 1 := rfl
    have := kuPow_pos 153600
    rw [e, k32, kuP_val, w]
    omega
theorem kl_dueB {start : Int} {ns : List Int} (hn : ∀ k ∈ ns, -362340 ≤ k ∧ k ≤ 362340) : ∀ {k : Nat}, k ≤ 127 → 0 ≤ klDue start ns k ∧ klDue start ns k ≤ ((2 ^ (33 * k) : Nat) : Int) - 1
  | 0, _ => ⟨Int.le_refl _, show (0 : Int) ≤ _ by decide⟩
  | k + 1, hk => by
    have i := kl_dueB hn (start := start) (k := k) (by omega)
    have d := klDays_le start k
    have g : -362340 ≤ ns.getD (k % ns.length) 0 ∧ ns.getD (k % ns.length) 0 ≤ 362340 := by
      rw [List.getD_eq_getElem?_getD]
      cases h : ns[k % ns.length]? with
      | none => decide
      | some x => exact hn x (List.mem_of_getElem? h)
    show 0 ≤ klDue start ns k * kuP + (400000 + 86400 * (klDays (start + k) - klDays start) - ns.getD (k % ns.length) 0) ∧ klDue start ns k * kuP + (400000 + 86400 * (klDays (start + k) - klDays start) - ns.getD (k % ns.length) 0) ≤ ((2 ^ (33 * (k + 1)) : Nat) : Int) - 1
    rw [kuP_val, show 33 * (k + 1) = 33 * k + 33 by omega, Nat.pow_add]
    generalize 2 ^ (33 * k) = X at *
    generalize klDue start ns k = Y at *
    omega
theorem kl_dueBits {start : Int} {ns : List Int} (hn : ∀ k ∈ ns, -362340 ≤ k ∧ k ≤ 362340) {k : Nat} (hk : k ≤ 127) : (Builtin.Int.intBits (klDue start ns k) : Int) + 32 ≤ 2 ^ 27 := by
  have b := kl_dueB hn (start := start) hk
  have : Builtin.Int.intBits (klDue start ns k) ≤ 33 * k := kd9_bits b.1 (by
    have : ((2 ^ (33 * k) : Nat) : Int) = 2 ^ (33 * k) := by exact_mod_cast rfl
    omega)
  have : (2 : Int) ^ 27 = 134217728 := by decide
  omega
theorem kl_dvdEq (start : Int) (ns : List Int) : kuDvd start ns = klDvd start ns := by
  unfold kuDvd klDvd klLen klO klT
  have e1 : Int.toNat 384 = 32 * 12 := rfl
  have e2 : Int.toNat (32 * 48) = 32 * 48 := rfl
  have e3 : Int.toNat (32 * 1200) = 32 * 1200 := rfl
  have e4 : Int.toNat (32 * 4800) = 32 * 4800 := rfl
  have e5 : Int.toNat (32 * (ns.length : Int)) = 32 * ns.length := by omega
  rw [e1, e2, e3, e4, e5, kuTn_eq]
  show _ = 86400 * (kuL12 start * kuP * klD 12 + 1 * kuPow (32 * (48 - (1 - start).fmod 48)).toNat * klD 48 - 1 * kuPow (32 * (1200 - (1 - start).fmod 1200)).toNat * klD 1200 + 1 * kuPow (32 * (4800 - (1 - start).fmod 4800)).toNat * klD 4800) + _ - _
  generalize kuPow (32 * (48 - (1 - start).fmod 48)).toNat = x1
  generalize kuPow (32 * (1200 - (1 - start).fmod 1200)).toNat = x2
  generalize kuPow (32 * (4800 - (1 - start).fmod 4800)).toNat = x3
  show 86400 * (kuL12 start * kuP * klD 12 + 1 * x1 * klD 48 + (-1) * x2 * klD 1200 + 1 * x3 * klD 4800) + 400000 * kuP * kuWh - (kuP - 1) * (klH ns * kuP * klD ns.length) = _
  have e6 : (-1) * x2 * klD 1200 = -(1 * x2 * klD 1200) := by
    rw [Int.neg_mul, Int.neg_mul]
  rw [e6, ← Int.sub_eq_add_neg]
theorem kl_divBits : Builtin.Int.intBits ((kuP - 1) * kuWh) ≤ 153632 := by
  refine ku_bitsP ?_
  have e : kuPow 153632 = kuPow 32 * kuPow 153600 := kuPow_add 32 153600
  have k32 : kuPow 32 = 4294967296 := kuP_val
  have w : kuWh = kuPow 153600 - 1 := rfl
  have := kuPow_big (n := 153600) (by decide)
  rw [e, k32, kuP_val, w]
  generalize kuPow 153600 = X at *
  omega
theorem kl_dvdBits {start : Int} {ns : List Int} {j : Nat} (h0 : 1 ≤ ns.length) (h : 32 * ns.length * j = 153600) (hn : ∀ k ∈ ns, -362340 ≤ k ∧ k ≤ 362340) : (Builtin.Int.intBits (klDvd start ns) : Int) + 4032 ≤ 2 ^ 27 := by
  have b := klX_le h0 h hn (k := 0) (by decide) (start := start)
  rw [klX0] at b
  have : Builtin.Int.intBits (klDvd start ns) ≤ 153664 := by
    refine ku_bitsP ?_
    have e : kuPow 153664 = kuPow 64 * kuPow 153600 := kuPow_add 64 153600
    have k64 : kuPow 64 = 18446744073709551616 := by rw [kuPow_def]; rfl
    have w : kuWh = kuPow 153600 - 1 := rfl
    have := kuPow_big (n := 153600) (by decide)
    rw [e, k64]
    rw [kuP_val, w] at b
    generalize kuPow 153600 = X at *
    generalize klDvd start ns = Y at *
    omega
  have : (2 : Int) ^ 27 = 134217728 := by decide
  omega
theorem kl_dueMul {start : Int} {ns : List Int} (hn : ∀ k ∈ ns, -362340 ≤ k ∧ k ≤ 362340) : IntMulOk (klDue start ns 127) ((kuP - 1) * kuWh) := by
  have b := kl_dueBits hn (start := start) (k := 127) (Nat.le_refl _)
  have : (2 : Int) ^ 27 = 134217728 := by decide
  have b' := kl_dueB hn (start := start) (k := 127) (Nat.le_refl _)
  have h1 : Builtin.Int.intBits (klDue start ns 127) ≤ 4191 := kd9_bits b'.1 (by
    have e := kbt_cast (33 * 127)
    have b2 := b'.2
    rw [e] at b2
    exact Int.lt_of_le_of_lt b2 (Int.sub_lt_self _ (by decide)))
  exact PyProof.Rows.mulOk_of_bits h1 kl_divBits (by decide)
theorem ku_shlN {prog : Program} {w : World} {A : Around} {E : Value → Shared → Prop} {s : Shared} {a n : Int} {t u : Tok} {Q : Value → Shared → Prop} (hn : 0 ≤ n) (hs : (Builtin.Int.intBits a : Int) + n ≤ 2 ^ 27) (h : Q (.int (a * kuPow n.toNat) s.toks) { s with toks := s.toks + 1 }) :
    wpAny (model prog w) A (binaryOp .LShift (.int a t) (.int n u)) Q E s := by
  refine lshift_int hn hs ?_
  rw [← kuPow_def]
  exact h
/-- a month's turn of due -/
theorem kl_dueTurn {start : Int} {ns : List Int} {i : Nat} : klDue start ns i * kuPow (Int.toNat 32) + 400000 + 86400 * (kuDby ((start + i).fdiv 12) + kuDbm ((start + i).fdiv 12) ((start + i).fmod 12 + 1) - (kuDby (start.fdiv 12) + kuDbm (start.fdiv 12) (start.fmod 12 + 1))) - ns.getD (i % ns.length) 0 = klDue start ns (i + 1) := by
  show klDue start ns i * kuP + 400000 + 86400 * (klDays (start + i) - klDays start) - ns.getD (i % ns.length) 0 = klDue start ns i * kuP + (400000 + 86400 * (klDays (start + i) - klDays start) - ns.getD (i % ns.length) 0)
  omega
theorem kl_lens {n : Nat} (h1 : 1 ≤ n) (h6 : n ≤ 6) : ∃ j, 32 * n * j = 153600 := by
  have : n = 1 ∨ n = 2 ∨ n = 3 ∨ n = 4 ∨ n = 5 ∨ n = 6 := by omega
  rcases this with rfl | rfl | rfl | rfl | rfl | rfl
  · exact ⟨4800, rfl⟩
  · exact ⟨2400, rfl⟩
  · exact ⟨1600, rfl⟩
  · exact ⟨1200, rfl⟩
  · exact ⟨960, rfl⟩
  · exact ⟨800, rfl⟩
theorem kz_two : ∀ n : _root_.Fin 100, Txt.slice (Str.ofString (toString (100 + (n.val : Int)))) (some 1) none = ⟨[48 + n.val / 10, 48 + n.val % 10].toArray⟩ := by decide +kernel
theorem kz_one : ∀ n : _root_.Fin 100, Str.ofString (toString (n.val : Int)) = if n.val < 10 then ⟨[48 + n.val].toArray⟩ else ⟨[48 + n.val / 10, 48 + n.val % 10].toArray⟩ := by decide +kernel
theorem kz_read2 : ∀ n : _root_.Fin 100, PySem.intText? ⟨[48 + n.val / 10, 48 + n.val % 10].toArray⟩ = some (n.val : Int) := by decide +kernel
theorem kz_read1 : ∀ n : _root_.Fin 10, PySem.intText? ⟨[48 + n.val].toArray⟩ = some (n.val : Int) := by decide +kernel
theorem kz_app (a b : List Nat) : (⟨a.toArray⟩ : Str) ++ ⟨b.toArray⟩ = ⟨(a ++ b).toArray⟩ := by
  show Str.mk (a.toArray ++ b.toArray) = _
  rw [List.append_toArray]
theorem kz_sign : Str.ofString "-" = ⟨[45].toArray⟩ ∧ Str.ofString "+" = ⟨[43].toArray⟩ ∧ Str.ofString "" = ⟨[].toArray⟩ ∧ Str.ofString ":" = ⟨[58].toArray⟩ := by decide +kernel
theorem kz_free {a : List Nat} (h : 5 ≤ a.length) : kuNamed ⟨a.toArray⟩ = false := by
  have e : ∀ b : List Nat, b.length < 5 → decide ((⟨a.toArray⟩ : Str) = ⟨b.toArray⟩) = false := fun b hb => decide_eq_false fun e => by
    have := congrArg (fun z : Str => z.cps.size) e
    simp only [List.size_toArray] at this
    omega
  unfold kuNamed
  rw [e [71, 77, 84] (by decide), e [85, 84, 67] (by decide), e [85, 84] (by decide), e [90] (by decide)]
  rfl
theorem kz_minus (c : Nat) (r : List Nat) : ((⟨(c :: r).toArray.extract 0 1⟩ : Str) == Str.ofString "-") = (c == 45) := by
  rw [kz_sign.1]
  have : ((c :: r).toArray.extract 0 1) = [c].toArray := by simp
  rw [this]
  by_cases hc : c = 45
  · subst hc; rfl
  · rw [show (c == 45) = false by simpa using hc]
    refine beq_eq_false_iff_ne.mpr fun e => hc ?_
    have := congrArg (fun z : Str => z.cps.toList) e
    simpa using this
theorem kz_shape0 {c h m : Nat} (hc : c = 43 ∨ c = 45) (hh : h < 100) (hm : m < 100) : KuRead [c, 48 + h / 10, 48 + h % 10, 48 + m / 10, 48 + m % 10] [c, 48, 48, 48, 48] 3 1 3 3 5 h m (c == 45) where
  same := ⟨.inl rfl, .inr ⟨rfl, by omega, by omega⟩, .inr ⟨rfl, by omega, by omega⟩, .inr ⟨rfl, by omega, by omega⟩, .inr ⟨rfl, by omega, by omega⟩, trivial⟩
  found := by rcases hc with rfl | rfl <;> first | exact ku_found0p | exact ku_found0m
  short := Nat.le_of_ble_eq_true rfl
  hours := by
    rw [show [c, 48 + h / 10, 48 + h % 10, 48 + m / 10, 48 + m % 10].toArray.extract 1 3 = [48 + h / 10, 48 + h % 10].toArray by simp]
    exact kz_read2 ⟨h, hh⟩
  minutes := by
    rw [show [c, 48 + h / 10, 48 + h % 10, 48 + m / 10, 48 + m % 10].toArray.extract 3 5 = [48 + m / 10, 48 + m % 10].toArray by simp]
    exact kz_read2 ⟨m, hm⟩
  some3 := by
    rw [show [c, 48 + h / 10, 48 + h % 10, 48 + m / 10, 48 + m % 10].toArray.extract 3 5 = [48 + m / 10, 48 + m % 10].toArray by simp]
    rfl
  sign := kz_minus _ _
theorem kz_shape1 {c h m : Nat} (hc : c = 43 ∨ c = 45) (hh : h < 100) (hm : m < 100) : KuRead [c, 48 + h / 10, 48 + h % 10, 58, 48 + m / 10, 48 + m % 10] [c, 48, 48, 58, 48, 48] 3 1 3 4 6 h m (c == 45) where
  same := ⟨.inl rfl, .inr ⟨rfl, by omega, by omega⟩, .inr ⟨rfl, by omega, by omega⟩, .inl rfl, .inr ⟨rfl, by omega, by omega⟩, .inr ⟨rfl, by omega, by omega⟩, trivial⟩
  found := by rcases hc with rfl | rfl <;> first | exact ku_found1p | exact ku_found1m
  short := Nat.le_of_ble_eq_true rfl
  hours := by
    rw [show [c, 48 + h / 10, 48 + h % 10, 58, 48 + m / 10, 48 + m % 10].toArray.extract 1 3 = [48 + h / 10, 48 + h % 10].toArray by simp]
    exact kz_read2 ⟨h, hh⟩
  minutes := by
    rw [show [c, 48 + h / 10, 48 + h % 10, 58, 48 + m / 10, 48 + m % 10].toArray.extract 4 6 = [48 + m / 10, 48 + m % 10].toArray by simp]
    exact kz_read2 ⟨m, hm⟩
  some3 := by
    rw [show [c, 48 + h / 10, 48 + h % 10, 58, 48 + m / 10, 48 + m % 10].toArray.extract 4 6 = [48 + m / 10, 48 + m % 10].toArray by simp]
    rfl
  sign := kz_minus _ _
theorem kz_shape2 {c h m : Nat} (hc : c = 43 ∨ c = 45) (hh : h < 10) (hm : m < 100) : KuRead [c, 48 + h, 58, 48 + m / 10, 48 + m % 10] [c, 48, 58, 48, 48] 3 1 2 3 5 h m (c == 45) where
  same := ⟨.inl rfl, .inr ⟨rfl, by omega, by omega⟩, .inl rfl, .inr ⟨rfl, by omega, by omega⟩, .inr ⟨rfl, by omega, by omega⟩, trivial⟩
  found := by rcases hc with rfl | rfl <;> first | exact ku_found2p | exact ku_found2m
  short := Nat.le_of_ble_eq_true rfl
  hours := by
    rw [show [c, 48 + h, 58, 48 + m / 10, 48 + m % 10].toArray.extract 1 2 = [48 + h].toArray by simp]
    exact kz_read1 ⟨h, hh⟩
  minutes := by
    rw [show [c, 48 + h, 58, 48 + m / 10, 48 + m % 10].toArray.extract 3 5 = [48 + m / 10, 48 + m % 10].toArray by simp]
    exact kz_read2 ⟨m, hm⟩
  some3 := by
    rw [show [c, 48 + h, 58, 48 + m / 10, 48 + m % 10].toArray.extract 3 5 = [48 + m / 10, 48 + m % 10].toArray by simp]
    rfl
  sign := kz_minus _ _
def kzC (bh : Int) : Nat := if bh = 1 then 45 else 43
theorem kzC_or (bh : Int) : kzC bh = 43 ∨ kzC bh = 45 := by unfold kzC; split <;> simp
theorem kzC_text (bh : Int) : (if bh = 1 then Str.ofString "-" else Str.ofString "+") = ⟨[kzC bh].toArray⟩ := by
  unfold kzC
  by_cases h : bh = 1
  · rw [if_pos h, if_pos h, kz_sign.1]
  · rw [if_neg h, if_neg h, kz_sign.2.1]
theorem kzC_size (bh hr mn : Int) : (if bh = 1 then -(3600 * hr + 60 * mn) else 3600 * hr + 60 * mn) = if (kzC bh == 45) = true then -(3600 * hr + 60 * mn) else 3600 * hr + 60 * mn := by
  unfold kzC
  by_cases h : bh = 1
  · rw [if_pos h, if_pos h]; rfl
  · rw [if_neg h, if_neg h]; rfl
theorem kz_off (bh fm : Int) {h m : Nat} (hh : h < 100) (hm : m < 100) (hf : fm = 0 ∨ fm = 1 ∨ fm = 2 ∨ fm = 3) : KuOff (kuText bh h m fm) (kuSize bh h m fm) := by
  have e0 := kzC_text bh
  have e1 := kz_two ⟨h, hh⟩
  have e2 := kz_two ⟨m, hm⟩
  have e3 := kz_one ⟨h, hh⟩
  have s1 := kzC_size bh h m
  dsimp only at e1 e2 e3
  rcases hf with rfl | rfl | rfl | rfl
  · refine .inr ⟨?_, _, _, _, _, _, _, _, _, _, _, ?_, kz_shape0 (kzC_or bh) hh hm, s1⟩
    rotate_left
    · unfold kuText kuFig
      rw [if_neg (by decide : ¬ (0 : Int) = 3), e0, if_neg (by decide : ¬ (0 : Int) = 2), if_pos (rfl : (0 : Int) = 0), e1, e2, kz_sign.2.2.1, kz_app, kz_app, kz_app]
      rfl
    · unfold kuText kuFig
      rw [if_neg (by decide : ¬ (0 : Int) = 3), e0, if_neg (by decide : ¬ (0 : Int) = 2), if_pos (rfl : (0 : Int) = 0), e1, e2, kz_sign.2.2.1, kz_app, kz_app, kz_app]
      exact kz_free (Nat.le_of_ble_eq_true rfl)
  · refine .inr ⟨?_, _, _, _, _, _, _, _, _, _, _, ?_, kz_shape1 (kzC_or bh) hh hm, s1⟩
    rotate_left
    · unfold kuText kuFig
      rw [if_neg (by decide : ¬ (1 : Int) = 3), e0, if_neg (by decide : ¬ (1 : Int) = 2), if_neg (by decide : ¬ (1 : Int) = 0), e1, e2, kz_sign.2.2.2, kz_app, kz_app, kz_app]
      rfl
    · unfold kuText kuFig
      rw [if_neg (by decide : ¬ (1 : Int) = 3), e0, if_neg (by decide : ¬ (1 : Int) = 2), if_neg (by decide : ¬ (1 : Int) = 0), e1, e2, kz_sign.2.2.2, kz_app, kz_app, kz_app]
      exact kz_free (Nat.le_of_ble_eq_true rfl)
  · by_cases h9 : h < 10
    · rw [if_pos h9] at e3
      refine .inr ⟨?_, _, _, _, _, _, _, _, _, _, _, ?_, kz_shape2 (kzC_or bh) h9 hm, s1⟩
      rotate_left
      · unfold kuText kuFig
        rw [if_neg (by decide : ¬ (2 : Int) = 3), e0, if_pos (rfl : (2 : Int) = 2), if_neg (by decide : ¬ (2 : Int) = 0), e3, e2, kz_sign.2.2.2, kz_app, kz_app, kz_app]
        rfl
      · unfold kuText kuFig
        rw [if_neg (by decide : ¬ (2 : Int) = 3), e0, if_pos (rfl : (2 : Int) = 2), if_neg (by decide : ¬ (2 : Int) = 0), e3, e2, kz_sign.2.2.2, kz_app, kz_app, kz_app]
        exact kz_free (Nat.le_of_ble_eq_true rfl)
    · rw [if_neg h9] at e3
      refine .inr ⟨?_, _, _, _, _, _, _, _, _, _, _, ?_, kz_shape1 (kzC_or bh) hh hm, s1⟩
      rotate_left
      · unfold kuText kuFig
        rw [if_neg (by decide : ¬ (2 : Int) = 3), e0, if_pos (rfl : (2 : Int) = 2), if_neg (by decide : ¬ (2 : Int) = 0), e3, e2, kz_sign.2.2.2, kz_app, kz_app, kz_app]
        rfl
      · unfold kuText kuFig
        rw [if_neg (by decide : ¬ (2 : Int) = 3), e0, if_pos (rfl : (2 : Int) = 2), if_neg (by decide : ¬ (2 : Int) = 0), e3, e2, kz_sign.2.2.2, kz_app, kz_app, kz_app]
        exact kz_free (Nat.le_of_ble_eq_true rfl)
  · refine .inl ⟨?_, ?_⟩
    · unfold kuText
      rw [if_pos rfl]
      have hj := ku_fmod (x := (h : Int)) (k := 4) (by decide)
      generalize (h : Int).fmod 4 = j at hj
      have : j = 0 ∨ j = 1 ∨ j = 2 ∨ j = 3 := by omega
      rcases this with rfl | rfl | rfl | rfl <;> decide
    · unfold kuSize
      rw [if_pos rfl]
theorem ku_offOf (x : Int) : KuOff (kuTextOf x) (kuSizeOf x) := by
  unfold kuTextOf kuSizeOf
  have hhr := ku_fmod (x := x.fdiv 2) (k := 100) (by decide)
  have hmn := ku_fmod (x := (x.fdiv 2).fdiv 100) (k := 100) (by decide)
  have hfm := ku_fmod (x := ((x.fdiv 2).fdiv 100).fdiv 100) (k := 4) (by decide)
  generalize (((x.fdiv 2).fdiv 100).fdiv 100).fmod 4 = fm at *
  generalize ((x.fdiv 2).fdiv 100).fmod 100 = mn at *
  generalize (x.fdiv 2).fmod 100 = hr at *
  obtain ⟨h, rfl⟩ := Int.eq_ofNat_of_zero_le hhr.1
  obtain ⟨m, rfl⟩ := Int.eq_ofNat_of_zero_le hmn.1
  exact kz_off _ _ (by omega) (by omega) (by omega)
theorem ku_sizeB (x : Int) : -362340 ≤ kuSizeOf x ∧ kuSizeOf x ≤ 362340 := by
  unfold kuSizeOf kuSize
  have hhr := ku_fmod (x := x.fdiv 2) (k := 100) (by decide)
  have hmn := ku_fmod (x := (x.fdiv 2).fdiv 100) (k := 100) (by decide)
  split
  · omega
  · split <;> omega
theorem ku_offHalf : KuOff (Str.ofString "-0330") (-12600) :=
  .inr ⟨by decide, _, _, _, _, _, _, _, _, _, _, (by decide : Str.ofString "-0330" = ⟨[45, 48 + 3 / 10, 48 + 3 % 10, 48 + 30 / 10, 48 + 30 % 10].toArray⟩), kz_shape0 (.inr rfl) (by decide) (by decide), by decide⟩
theorem ku_month (x : Int) : 1 ≤ x.fmod 12 + 1 ∧ x.fmod 12 + 1 ≤ 12 := by
  have := ku_fmod (x := x) (k := 12) (by decide)
  omega
/-- zones, as the law makes them -/
def KuRow (zs : List (Str × Int)) : Prop := 1 ≤ zs.length ∧ zs.length ≤ 6 ∧ ∀ p ∈ zs, KuOff p.1 p.2 ∧ -362340 ≤ p.2 ∧ p.2 ≤ 362340
theorem KuRow.of {ms : List Int} (h : ms.length ≤ 5) : KuRow (ms.map kuZone ++ [(Str.ofString "-0330", -12600)]) := by
  refine ⟨by rw [List.length_append, List.length_map]; simp only [List.length_cons, List.length_nil]; omega, by rw [List.length_append, List.length_map]; simp only [List.length_cons, List.length_nil]; omega, fun p hp => ?_⟩
  rcases List.mem_append.mp hp with hp | hp
  · obtain ⟨x, _, rfl⟩ := List.mem_map.mp hp
    exact ⟨ku_offOf x, ku_sizeB x⟩
  · rw [List.mem_singleton.mp hp]
    exact ⟨ku_offHalf, by decide, by decide⟩
abbrev KuI2 (n : Int) (t : Tok) (m' : Str → Option Value) (nw : List (Addr × Obj)) : Prop :=
  ∃ (lz : Addr) (cz : Nat) (zvs : List Value) (zs : List (Str × Int)) (nw0 : List (Addr × Obj)) (m₀ : Str → Option Value), nw = (lz, listOf zvs.toArray cz) :: nw0 ∧ KuZones nw zvs zs ∧ KuRow zs ∧
    m' = fun y => if y = Str.ofString "zones" then some (.ref lz) else if y = Str.ofString "start" then some (.int n t) else m₀ y
abbrev KuI3 (n : Int) (t : Tok) (m' : Str → Option Value) (nw : List (Addr × Obj)) : Prop :=
  ∃ (lo lz : Addr) (co cz : Nat) (ovs zvs : List Value) (zs : List (Str × Int)) (nw0 : List (Addr × Obj)) (m₀ : Str → Option Value), nw = (lo, listOf ovs.toArray co) :: (lz, listOf zvs.toArray cz) :: nw0 ∧ KuZones nw zvs zs ∧ KuRow zs ∧ IntsAre ovs (zs.map (·.2)) ∧
    m' = fun y => if y = Str.ofString "offsets" then some (.ref lo) else if y = Str.ofString "zones" then some (.ref lz) else if y = Str.ofString "start" then some (.int n t) else m₀ y
theorem KuRow.ints {zs : List (Str × Int)} (h : KuRow zs) : 1 ≤ (zs.map (·.2)).length ∧ (zs.map (·.2)).length ≤ 6 ∧ ∀ k ∈ zs.map (·.2), -362340 ≤ k ∧ k ≤ 362340 := by
  rw [List.length_map]
  refine ⟨h.1, h.2.1, fun k hk => ?_⟩
  obtain ⟨p, hp, rfl⟩ := List.mem_map.mp hk
  exact (h.2.2 p hp).2
theorem ku_at {ovs : List Value} {ns : List Int} (h : IntsAre ovs ns) (h1 : 1 ≤ ns.length) (h6 : ns.length ≤ 6) {zl : Nat} (e : zl = ns.length) (i : Nat) : 0 ≤ (i : Int).fmod zl ∧ (i : Int).fmod zl < 2 ^ 63 ∧ ∃ t, ovs[((i : Int).fmod zl).toNat]? = some (Value.int (ns.getD (i % ns.length) 0) t) := by
  subst e
  have m := Nat.mod_lt i (show ns.length > 0 by omega)
  have e : (i : Int).fmod ns.length = ((i % ns.length : Nat) : Int) := by
    rw [Int.fmod_eq_emod_of_nonneg _ (by omega)]
    rfl
  rw [e]
  refine ⟨by omega, by omega, ?_⟩
  rw [Int.toNat_natCast]
  exact ku_intsAt h _ m
theorem ku_len {prog : Program} {w : World} {A : Around} {E : Value → Shared → Prop} {s : Shared} {l : Addr} {vs : List Value} {Q : Value → Shared → Prop} (hl : s.heap.IsList l vs.toArray) (hf : vs.length ≤ 6) (h : Q (.int vs.length (s.toks + 1)) { s with toks := s.toks + 1 + 1 }) :
    wpAny (model prog w) A (call (.builtin "len") [.ref l]) Q E s :=
  PyProof.Rows.len_list hl (by rw [List.size_toArray]; omega) (by rw [List.size_toArray]; exact h)
structure KuGate4 : Prop where
theorem ku_not3 {a b c z : Str} (h : [a, b, c].contains z = false) : z ≠ a ∧ z ≠ b ∧ z ≠ c := by
  simp only [List.contains_cons, List.contains_nil, Bool.or_false, Bool.or_eq_false_iff, beq_eq_false_iff_ne] at h
  exact h
theorem ku_in1 {t a b : Addr × Obj} {r o : List (Addr × Obj)} : ∀ p ∈ a :: b :: r, p ∈ t :: a :: b :: (r ++ o) := fun p hp => .tail _ (by
  rcases List.mem_cons.mp hp with h | hp
  · exact List.mem_cons.mpr (.inl h)
  · rcases List.mem_cons.mp hp with h | hp
    · exact .tail _ (List.mem_cons.mpr (.inl h))
    · exact .tail _ (.tail _ (List.mem_append_left _ hp)))
theorem ku_in2 {t a b : Addr × Obj} {r o : List (Addr × Obj)} : ∀ p ∈ o, p ∈ t :: a :: b :: (r ++ o) := fun _ hp => .tail _ (.tail _ (.tail _ (List.mem_append_right _ hp)))
structure KuGate5 : Prop where
theorem kl_mulW : IntMulOk (kuPow (Int.toNat 32) - 1) (kuPow (Int.toNat 153600) - 1) := by
  refine PyProof.Rows.mulOk_of_bits (m := 64) (n := 153600) ku_smallP.2.2 (ku_bitsP ?_) (by decide)
  have h1 := kuPow_big (n := Int.toNat 153600) (by decide)
  have e : kuPow (Int.toNat 153600) = kuPow 153600 := rfl
  omega
theorem ku_newsHd {h₀ h : Heap} {L D : Addr} {ys : List Value} {r : List (Addr × Obj)} (N : News h₀ L h ((D, LCg.lst ys) :: r)) : News h₀ L h [(D, listOf ys.toArray ys.length)] := fun p hp => N p (by
  rw [List.mem_singleton.mp hp]
  exact .head _)
section
local macro_rules | `(tactic| walk_at "call ref") => `(tactic| (k_here; k_dflt (refine' ku_zone ?k1 ?k2 ?k3 ?k4 ?k5 ?kK trivial ?kd ?ku ?_; walk_at "ku_args"); intro D9 t9 u9 c9 h9 tk9 F9 N9 Y9; (try dsimp only); (try k_fold)))
local macro_rules | `(tactic| walk_at "call ref") => `(tactic| (k_here; k_dflt (refine' ku_off ?k1 ?k2 ?k3 ?k4 ?k5 ?kK ?kp ?kd ?ku ?_; (case kp => assumption); walk_at "ku_args"); intro t9 h9 tk9 F9 N9; (try dsimp only); (try k_fold)))
local macro_rules | `(tactic| walk_at "call ref") => `(tactic| (k_here; k_dflt (refine' ku_dbm ?k1 ?k2 ?k3 ?k4 ?k5 ?kK ?kp ?kd ?ku ?_; (case kp => exact ku_month _); walk_at "ku_args"); intro t9 h9 tk9 F9 N9; (try dsimp only); (try k_fold)))
local macro_rules | `(tactic| walk_at "execs cons") => `(tactic| (k_here; (with_reducible rename KuGate => kg9); clear kg9; refine KuStop.on ?_))
local macro_rules | `(tactic| walk_at "pyIter ref") => `(tactic| (k_here; (with_reducible rename KuGate3 => kg9); clear kg9; refine KuStop.on ?_))
local macro_rules | `(tactic| walk_at "CompSrc") => `(tactic| (k_here; (with_reducible rename KuGate2 => kg9); clear kg9; refine KuStop.on ?_))
local macro_rules | `(tactic| walk_at "SrcLP") => `(tactic| (k_here; (with_reducible rename KuGate2 => kg9); clear kg9; refine KuStop.on ?_))
local macro_rules | `(tactic| walk_at "binaryOp Add ref ref") => `(tactic| (k_here; (with_reducible rename KuGate => kg9); clear kg9; refine KuStop.on ?_))
local macro_rules | `(tactic| walk_at "binaryOp LShift int int") => `(tactic| (k_here; first | (refine ku_shl (by first | decide | omega) ?_) | (refine ku_shlN (by decide) (by assumption) ?_)))
local macro_rules | `(tactic| walk_at "call builtin:len") => `(tactic| (k_here; k_dflt (refine ku_len (News.isList (by k_asm) (by k_mem)) (by assumption) ?_)))
local macro_rules | `(tactic| walk_at "subscriptTail Name BinOp ref int") => `(tactic| (k_here; (with_reducible rename KuGate4 => kg9); clear kg9; refine KuStop.on ?_))
local macro_rules | `(tactic| walk_at "binaryOp Mult int int") => `(tactic| (k_here; refine mul_int ?_ (by with_reducible assumption)))
local macro_rules | `(tactic| walk_at "call ref") => `(tactic| (k_here; (with_reducible rename KuGate5 => kg9); clear kg9; refine KuStop.on ?_))
set_option maxHeartbeats 8000000 in
theorem ku_law : PySem.Challenge.rw_ku0035_01.Holds := Ku.hd (by
  w_strict k_go0
  (try k_fold)
  (rename IntsAre _ _ => hI)
  have kuG : KuGate := KuGate.mk
  k_steps
  refine KuStop.off ?_
  (rename Heap.IsList _ _ _ => hL)
  (rename Fr _ _ _ _ => F1)
  refine ku_cut1 F1 hL ?_ ?_
  · intro Q' hq
    k_steps
    (rename Fr _ _ _ _ => F2)
    obtain ⟨m8, F8⟩ := ku_slim2 (Str.ofString "start") (Str.ofString "script") F2 rfl rfl
    exact hq _ _ _ _ ⟨rfl, _, _, _, rfl⟩ F8 (cb_drop (by k_asm) (by kcj_all))
  clear F1
  intro n1 t1 h1 tk1 m1 F1 N1
  have kuG : KuGate := KuGate.mk
  k_steps
  refine KuStop.off ?_
  refine ku_cut F1 (KuI2 n1 t1) ?_ ?_
  · intro Q' hq
    have kuG2 : KuGate2 := KuGate2.mk
    have kuG : KuGate := KuGate.mk
    k_steps
    refine KuStop.off ?_
    (rename IntsAre _ (List.take _ _) => hJ)
    have hJ5 := ku_five hJ
    refine LCg.CompSrc.ledger rfl (by k_asm) (by k_asm) (by k_mem) (kmk_sz hJ (by rw [sizeLine_eq]; omega)) ?_
    intro g9
    refine ku_zonesRest hJ ?_ ?_
    · intro k3 t3 ys3 nw3 I3 oI3 C3 oC3 D3 m3 h3 tk3 E3 Q3 hC3 hx3 F3 N3 off3 ne3 hq3
      k_steps
      exact hq3 _ _ _ _ _ _ (by k_asm) (by k_asm) (by assumption)
    intro ys3 nw3 hz3
    k_steps
    refine KuStop.off ?_
    (rename Fr _ _ _ _ => F3)
    (rename News _ _ _ _ => N3)
    refine kmk_add_lit (zs := ys3 ++ [.ref _]) F3 N3 (News.isList N3 (by k_mem)) (News.isList N3 (by k_mem)) rfl ?_ ?_
    · intro D' h' F' N' l1
      (try dsimp only)
      k_steps
      (rename Fr _ _ _ _ => F4)
      (rename News _ _ _ _ => N4)
      obtain ⟨m8, F8⟩ := ku_slim2 (Str.ofString "zones") (Str.ofString "start") F4 rfl rfl
      refine hq _ _ _ _ ?_ F8 N4
      exact ⟨_, _, _, _, _, _, rfl, (hz3.up fun p hp => .tail _ (.tail _ (.tail _ (.tail _ hp)))).snoc (z := (Str.ofString "-0330", -12600)) (.tail _ (.tail _ (.head _))), KuRow.of hJ5, rfl⟩
    · have := hz3.1
      rw [List.length_map] at this
      rw [sizeLine_eq]
      show ys3.length + 1 ≤ _
      omega
  rintro h2 tk2 _ _ ⟨lz, cz, zvs, zs, nw0, m2, rfl, hz, hR, rfl⟩ F2 N2
  clear F1 N1
  have kuG : KuGate := KuGate.mk
  k_steps
  refine KuStop.off ?_
  refine ku_cut F2 (KuI3 n1 t1) ?_ ?_
  · intro Q' hq
    have kuG2 : KuGate2 := KuGate2.mk
    change wpAny _ _ _ _ _ _
    k_steps
    refine KuStop.off ?_
    refine LCp.SrcLP.ledger (its := zvs.toArray) rfl F2 N2 (List.mem_cons_self ..) (by rw [List.size_toArray, sizeLine_eq, hz.1]; have := hR.2.1; omega) ?_
    intro g9
    refine ku_pairsRest hz (.inr ⟨_, List.mem_cons_self .., rfl, _, rfl⟩) ?_ ?_
    · intro z3 t3 u3 ys3 I3 oI3 C3 oC3 D3 m3 h3 tk3 E3 Q3 hm3 hC3 hx3 hy3 F3 N3 off3 ne3 hq3
      have hO3 := (hR.2.2 z3 hm3).1
      k_steps
      exact hq3 _ _ _ (by k_asm) (by k_asm)
    intro ys3 hI3
    k_steps
    (rename Fr _ _ _ _ => F4)
    (rename News _ _ _ _ => N4)
    obtain ⟨m8, F8⟩ := ku_slim3 (Str.ofString "offsets") (Str.ofString "zones") (Str.ofString "start") F4 rfl rfl rfl
    refine hq _ _ _ _ ?_ F8 N4
    exact ⟨_, _, _, _, _, _, _, _, _, rfl, hz.up fun p hp => .tail _ hp, hR, hI3, rfl⟩
  rintro h3 tk3 _ _ ⟨lo, lz, co, cz, ovs, zvs, zs, nw0, m3, rfl, hz, hR, hO, rfl⟩ F3 N3
  clear F2 N2
  change wpAny _ _ _ _ _ _
  have kuG3 : KuGate3 := KuGate3.mk
  k_steps
  refine KuStop.off ?_
  (rename Fr _ _ _ _ => F4)
  (rename News _ _ _ _ => N4)
  have N5 : News _ _ _ ((lo, listOf ovs.toArray co) :: (lz, listOf zvs.toArray cz) :: nw0) := fun p hp => N4 p (.tail _ hp)
  obtain ⟨m5, F5⟩ := ku_slim5 (Str.ofString "due") (Str.ofString "first") (Str.ofString "offsets") (Str.ofString "zones") (Str.ofString "start") F4 rfl rfl rfl rfl rfl
  obtain ⟨hl1, hl6, hns⟩ := hR.ints
  refine ku_forAt (Str.ofString "due") [Str.ofString "year", Str.ofString "month", Str.ofString "days"] 127 (klDue n1 (zs.map (·.2))) rfl rfl (by assumption) (by decide) (by decide) F5 N5 rfl ?_ ?_
  · intro i9 t9 ta9 u9 h9 tk9 own9 hi9 ho9 F9 N9
    have hb9 := kl_dueBits hns (start := n1) (k := i9) (by omega)
    have hx9 := ku_at hO hl1 hl6 (show zvs.length = _ by rw [List.length_map]; exact hz.1) i9
    clear F4 N4 F5 N5
    dsimp only [envOf] at F9 N9
    simp only [List.cons_append] at N9
    k_sweep
    have hz6 : zvs.length ≤ 6 := by rw [hz.1]; exact hR.2.1
    have hz0 : (0 : Int) < zvs.length := by rw [hz.1]; have := hR.1; omega
    have kuG4 : KuGate4 := KuGate4.mk
    k_steps
    refine KuStop.off ?_
    refine ku_itemE (ku_listN (by k_asm) (by k_mem)) hx9.1 hx9.2.1 hx9.2.2 ?_
    intro t8
    dsimp only
    k_steps
    (rename Fr _ _ _ _ => Fe)
    (rename News _ _ _ _ => Ne)
    refine ⟨_, _, _, _, _, rfl, Fe, Ne, ku_in1, ku_in2, rfl, rfl, ⟨_, congrArg (fun z => some (Value.int z _)) kl_dueTurn⟩, ?_⟩
    intro z g1 g2 g3
    have g4 := ku_not3 g3
    simp only [g1, g2, g3, g4.1, g4.2.1, g4.2.2, if_false, Bool.false_eq_true]
  intro u9 t9 h9 tk9 F9 N9
  dsimp only [envOf] at F9 N9
  (try dsimp only)
  clear F4 N4 F5 N5
  k_sweep
  obtain ⟨m8, F8⟩ := ku_slim3 (Str.ofString "due") (Str.ofString "zones") (Str.ofString "start") F9 rfl rfl rfl
  clear F9
  change wpAny _ _ _ _ _ _
  have mW := kl_mulW
  have kuG2 : KuGate2 := KuGate2.mk
  k_steps
  refine KuStop.off ?_
  (rename Fr _ _ _ _ => F6)
  (rename News _ _ _ _ => N6)
  refine LCp.SrcLP.ledger (its := zvs.toArray) rfl F6 N6 (.tail _ (.head _)) (by rw [List.size_toArray, sizeLine_eq, hz.1]; have := hR.2.1; omega) ?_
  intro g9
  refine ku_pairsRest hz (.inr ⟨_, .tail _ (.head _), rfl, _, rfl⟩) ?_ ?_
  · intro z3 t3 u3 ys3 I3 oI3 C3 oC3 D3 m3 h3 tk3 E3 Q3 hm3 hC3 hx3 hy3 F3 N3 off3 ne3 hq3
    k_steps
    exact hq3 _ _ _ (by k_asm) (by k_asm)
  intro ys3 hI3
  have kuG5 : KuGate5 := KuGate5.mk
  k_steps
  refine KuStop.off ?_
  (rename News _ _ _ _ => N7)
  replace N7 := ku_newsHd N7
  clear N6
  obtain ⟨j9, hj9⟩ := kl_lens hl1 hl6
  obtain ⟨kd1, kd2, kd3⟩ := kl_law hl1 hj9 hns (start := n1)
  have hbD := kl_dvdBits hl1 hj9 hns (start := n1)
  have mD := kl_dueMul hns (start := n1)
  refine' ku_dvd ?k1 ?k2 ?k3 ?k4 ?k5 ?kK ?kp ?kd ?ku ?_
  (case kp => exact ⟨hI3, hl1, hl6, fun k hk => by have := hns k hk; omega⟩)
  walk_at "ku_args"
  intro t8 h8 tk8 F7 N8
  rw [kl_dvdEq]
  (try dsimp only)
  clear N7
  have kuG5 : KuGate5 := KuGate5.mk
  k_steps
  refine KuStop.off ?_
  refine' ku_div2 6 (by decide) ?k1 ?k2 ?k3 ?k4 ?k5 ?kK ?kp ?kd ?ku ?_
  (case kp => exact ⟨kd1, by decide, kd2, kd3⟩)
  walk_at "ku_args"
  intro D8 t8 u8 c8 h8 tk8 F8 N8 A8
  (try dsimp only)
  k_steps)
end
end KuLaw
theorem PySem.Challenge.cw_ku0035_01_holds : PySem.Challenge.rw_ku0035_01.Holds :=
  KuLaw.ku_law
