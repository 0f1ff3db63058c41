import PyProof.Rows.All
import Wide.All
import OpenK.AllK
import Wide.FinOn
import PySem.Challenge.RW_ik0137_01
set_option Elab.async false
namespace Mine
section
open PySem PySem.W PyProof.Rows
set_option maxRecDepth 100000 in
set_option maxHeartbeats 8000000 in
open_top hd for PySem.Challenge.rw_ik0137_01
end
section
open PySem PySem.W PyProof.Rows PySem.Calls

theorem bits_le {x : Int} {k : Nat} (h : x.natAbs < 2 ^ k) : Builtin.Int.intBits x ≤ k := by
  unfold Builtin.Int.intBits
  split
  · omega
  · rename_i hx
    have h0 : x.natAbs ≠ 0 := by simpa using hx
    have := (Nat.log2_lt h0).mpr h
    omega
theorem lt_bits (x : Int) : x.natAbs < 2 ^ Builtin.Int.intBits x := by
  unfold Builtin.Int.intBits
  split
  · rename_i hx
    have : x = 0 := by simpa using hx
    subst this; decide
  · rename_i hx
    have h0 : x.natAbs ≠ 0 := by simpa using hx
    exact (Nat.log2_lt h0).mp (Nat.lt_succ_self _)

abbrev tup2 (a b : Value) (c : Nat) : Obj := { cls := .type "tuple", data := .seq #[a, b] c }

section
variable {w : World} {p : Program} {loose : List Str} {mean : ExcName → Option Value} {mg mb : Str → Option Value}
   {dp un : Nat} {gd : Option (List Code)} {cn : Str} {cs : Scope} {a : Addr} {ccd : Value} {cl : List (Str × Addr)} {outer : List Env} {A₀ : Around} {base h₀ : Heap} {L : Addr} {m : Str → Option Value} {s : Shared} {Q E : Value → Shared → Prop} {news : List (Addr × Obj)}

theorem lt_new {h : Heap} (N : News h₀ L h news) : AllLt h.objs.size news := allLt_of fun p hp => Heap.lt_size (N p hp).1

set_option maxRecDepth 100000 in
set_option maxHeartbeats 8000000 in
theorem c_div {x y n : Int} {tx ty tn : Tok}
   (B : Below A₀ base outer h₀) (F : Fr h₀ L s.heap m) (X : (hd.heap_39 w.params).In h₀) (N : News h₀ L s.heap news) (T : Top p loose mean mg mb h₀) (hk : cs.kind = .function)
   (hd1 : dp + 1 < recursionLimit) (hu1 : un + 8 < cLine)
   (hx0 : 0 ≤ x) (hx1 : x < 16777216) (hy0 : 2 ≤ y) (hy1 : y ≤ 12) (hn : 0 ≤ n) (hn1 : n ≤ 4)
   (hret : ∀ (D : Addr) (t1 t2 : Tok) (c : Nat) (h' : Heap) (tk' : Nat), Fr h₀ L h' m → News h₀ L h' ((D, tup2 (.int (x / y) t1) (.int (x % y) t2) c) :: news) → AllLt D news → Q (.ref D) { s with heap := h', toks := tk' }) :
   wpAny (model PySem.Challenge.rw_ik0137_01.row.prog w) (ktrTop dp un gd cn cs L a ccd cl outer) (call (.ref 65) [.int x tx, .int y ty, .int n tn]) Q E s := by
  revert X; k_fill; intro X
  have hbl : (Builtin.Int.intBits x : Int) ≤ 24 := by
    have := bits_le (x := x) (k := 24) (by omega)
    omega
  rw [← Int.fdiv_eq_ediv_of_nonneg _ (by omega), ← Int.fmod_eq_emod_of_nonneg _ (by omega)] at hret
  refine wpAny_call ?_
  k_dflt ktr_enter
  k_steps
  all_goals (with_reducible rename News _ _ _ news => nN)
  refine' hret _ _ _ _ _ _ ?e1 ?e2 ?e3
  case e1 => k_asm
  case e2 => k_asm
  case e3 => exact lt_new nN

theorem rep_fold (v : Value) : ∀ k : Nat, (List.replicate k #[v]).foldl (fun x1 x2 => x1 ++ x2) #[] = (List.replicate k v).toArray := by
  have h : ∀ (k : Nat) (acc : Array Value), (List.replicate k #[v]).foldl (fun x1 x2 => x1 ++ x2) acc = acc ++ (List.replicate k v).toArray := by
    intro k
    induction k with
    | zero => intro acc; simp
    | succ k ih => intro acc; rw [List.replicate_succ, List.foldl_cons, ih, List.replicate_succ]; apply Array.toList_inj.mp; simp
  intro k
  rw [h]; simp
theorem ints_rep (x : Int) (t : Tok) : ∀ k : Nat, IntsAre (List.replicate k (Value.int x t)) (List.replicate k x)
  | 0 => .nil
  | k + 1 => .cons x t (ints_rep x t k)

theorem mul_rep {prog : Program} {w : World} {A : Around} {l : Addr} {x z : Int} {u tz : Tok} {c : Nat} {E : Value → Shared → Prop} {Q : Value → Shared → Prop} (F : Fr h₀ L s.heap m) (N : News h₀ L s.heap news) (hm : (l, listOf #[.int z tz] c) ∈ news) (h0 : 0 ≤ x) (h1 : x ≤ 1000)
    (h : ∀ D vs h', Fr h₀ L h' m → News h₀ L h' ((D, listOf vs.toArray 0) :: news) → IntsAre vs (List.replicate x.toNat z) → (∀ p ∈ news, p.1 < D) → Q (.ref D) { s with heap := h' }) :
    wpAny (model prog w) A (binaryOp .Mult (.ref l) (.int x u)) Q E s := by
  refine mul_list F N (N _ hm).1 (by omega) (by omega) (by simp; omega) fun h' F' N' => ?_
  refine h _ (List.replicate x.toNat (.int z tz)) h' F' ?_ (ints_rep _ _ _) fun p hp => Heap.lt_size (N p hp).1
  rw [rep_fold] at N'
  simpa [W.listOf] using N'
end
end
section
open PySem PySem.W PyProof.Rows PySem.Calls

/-- the number that k digits from place l on stand for -/
def V (b : Nat) (ns : List Int) : Nat → Nat → Int
  | _, 0 => 0
  | l, k + 1 => ns.getD l 0 + 2 ^ b * V b ns (l + 1) k
theorem V_succ {b : Nat} {ns : List Int} (l k : Nat) : V b ns l (k + 1) = ns.getD l 0 + 2 ^ b * V b ns (l + 1) k := rfl
theorem V_congr {b : Nat} {ns ms : List Int} : ∀ {k l : Nat}, (∀ j, l ≤ j → j < l + k → ns.getD j 0 = ms.getD j 0) → V b ns l k = V b ms l k
  | 0, _, _ => rfl
  | k + 1, l, h => by
    unfold V
    rw [h l (Nat.le_refl _) (by omega), V_congr (k := k) (l := l + 1) fun j h1 h2 => h j (by omega) (by omega)]
theorem V_add {b : Nat} {ns : List Int} : ∀ (j k l : Nat), V b ns l (j + k) = V b ns l j + 2 ^ (b * j) * V b ns (l + j) k
  | 0, k, l => by simp [V]
  | j + 1, k, l => by
    rw [show j + 1 + k = (j + k) + 1 from by omega]
    rw [V_succ, V_succ, V_add j k (l + 1), show l + (j + 1) = l + 1 + j from by omega, show b * (j + 1) = b * j + b from by rw [Nat.mul_add, Nat.mul_one], Int.pow_add]
    rw [Int.mul_add, ← Int.add_assoc]
    congr 1
    rw [← Int.mul_assoc, Int.mul_comm (2 ^ b)]

structure Filled (b : Nat) (ns ns' : List Int) (l k : Nat) (x : Int) : Prop where
  len : ns'.length = ns.length
  out : ∀ j, j < l ∨ l + k ≤ j → ns'.getD j 0 = ns.getD j 0
  dig : ∀ j, l ≤ j → j < l + k → 0 ≤ ns'.getD j 0 ∧ ns'.getD j 0 < 2 ^ b
  val : V b ns' l k = x
theorem Filled.one {b : Nat} {ns : List Int} {l : Nat} {x : Int} (hl : l < ns.length) (h0 : 0 ≤ x) (h1 : x < 2 ^ b) : Filled b ns (ns.set l x) l 1 x where
  len := List.length_set ..
  out j hj := by
    simp only [List.getD_eq_getElem?_getD]
    rw [List.getElem?_set_ne (by omega)]
  dig j h2 h3 := by
    have : j = l := by omega
    subst this
    simp only [List.getD_eq_getElem?_getD, List.getElem?_set_self hl, Option.getD_some]
    exact ⟨h0, h1⟩
  val := by
    simp [V, List.getD_eq_getElem?_getD, List.getElem?_set_self hl]
theorem Filled.two {b : Nat} {ns ns1 ns2 : List Int} {l j k : Nat} {x y : Int} (h1 : Filled b ns ns1 l j x) (h2 : Filled b ns1 ns2 (l + j) k y) : Filled b ns ns2 l (j + k) (x + 2 ^ (b * j) * y) where
  len := h2.len.trans h1.len
  out i hi := (h2.out i (by omega)).trans (h1.out i (by omega))
  dig i h3 h4 := by
    by_cases h : i < l + j
    · rw [h2.out i (.inl h)]; exact h1.dig i h3 h
    · exact h2.dig i (by omega) (by omega)
  val := by
    rw [V_add, h2.val, V_congr (ms := ns1) fun i h3 h4 => h2.out i (.inl h4), h1.val]

theorem xor_low {x : Int} (hx : 0 ≤ x) (s : Nat) : Builtin.bitXor x (x.fdiv (2 ^ s) * 2 ^ s) = x % 2 ^ s := by
  obtain ⟨y, rfl⟩ := Int.eq_ofNat_of_zero_le hx
  have hp : (2 : Int) ^ s = ((2 ^ s : Nat) : Int) := by simp
  rw [hp, Int.fdiv_eq_ediv_of_nonneg _ (Int.natCast_nonneg _), bitXor_and]
  have e : ((y : Int) / ((2 ^ s : Nat) : Int) * ((2 ^ s : Nat) : Int)) = ((y / 2 ^ s * 2 ^ s : Nat) : Int) := by simp
  rw [e, bitAnd_pp (Int.natCast_nonneg _) (Int.natCast_nonneg _)]
  simp only [Int.toNat_natCast]
  have h : y &&& (y / 2 ^ s * 2 ^ s) = y / 2 ^ s * 2 ^ s := by
    apply Nat.eq_of_testBit_eq
    intro i
    rw [Nat.testBit_and, ← Nat.shiftLeft_eq, ← Nat.shiftRight_eq_div_pow, Nat.testBit_shiftLeft, Nat.testBit_shiftRight]
    by_cases hi : i ≥ s
    · rw [show s + (i - s) = i from by omega]; simp
    · simp [hi]
  rw [h]
  have := Nat.div_add_mod y (2 ^ s)
  rw [← Int.natCast_emod]
  have h2 : y / 2 ^ s * 2 ^ s = 2 ^ s * (y / 2 ^ s) := Nat.mul_comm _ _
  omega

theorem emod_le {x m : Int} (hx : 0 ≤ x) (hm : 0 < m) : x % m ≤ x := by
  have h1 := Int.mul_ediv_add_emod x m
  have h2 : 0 ≤ m * (x / m) := Int.mul_nonneg (by omega) (Int.ediv_nonneg hx (by omega))
  omega

abbrev XA := List (Addr × Obj)
def InnerSpec (w : World) (p : Program) (loose : List Str) (mean : ExcName → Option Value) (mg mb : Str → Option Value) (base : Heap) (n : Int) (D f : Addr) (R : XA) (k : Nat) : Prop :=
  ∀ (dp un : Nat) (gd : Option (List Code)) (cn : Str) (cs : Scope) (a : Addr) (ccd : Value) (cl : List (Str × Addr)) (outer : List Env) (A₀ : Around) (h₀ : Heap) (L : Addr) (m : Str → Option Value) (s : Shared) (Q E : Value → Shared → Prop)
    (x l r : Int) (tx tl tr : Tok) (vs : List Value) (ns : List Int),
    Below A₀ base outer h₀ → Fr h₀ L s.heap m → (hd.heap_39 w.params).In h₀ → News h₀ L s.heap ((D, W.listOf vs.toArray 0) :: R) → Top p loose mean mg mb h₀ → cs.kind = .function →
    dp + k + 1 < recursionLimit → un + 8 * (k + 1) < cLine → IntsAre vs ns → 0 ≤ l → r = l + k → r ≤ ns.length → ns.length ≤ 30 → 0 ≤ x → x < 2 ^ (n.toNat * k) → x < 1048576 → 1 ≤ k →
    (∀ vs' ns' h' tk', Fr h₀ L h' m → News h₀ L h' ((D, W.listOf vs'.toArray 0) :: R) → IntsAre vs' ns' → Filled n.toNat ns ns' l.toNat k x → Q .none { s with heap := h', toks := tk' }) →
    wpAny (model PySem.Challenge.rw_ik0137_01.row.prog w) (ktrTop dp un gd cn cs L a ccd cl outer) (call (.ref f) [.int x tx, .int l tl, .int r tr]) Q E s

theorem news_move1 {h₀ h : Heap} {L : Addr} {R : XA} {a q : Addr × Obj} (N : News h₀ L h (a :: q :: R)) : News h₀ L h (q :: a :: R) := fun p hp => N p (by
  rcases List.mem_cons.mp hp with rfl | hp
  · exact .tail _ (.head _)
  · rcases List.mem_cons.mp hp with rfl | hp
    · exact .head _
    · exact .tail _ (.tail _ hp))
theorem with_rest {P : Addr → Addr → XA → Prop} {G : Prop} {h₀ h : Heap} {L D f : Addr} {o fo : Obj} {R : XA} (_N : News h₀ L h ((D, o) :: (f, fo) :: R)) (h1 : P D f ((f, fo) :: R)) (h2 : P D f ((f, fo) :: R) → G) : G := h2 h1
theorem news_move2 {h₀ h : Heap} {L : Addr} {R : XA} {a b q : Addr × Obj} (N : News h₀ L h (a :: b :: q :: R)) : News h₀ L h (q :: a :: b :: R) := fun p hp => N p (by
  rcases List.mem_cons.mp hp with rfl | hp
  · exact .tail _ (.tail _ (.head _))
  · rcases List.mem_cons.mp hp with rfl | hp
    · exact .head _
    · rcases List.mem_cons.mp hp with rfl | hp
      · exact .tail _ (.head _)
      · exact .tail _ (.tail _ (.tail _ hp)))

/-- R' is R with a few more ahead, all of them above all of R0 -/
def Grew (R0 R R' : XA) : Prop := ∃ ex, R' = ex ++ R ∧ ∀ p ∈ ex, ∀ q ∈ R0, @LT.lt Nat _ q.1 p.1
def TabF (ln col : Int) (q : Str) (ps : Array Value) (R : XA) : Prop := ∃ c' oc vs t, ps = #[rawInt ln, rawInt col, .ref c'] ∧ (c', oc) ∈ R ∧ oc.data = .fields vs ∧ vs[1]? = some (.str q t)
theorem Grew.same {R0 R : XA} : Grew R0 R R := ⟨[], rfl, fun _ h => nomatch h⟩
theorem Grew.add {R0 R : XA} {q : Addr × Obj} (h : ∀ p ∈ R0, @LT.lt Nat _ p.1 q.1) : Grew R0 R (q :: R) := ⟨[q], rfl, fun p hp => by
  rw [List.mem_singleton.mp hp]; exact h⟩
theorem Grew.sub {R0 R R' : XA} (h : Grew R0 R R') : ∀ p ∈ R, p ∈ R' := by
  obtain ⟨ex, rfl, _⟩ := h
  exact fun p hp => List.mem_append_right _ hp
theorem Grew.off {R0 R R' : XA} {d : Addr} {o : Obj} (h : Grew R0 R R') (h1 : ∀ p ∈ R, p.1 ≠ d) (hd : (d, o) ∈ R0) : ∀ p ∈ R', p.1 ≠ d := by
  obtain ⟨ex, rfl, h2⟩ := h
  intro p hp
  rcases List.mem_append.mp hp with hp | hp
  · exact Nat.ne_of_gt (h2 p hp _ hd)
  · exact h1 p hp
theorem TabF.mono {ln col : Int} {q : Str} {ps : Array Value} {R R' : XA} (h : TabF ln col q ps R) (hs : ∀ p ∈ R, p ∈ R') : TabF ln col q ps R' :=
  let ⟨c, o, v, t, a, b, r⟩ := h; ⟨c, o, v, t, a, hs _ b, r⟩
theorem lt_two {c d : Addr} {o : Obj} {R : XA} (h1 : @LT.lt Nat _ d c) (h2 : AllLt c R) : ∀ q ∈ (d, o) :: R, @LT.lt Nat _ q.1 c := ktn_ltOf (show AllLt c ((d, o) :: R) from ⟨h1, h2⟩)
theorem Filled.digits {b : Nat} {ns ns' : List Int} {k : Nat} {x : Int} (h : Filled b ns ns' 0 k x) (hk : ns.length = k) : V b ns' 0 ns'.length = x ∧ ∀ d ∈ ns', 0 ≤ d ∧ d < 2 ^ b := by
  have e : ns'.length = k := h.len.trans hk
  refine ⟨by rw [e]; exact h.val, fun d hd => ?_⟩
  obtain ⟨j, hj, rfl⟩ := List.getElem_of_mem hd
  have := h.dig j (Nat.zero_le _) (by omega)
  rwa [List.getD_eq_getElem?_getD, List.getElem?_eq_getElem hj] at this

theorem with_code {c P : Addr} {o oc : Obj} {vs : Array Value} {t : Tok} {ln col : Int} {q : Str} {R : XA} {G : Prop} (hC : @LT.lt Nat _ P c ∧ AllLt c R) (dF : oc.data = .fields vs) (hv : vs[1]? = some (.str q t))
    (k : ∀ R', R' = (c, oc) :: R → TabF ln col q #[rawInt ln, rawInt col, .ref c] R' → Grew ((P, o) :: R) R R' → G) : G :=
  k _ rfl ⟨c, oc, vs, t, rfl, .head _, dF, hv⟩ (Grew.add (lt_two hC.1 hC.2))

def Hold {α : Type} (t : Sem α) : Sem α := t
theorem hold_on {α : Type} {M : Model} {A : Around} {t : Sem α} {Q : α → Shared → Prop} {E : Value → Shared → Prop} {s : Shared} (h : wpAny M A (Hold t) Q E s) : wpAny M A t Q E s := h
theorem ne_tail {P : Prop} {d c : Addr} {news : List (Addr × Obj)} (h : P ∧ AllLt d news) (hc : @LE.le Nat _ d c) : ∀ p ∈ news, p.1 ≠ c := fun p hp => Nat.ne_of_lt (Nat.lt_of_lt_of_le (ktn_ltOf h.2 p hp) hc)
theorem ne_tail1 {d c : Addr} {news : List (Addr × Obj)} (h : AllLt d news) (hc : @LE.le Nat _ d c) : ∀ p ∈ news, p.1 ≠ c := fun p hp => Nat.ne_of_lt (Nat.lt_of_lt_of_le (ktn_ltOf h p hp) hc)

local macro_rules | `(tactic| walk_at "call ref") => `(tactic| (k_here; refine hold_on ?_))
local macro_rules | `(tactic| k_all) => `(tactic| first | with_reducible assumption | exact ne_tail (by with_reducible assumption) (by omega) | exact ne_tail1 (by with_reducible assumption) (by omega))
local macro_rules | `(tactic| ktr_enter) => `(tactic| (refine' code_defC ?k1 ?k2 ?k3 ?k4 ?k5 ?kA ?kF ?kK ?k6 ?k7 ?k8 ?k9 ?kB ?kD ?_ ?c2 ?c3 ?c4; (case kA => exact rfl); (case kF => exact rfl); (case kK => assumption); (case k1 => k_asm); (case k2 => k_asm); (case k3 => k_asm); (case k4 => k_asm); (case k5 => k_asm); (case k6 => k_is); (case k7 => k_is); (case k8 => ktr_room); (case k9 => exact BindsTo.of_eq rfl); (case kB => exact rfl); (case kD => decide +kernel); (case c2 => exact rfl); (case c3 => exact rfl); (case c4 => exact rfl); k_whole; intro g' L' h' tk' cells' FG' F' N' Y' B' X' T' l1; (try k_lt l1); k_cells Y'; (try simp only [List.cons_append, List.nil_append] at N'); (try dsimp only); (try k_lift B'); (try k_fold)))
local macro_rules | `(tactic| walk_at "binaryOp Mult ref int") => `(tactic| (k_here; (with_reducible show wpAny _ _ (binaryOp Operator.Mult (Value.ref _) (Value.int _ _)) _ _ _); k_dflt (refine' mul_rep ?k1 ?k2 ?k3 ?k4 ?k5 ?_; (case k1 => k_asm); (case k2 => k_asm); (case k3 => k_mem); (case k4 => omega); (case k5 => omega); k_whole); intro D' vs' h' F' N' hi' l1; (try k_lt l1); (try k_sweep)))
local macro_rules | `(tactic| walk_at "call builtin:len") => `(tactic| (k_here; (with_reducible show wpAny _ _ (call (Value.builtin "len") [Value.ref _]) _ _ _); k_dflt (refine' len_ints_fit ?k1 ?k2 ?k3 ?_; (case k1 => exact News.isList (by assumption) (by k_mem)); (case k2 => with_reducible assumption); (case k3 => (simp only [List.length_replicate] at *; omega)); k_whole); (try simp only [List.length_replicate])))
local macro_rules | `(tactic| kn_enter) => `(tactic| (refine' code_nest ?k1 ?k2 ?k3 ?k4 ?k5 ?kA ?kF ?kK ?k6 ?k7 ?k8 ?k9 ?kB ?_ ?c2 ?c3 ?c4 ?c5; (case kA => exact rfl); (case kF => exact rfl); (case kK => assumption); (case k1 => k_asm); (case k2 => k_asm); (case k3 => k_asm); (case k4 => k_asm); (case k5 => k_asm); (case k6 => k_mem); (case k7 => exact codeRec_news (by k_asm) (by k_mem) (by assumption) (by assumption)); (case k8 => ktr_room); (case k9 => exact BindsTo.of_eq rfl); (case c5 => decide); (case kB => exact locs rfl); (case c2 => exact rfl); (case c3 => exact rfl); (case c4 => exact rfl); k_whole; intro g' L' h' FG' F' N' B' X' T'; (try dsimp only); (try k_lift B'); (try k_fold)))
local macro_rules | `(tactic| kqd_sub) => `(tactic| (intro p9 h9; repeat (first | exact h9 | refine List.Mem.tail _ ?_)))
local macro_rules | `(tactic| k_mem) => `(tactic| first | exact List.Mem.head _ | (refine' List.Mem.tail _ ?_; k_mem) | with_reducible assumption | assumption)
local macro_rules | `(tactic| walk_at "truthy ref") => `(tactic| (k_here; (with_reducible show wpAny _ _ (truthy (Value.ref _)) _ _ _); (with_unfolding_all refine' truthy_ints_fit ?k1 ?k2 ?k3 ?_; (case k1 => exact News.isList (by assumption) (by k_mem)); (case k2 => with_reducible assumption); (case k3 => omega); k_whole)))

section
variable {w : World} {p : Program} {loose : List Str} {mean : ExcName → Option Value} {mg mb : Str → Option Value}
   {dp un : Nat} {gd : Option (List Code)} {cn : Str} {cs : Scope} {a : Addr} {ccd : Value} {cl : List (Str × Addr)} {outer : List Env} {A₀ : Around} {base h₀ : Heap} {L : Addr} {m : Str → Option Value} {s : Shared} {Q E : Value → Shared → Prop} {news : List (Addr × Obj)}

set_option maxRecDepth 100000 in
set_option maxHeartbeats 8000000 in
theorem c_i2d_miss {x n : Int} {tx tn : Tok} 
   (B : Below A₀ base outer h₀) (F : Fr h₀ L s.heap m) (X : (hd.heap_39 w.params).In h₀) (N : News h₀ L s.heap ((74, tabObj #[]) :: news)) (T : Top p loose mean mg mb h₀) (hk : cs.kind = .function)
   (C1 : CodeHd base 78 74) (hoff : ∀ p ∈ news, p.1 ≠ 74) 
   (hd1 : dp + 30 < recursionLimit) (hu1 : un + 300 < cLine)
   (hx0 : 0 ≤ x) (hx1 : x < 1048576) (hn : 2 ≤ n) (hn1 : n ≤ 4)
   (hret : ∀ D vs ns qs' news' h' tk', Fr h₀ L h' m → News h₀ L h' ((D, W.listOf vs.toArray 0) :: (74, tabObj qs') :: news') → IntsAre vs ns → V n.toNat ns 0 ns.length = x → (∀ d ∈ ns, 0 ≤ d ∧ d < 2 ^ n.toNat) → ns.length ≤ 20 →
     TabF 55 4 (Str.ofString "_int2digits.<locals>.inner") qs' news' → Grew ((74, tabObj #[]) :: news) news news' → (∀ q ∈ (74, tabObj #[]) :: news, @LT.lt Nat _ q.1 D) → Q (.ref D) { s with heap := h', toks := tk' }) :
   wpAny (model PySem.Challenge.rw_ik0137_01.row.prog w) (ktrTop dp un gd cn cs L a ccd cl outer) (call (.ref 79) [.int x tx, .int n tn]) Q E s := by
  revert X; k_fill; intro X
  have hbl : (Builtin.Int.intBits x : Int) ≤ 20 := by
    have := bits_le (x := x) (k := 20) (by omega)
    omega
  have hlb := lt_bits x
  have hm0 : 0 ≤ ((Builtin.Int.intBits x : Int) + n - 1).fdiv n := by
    rw [Int.fdiv_eq_ediv_of_nonneg _ (by omega)]
    exact Int.ediv_nonneg (by omega) (by omega)
  have hm1 : ((Builtin.Int.intBits x : Int) + n - 1).fdiv n ≤ 20 := by
    rw [Int.fdiv_eq_ediv_of_nonneg _ (by omega)]
    have : ((Builtin.Int.intBits x : Int) + n - 1) / n < 21 := Int.ediv_lt_of_lt_mul (by omega) (by omega)
    omega
  have hm2 : (Builtin.Int.intBits x : Int) ≤ n * ((Builtin.Int.intBits x : Int) + n - 1).fdiv n := by
    rw [Int.fdiv_eq_ediv_of_nonneg _ (by omega)]
    have h1 := Int.mul_ediv_add_emod ((Builtin.Int.intBits x : Int) + n - 1) n
    have h2 := Int.emod_lt_of_pos ((Builtin.Int.intBits x : Int) + n - 1) (b := n) (by omega)
    omega
  refine wpAny_call ?_
  k_dflt ktr_enter
  k_steps
  · rename Fr _ _ _ _ => F1
    rename News _ _ _ _ => N1
    replace N1 := news_move2 N1
    refine with_rest (P := fun D f R => ∀ k, InnerSpec w p loose mean mg mb base n D f R k) N1 ?_ (fun inner => ?_)
    · intro k
      induction k using Nat.strongRecOn with
      | _ k ih =>
      clear hd1 hu1 hx0 hx1 F1 N1
      intro dp2 un2 gd2 cn2 cs2 a2 ccd2 cl2 outer2 A2 h2 L2 m2 s2 Q2 E2 x l r tx2 tl tr vs2 ns2 B2 F2 X2 N2 T2 hk2 hd2 hu2 hi2 hl0 hr hrl hlen hx0 hx1 hx2 hk1 hret
      have hmid : (l + r).fdiv (2 ^ Int.toNat 1) = l + ((k / 2 : Nat) : Int) := by
        rw [hr]
        show (l + (l + (k : Int))).fdiv 2 = _
        rw [Int.fdiv_eq_ediv_of_nonneg _ (by omega)]
        omega
      have hnn : ((n.toNat : Nat) : Int) = n := by omega
      have hsh : (((l + r).fdiv (2 ^ Int.toNat 1)) - l) * n = ((n.toNat * (k / 2) : Nat) : Int) := by
        rw [hmid, Int.natCast_mul, hnn, Int.mul_comm]
        congr 1
        omega
      have hshb : ((n.toNat * (k / 2) : Nat) : Int) ≤ 60 := by
        have : n.toNat * (k / 2) ≤ 4 * 15 := Nat.mul_le_mul (by omega) (by omega)
        omega
      have hup0 : 0 ≤ x.fdiv (2 ^ ((((l + r).fdiv (2 ^ Int.toNat 1)) - l) * n).toNat) := by
        rw [Int.fdiv_eq_ediv_of_nonneg _ (Int.pow_nonneg (by decide))]
        exact Int.ediv_nonneg hx0 (Int.pow_nonneg (by decide))
      have hup1 : x.fdiv (2 ^ ((((l + r).fdiv (2 ^ Int.toNat 1)) - l) * n).toNat) ≤ x := by
        rw [Int.fdiv_eq_ediv_of_nonneg _ (Int.pow_nonneg (by decide))]
        exact Int.ediv_le_self _ hx0
      refine wpAny_call ?_
      k_dflt kn_enter
      k_steps
      · rename l + 1 = r => hlr
        have hk1' : k = 1 := by omega
        subst hk1'
        refine' hret _ _ _ _ ?F ?N ?hi ?fl
        case F => k_asm
        case N => k_asm
        case hi => k_asm
        case fl => exact Filled.one (by omega) hx0 (by simpa using hx1)
      · rename ¬(l + 1 = r) => hlr
        have hk2 : 2 ≤ k := by omega
        have hpos : (0 : Int) < 2 ^ (n.toNat * (k / 2)) := Int.pow_pos (by decide)
        rw [xor_low hx0, hsh, hmid, Int.toNat_natCast]
        refine' ih (k / 2) ?lt _ _ _ _ _ _ _ _ _ _ _ _ _ _ _ _ _ _ _ _ _ _ _ _ ?B ?F ?X ?N ?T ?hk ?hd ?hu ?hi ?h0 ?hr ?hrl ?hlen ?hx0 ?hx1 ?hx2 ?hk1 ?hret
        case B => k_asm
        case F => k_asm
        case X => k_asm
        case N => k_asm
        case T => k_asm
        case hk => rfl
        case hi => k_asm
        case lt => omega
        case hd => show dp2 + 1 + k / 2 + 1 < recursionLimit; omega
        case hu => show un2 + 3 + 8 * (k / 2 + 1) < cLine; omega
        case h0 => exact hl0
        case hr => rfl
        case hrl => omega
        case hlen => exact hlen
        case hx0 => exact Int.emod_nonneg _ (by omega)
        case hx1 => exact Int.emod_lt_of_pos _ hpos
        case hx2 =>
          have := emod_le hx0 hpos
          omega
        case hk1 => omega
        case hret =>
          intro vs3 ns3 h3 tk3 F3 N3 hi3 fl3
          k_steps
          rw [Int.fdiv_eq_ediv_of_nonneg _ (Int.pow_nonneg (by decide)), hsh, hmid, Int.toNat_natCast]
          refine' ih (k - k / 2) ?lt _ _ _ _ _ _ _ _ _ _ _ _ _ _ _ _ _ _ _ _ _ _ _ _ ?B ?F ?X ?N ?T ?hk ?hd ?hu ?hi ?h0 ?hr ?hrl ?hlen ?hx0 ?hx1 ?hx2 ?hk1 ?hret
          case B => k_asm
          case F => k_asm
          case X => k_asm
          case N => k_asm
          case T => k_asm
          case hk => rfl
          case hi => k_asm
          case lt => omega
          case hd => show dp2 + 1 + (k - k / 2) + 1 < recursionLimit; omega
          case hu => show un2 + 3 + 8 * ((k - k / 2) + 1) < cLine; omega
          case h0 => omega
          case hr => omega
          case hrl => rw [fl3.len]; omega
          case hlen => rw [fl3.len]; omega
          case hx0 => exact Int.ediv_nonneg hx0 (by omega)
          case hx1 =>
            refine Int.ediv_lt_of_lt_mul hpos ?_
            rw [← Int.pow_add, ← Nat.mul_add, show k - k / 2 + k / 2 = k from by omega]
            exact hx1
          case hx2 =>
            have := Int.ediv_le_self (2 ^ (n.toNat * (k / 2))) hx0
            omega
          case hk1 => omega
          case hret =>
            intro vs4 ns4 h4 tk4 F4 N4 hi4 fl4
            k_steps
            refine' hret _ _ _ _ ?F ?N ?hi ?fl
            case F => k_asm
            case N => k_asm
            case hi => k_asm
            case fl =>
              rw [show (l + ((k / 2 : Nat) : Int)).toNat = l.toNat + k / 2 from by omega] at fl4
              have h5 := fl3.two fl4
              rw [show k / 2 + (k - k / 2) = k from by omega, Int.add_comm, Int.mul_ediv_add_emod] at h5
              exact h5
    · rename x ≠ 0 => hxz
      have hbp : 1 ≤ Builtin.Int.intBits x := by
        unfold Builtin.Int.intBits
        rw [if_neg (by simpa using hxz)]
        omega
      have hkp : 1 ≤ ((Builtin.Int.intBits x : Int) + n - 1).fdiv n := by
        by_cases h : 1 ≤ ((Builtin.Int.intBits x : Int) + n - 1).fdiv n
        · exact h
        · have : ((Builtin.Int.intBits x : Int) + n - 1).fdiv n = 0 := by omega
          rw [this] at hm2
          omega
      rename IntsAre _ _ => hI
      refine' inner (((Builtin.Int.intBits x : Int) + n - 1).fdiv n).toNat _ _ _ _ _ _ _ _ _ _ _ _ _ _ _ _ _ _ _ _ _ _ _ _ ?B ?F ?X ?N ?T ?hk ?hd ?hu ?hi ?h0 ?hr ?hrl ?hlen ?hx0 ?hx1 ?hx2 ?hk1 ?hret
      case B => k_asm
      case F => k_asm
      case X => k_asm
      case N => k_asm
      case T => k_asm
      case hk => rfl
      case hi => exact hI
      case hd => show dp + 1 + _ + 1 < recursionLimit; omega
      case hu => show un + 3 + 8 * (_ + 1) < cLine; omega
      case h0 => decide
      case hr => omega
      case hrl => simp only [List.length_replicate]; omega
      case hlen => simp only [List.length_replicate]; omega
      case hx0 => exact hx0
      case hx1 =>
        have h1 : Builtin.Int.intBits x ≤ n.toNat * (((Builtin.Int.intBits x : Int) + n - 1).fdiv n).toNat := by
          apply Int.ofNat_le.mp
          rw [Int.natCast_mul, Int.toNat_of_nonneg (by omega), Int.toNat_of_nonneg (by omega)]
          exact hm2
        have h2 := Nat.lt_of_lt_of_le hlb (Nat.pow_le_pow_right (n := 2) (by decide) h1)
        have h3 : ((x.natAbs : Nat) : Int) = x := by omega
        rw [← h3]
        have h4 := Int.ofNat_lt.mpr h2
        simp only [Int.natCast_pow] at h4
        rw [h3] at h4 ⊢
        exact h4
      case hx2 => exact hx1
      case hk1 => omega
      case hret =>
        intro vs3 ns3 h3 tk3 F3 N3 hi3 fl3
        k_steps
        rename _ ∧ _ ∧ _ ∧ _ ∧ 74 < _ ∧ AllLt _ news => lD
        have fd := fl3.digits (by simp)
        have fl := fl3.len
        simp only [List.length_replicate] at fl
        rename _ ∧ _ ∧ _ ∧ _ ∧ _ ∧ 74 < _ ∧ AllLt _ news => lC
        rename _ = Data.fields _ => dF
        refine with_code (ln := 55) (col := 4) (o := tabObj #[]) lC.2.2.2.2.2 dF (by assumption) (fun news' en ht hg => ?_)
        refine' hret _ _ _ _ news' _ _ ?xF ?xN hi3 fd.1 fd.2 ?xhl ht hg ?xhd
        case xF => k_asm
        case xN => rw [en]; exact cb_drop (by k_asm) (List.forall_mem_cons.mpr ⟨by k_mem, List.forall_mem_cons.mpr ⟨by k_mem, List.forall_mem_cons.mpr ⟨by k_mem, by kqd_sub⟩⟩⟩)
        case xhl => omega
        case xhd => exact lt_two lD.2.2.2.2.1 lD.2.2.2.2.2
  · rename x = 0 => hxz
    subst hxz
    rename IntsAre _ _ => hI
    rename _ ∧ _ ∧ _ ∧ _ ∧ 74 < _ ∧ AllLt _ news => lD
    have hk0 : ((Builtin.Int.intBits 0 : Int) + n - 1).fdiv n = 0 := by
      rw [Int.fdiv_eq_ediv_of_nonneg _ (by omega)]
      show ((0 : Int) + n - 1) / n = 0
      exact Int.ediv_eq_zero_of_lt (by omega) (by omega)
    rw [hk0] at hI
    rename _ ∧ _ ∧ _ ∧ _ ∧ _ ∧ 74 < _ ∧ AllLt _ news => lC
    rename _ = Data.fields _ => dF
    refine with_code (ln := 55) (col := 4) (o := tabObj #[]) lC.2.2.2.2.2 dF (by assumption) (fun news' en ht hg => ?_)
    refine' hret _ _ _ _ news' _ _ ?xF ?xN hI rfl (fun _ h => nomatch h) ?xhl ht hg ?xhd
    case xF => k_asm
    case xN => rw [en]; exact cb_drop (by k_asm) (List.forall_mem_cons.mpr ⟨by k_mem, List.forall_mem_cons.mpr ⟨by k_mem, List.forall_mem_cons.mpr ⟨by k_mem, by kqd_sub⟩⟩⟩)
    case xhl => exact Nat.zero_le _
    case xhd => exact lt_two lD.2.2.2.2.1 lD.2.2.2.2.2

set_option maxRecDepth 100000 in
set_option maxHeartbeats 8000000 in
theorem c_i2d_hit {x n : Int} {tx tn : Tok} {c0 : Addr} {o0 : Obj} {v0 : Array Value} {t0 : Tok}
   (B : Below A₀ base outer h₀) (F : Fr h₀ L s.heap m) (X : (hd.heap_39 w.params).In h₀) (N : News h₀ L s.heap ((74, tabObj #[rawInt 55, rawInt 4, .ref c0]) :: news)) (T : Top p loose mean mg mb h₀) (hk : cs.kind = .function)
   (C1 : CodeHd base 78 74) (hoff : ∀ p ∈ news, p.1 ≠ 74) (hc0 : (c0, o0) ∈ news) (hd0 : o0.data = .fields v0) (hv0 : v0[1]? = some (.str (Str.ofString "_int2digits.<locals>.inner") t0))
   (hd1 : dp + 30 < recursionLimit) (hu1 : un + 300 < cLine)
   (hx0 : 0 ≤ x) (hx1 : x < 1048576) (hn : 2 ≤ n) (hn1 : n ≤ 4)
   (hret : ∀ D vs ns qs' news' h' tk', Fr h₀ L h' m → News h₀ L h' ((D, W.listOf vs.toArray 0) :: (74, tabObj qs') :: news') → IntsAre vs ns → V n.toNat ns 0 ns.length = x → (∀ d ∈ ns, 0 ≤ d ∧ d < 2 ^ n.toNat) → ns.length ≤ 20 →
     TabF 55 4 (Str.ofString "_int2digits.<locals>.inner") qs' news' → Grew ((74, tabObj #[rawInt 55, rawInt 4, .ref c0]) :: news) news news' → (∀ q ∈ (74, tabObj #[rawInt 55, rawInt 4, .ref c0]) :: news, @LT.lt Nat _ q.1 D) → Q (.ref D) { s with heap := h', toks := tk' }) :
   wpAny (model PySem.Challenge.rw_ik0137_01.row.prog w) (ktrTop dp un gd cn cs L a ccd cl outer) (call (.ref 79) [.int x tx, .int n tn]) Q E s := by
  revert X; k_fill; intro X
  have hbl : (Builtin.Int.intBits x : Int) ≤ 20 := by
    have := bits_le (x := x) (k := 20) (by omega)
    omega
  have hlb := lt_bits x
  have hm0 : 0 ≤ ((Builtin.Int.intBits x : Int) + n - 1).fdiv n := by
    rw [Int.fdiv_eq_ediv_of_nonneg _ (by omega)]
    exact Int.ediv_nonneg (by omega) (by omega)
  have hm1 : ((Builtin.Int.intBits x : Int) + n - 1).fdiv n ≤ 20 := by
    rw [Int.fdiv_eq_ediv_of_nonneg _ (by omega)]
    have : ((Builtin.Int.intBits x : Int) + n - 1) / n < 21 := Int.ediv_lt_of_lt_mul (by omega) (by omega)
    omega
  have hm2 : (Builtin.Int.intBits x : Int) ≤ n * ((Builtin.Int.intBits x : Int) + n - 1).fdiv n := by
    rw [Int.fdiv_eq_ediv_of_nonneg _ (by omega)]
    have h1 := Int.mul_ediv_add_emod ((Builtin.Int.intBits x : Int) + n - 1) n
    have h2 := Int.emod_lt_of_pos ((Builtin.Int.intBits x : Int) + n - 1) (b := n) (by omega)
    omega
  refine wpAny_call ?_
  k_dflt ktr_enter
  k_steps
  · rename Fr _ _ _ _ => F1
    rename News _ _ _ _ => N1
    replace N1 := news_move1 N1
    refine with_rest (P := fun D f R => ∀ k, InnerSpec w p loose mean mg mb base n D f R k) N1 ?_ (fun inner => ?_)
    · intro k
      induction k using Nat.strongRecOn with
      | _ k ih =>
      clear hd1 hu1 hx0 hx1 F1 N1
      intro dp2 un2 gd2 cn2 cs2 a2 ccd2 cl2 outer2 A2 h2 L2 m2 s2 Q2 E2 x l r tx2 tl tr vs2 ns2 B2 F2 X2 N2 T2 hk2 hd2 hu2 hi2 hl0 hr hrl hlen hx0 hx1 hx2 hk1 hret
      have hmid : (l + r).fdiv (2 ^ Int.toNat 1) = l + ((k / 2 : Nat) : Int) := by
        rw [hr]
        show (l + (l + (k : Int))).fdiv 2 = _
        rw [Int.fdiv_eq_ediv_of_nonneg _ (by omega)]
        omega
      have hnn : ((n.toNat : Nat) : Int) = n := by omega
      have hsh : (((l + r).fdiv (2 ^ Int.toNat 1)) - l) * n = ((n.toNat * (k / 2) : Nat) : Int) := by
        rw [hmid, Int.natCast_mul, hnn, Int.mul_comm]
        congr 1
        omega
      have hshb : ((n.toNat * (k / 2) : Nat) : Int) ≤ 60 := by
        have : n.toNat * (k / 2) ≤ 4 * 15 := Nat.mul_le_mul (by omega) (by omega)
        omega
      have hup0 : 0 ≤ x.fdiv (2 ^ ((((l + r).fdiv (2 ^ Int.toNat 1)) - l) * n).toNat) := by
        rw [Int.fdiv_eq_ediv_of_nonneg _ (Int.pow_nonneg (by decide))]
        exact Int.ediv_nonneg hx0 (Int.pow_nonneg (by decide))
      have hup1 : x.fdiv (2 ^ ((((l + r).fdiv (2 ^ Int.toNat 1)) - l) * n).toNat) ≤ x := by
        rw [Int.fdiv_eq_ediv_of_nonneg _ (Int.pow_nonneg (by decide))]
        exact Int.ediv_le_self _ hx0
      refine wpAny_call ?_
      k_dflt kn_enter
      k_steps
      · rename l + 1 = r => hlr
        have hk1' : k = 1 := by omega
        subst hk1'
        refine' hret _ _ _ _ ?F ?N ?hi ?fl
        case F => k_asm
        case N => k_asm
        case hi => k_asm
        case fl => exact Filled.one (by omega) hx0 (by simpa using hx1)
      · rename ¬(l + 1 = r) => hlr
        have hk2 : 2 ≤ k := by omega
        have hpos : (0 : Int) < 2 ^ (n.toNat * (k / 2)) := Int.pow_pos (by decide)
        rw [xor_low hx0, hsh, hmid, Int.toNat_natCast]
        refine' ih (k / 2) ?lt _ _ _ _ _ _ _ _ _ _ _ _ _ _ _ _ _ _ _ _ _ _ _ _ ?B ?F ?X ?N ?T ?hk ?hd ?hu ?hi ?h0 ?hr ?hrl ?hlen ?hx0 ?hx1 ?hx2 ?hk1 ?hret
        case B => k_asm
        case F => k_asm
        case X => k_asm
        case N => k_asm
        case T => k_asm
        case hk => rfl
        case hi => k_asm
        case lt => omega
        case hd => show dp2 + 1 + k / 2 + 1 < recursionLimit; omega
        case hu => show un2 + 3 + 8 * (k / 2 + 1) < cLine; omega
        case h0 => exact hl0
        case hr => rfl
        case hrl => omega
        case hlen => exact hlen
        case hx0 => exact Int.emod_nonneg _ (by omega)
        case hx1 => exact Int.emod_lt_of_pos _ hpos
        case hx2 =>
          have := emod_le hx0 hpos
          omega
        case hk1 => omega
        case hret =>
          intro vs3 ns3 h3 tk3 F3 N3 hi3 fl3
          k_steps
          rw [Int.fdiv_eq_ediv_of_nonneg _ (Int.pow_nonneg (by decide)), hsh, hmid, Int.toNat_natCast]
          refine' ih (k - k / 2) ?lt _ _ _ _ _ _ _ _ _ _ _ _ _ _ _ _ _ _ _ _ _ _ _ _ ?B ?F ?X ?N ?T ?hk ?hd ?hu ?hi ?h0 ?hr ?hrl ?hlen ?hx0 ?hx1 ?hx2 ?hk1 ?hret
          case B => k_asm
          case F => k_asm
          case X => k_asm
          case N => k_asm
          case T => k_asm
          case hk => rfl
          case hi => k_asm
          case lt => omega
          case hd => show dp2 + 1 + (k - k / 2) + 1 < recursionLimit; omega
          case hu => show un2 + 3 + 8 * ((k - k / 2) + 1) < cLine; omega
          case h0 => omega
          case hr => omega
          case hrl => rw [fl3.len]; omega
          case hlen => rw [fl3.len]; omega
          case hx0 => exact Int.ediv_nonneg hx0 (by omega)
          case hx1 =>
            refine Int.ediv_lt_of_lt_mul hpos ?_
            rw [← Int.pow_add, ← Nat.mul_add, show k - k / 2 + k / 2 = k from by omega]
            exact hx1
          case hx2 =>
            have := Int.ediv_le_self (2 ^ (n.toNat * (k / 2))) hx0
            omega
          case hk1 => omega
          case hret =>
            intro vs4 ns4 h4 tk4 F4 N4 hi4 fl4
            k_steps
            refine' hret _ _ _ _ ?F ?N ?hi ?fl
            case F => k_asm
            case N => k_asm
            case hi => k_asm
            case fl =>
              rw [show (l + ((k / 2 : Nat) : Int)).toNat = l.toNat + k / 2 from by omega] at fl4
              have h5 := fl3.two fl4
              rw [show k / 2 + (k - k / 2) = k from by omega, Int.add_comm, Int.mul_ediv_add_emod] at h5
              exact h5
    · rename x ≠ 0 => hxz
      have hbp : 1 ≤ Builtin.Int.intBits x := by
        unfold Builtin.Int.intBits
        rw [if_neg (by simpa using hxz)]
        omega
      have hkp : 1 ≤ ((Builtin.Int.intBits x : Int) + n - 1).fdiv n := by
        by_cases h : 1 ≤ ((Builtin.Int.intBits x : Int) + n - 1).fdiv n
        · exact h
        · have : ((Builtin.Int.intBits x : Int) + n - 1).fdiv n = 0 := by omega
          rw [this] at hm2
          omega
      rename IntsAre _ _ => hI
      refine' inner (((Builtin.Int.intBits x : Int) + n - 1).fdiv n).toNat _ _ _ _ _ _ _ _ _ _ _ _ _ _ _ _ _ _ _ _ _ _ _ _ ?B ?F ?X ?N ?T ?hk ?hd ?hu ?hi ?h0 ?hr ?hrl ?hlen ?hx0 ?hx1 ?hx2 ?hk1 ?hret
      case B => k_asm
      case F => k_asm
      case X => k_asm
      case N => k_asm
      case T => k_asm
      case hk => rfl
      case hi => exact hI
      case hd => show dp + 1 + _ + 1 < recursionLimit; omega
      case hu => show un + 3 + 8 * (_ + 1) < cLine; omega
      case h0 => decide
      case hr => omega
      case hrl => simp only [List.length_replicate]; omega
      case hlen => simp only [List.length_replicate]; omega
      case hx0 => exact hx0
      case hx1 =>
        have h1 : Builtin.Int.intBits x ≤ n.toNat * (((Builtin.Int.intBits x : Int) + n - 1).fdiv n).toNat := by
          apply Int.ofNat_le.mp
          rw [Int.natCast_mul, Int.toNat_of_nonneg (by omega), Int.toNat_of_nonneg (by omega)]
          exact hm2
        have h2 := Nat.lt_of_lt_of_le hlb (Nat.pow_le_pow_right (n := 2) (by decide) h1)
        have h3 : ((x.natAbs : Nat) : Int) = x := by omega
        rw [← h3]
        have h4 := Int.ofNat_lt.mpr h2
        simp only [Int.natCast_pow] at h4
        rw [h3] at h4 ⊢
        exact h4
      case hx2 => exact hx1
      case hk1 => omega
      case hret =>
        intro vs3 ns3 h3 tk3 F3 N3 hi3 fl3
        k_steps
        rename _ ∧ _ ∧ _ ∧ _ ∧ 74 < _ ∧ AllLt _ news => lD
        have fd := fl3.digits (by simp)
        have fl := fl3.len
        simp only [List.length_replicate] at fl
        refine' hret _ _ _ #[rawInt 55, rawInt 4, .ref c0] news _ _ ?xF ?xN hi3 fd.1 fd.2 ?xhl ?xht Grew.same ?xhd
        case xht => exact ⟨c0, o0, v0, t0, rfl, hc0, hd0, hv0⟩
        case xF => k_asm
        case xN => exact cb_drop (by k_asm) (List.forall_mem_cons.mpr ⟨by k_mem, List.forall_mem_cons.mpr ⟨by k_mem, by kqd_sub⟩⟩)
        case xhl => omega
        case xhd => exact lt_two lD.2.2.2.2.1 lD.2.2.2.2.2
  · rename x = 0 => hxz
    subst hxz
    rename IntsAre _ _ => hI
    rename _ ∧ _ ∧ _ ∧ _ ∧ 74 < _ ∧ AllLt _ news => lD
    have hk0 : ((Builtin.Int.intBits 0 : Int) + n - 1).fdiv n = 0 := by
      rw [Int.fdiv_eq_ediv_of_nonneg _ (by omega)]
      show ((0 : Int) + n - 1) / n = 0
      exact Int.ediv_eq_zero_of_lt (by omega) (by omega)
    rw [hk0] at hI
    refine' hret _ _ _ #[rawInt 55, rawInt 4, .ref c0] news _ _ ?xF ?xN hI rfl (fun _ h => nomatch h) ?xhl ?xht Grew.same ?xhd
    case xht => exact ⟨c0, o0, v0, t0, rfl, hc0, hd0, hv0⟩
    case xF => k_asm
    case xN => exact cb_drop (by k_asm) (List.forall_mem_cons.mpr ⟨by k_mem, List.forall_mem_cons.mpr ⟨by k_mem, by kqd_sub⟩⟩)
    case xhl => exact Nat.zero_le _
    case xhd => exact lt_two lD.2.2.2.2.1 lD.2.2.2.2.2

end
end
section
open PySem PySem.W PyProof.Rows PySem.Calls

theorem V_nonneg {b : Nat} {ns : List Int} (h : ∀ d ∈ ns, 0 ≤ d ∧ d < 2 ^ b) : ∀ {k l : Nat}, 0 ≤ V b ns l k ∧ V b ns l k < 2 ^ (b * k)
  | 0, _ => by simp [V]
  | k + 1, l => by
    have ih := V_nonneg h (k := k) (l := l + 1)
    rw [V_succ]
    have h1 : 0 ≤ ns.getD l 0 ∧ ns.getD l 0 < 2 ^ b := by
      by_cases hl : l < ns.length
      · rw [List.getD_eq_getElem?_getD, List.getElem?_eq_getElem hl]
        exact h _ (List.getElem_mem hl)
      · rw [List.getD_eq_getElem?_getD, List.getElem?_eq_none (by omega)]
        exact ⟨Int.le_refl _, Int.pow_pos (by decide)⟩
    have hb : (0 : Int) < 2 ^ b := Int.pow_pos (by decide)
    have e : (2 : Int) ^ (b * (k + 1)) = 2 ^ b * 2 ^ (b * k) := by rw [Nat.mul_add, Nat.mul_one, Nat.add_comm, Int.pow_add]
    have h2 : 0 ≤ 2 ^ b * V b ns (l + 1) k := Int.mul_nonneg (Int.le_of_lt hb) ih.1
    have h3 : 2 ^ b * V b ns (l + 1) k ≤ 2 ^ b * (2 ^ (b * k) - 1) := Int.mul_le_mul_of_nonneg_left (by omega) (Int.le_of_lt hb)
    rw [Int.mul_sub, Int.mul_one] at h3
    rw [e]
    omega

def InnerSpecI (w : World) (p : Program) (loose : List Str) (mean : ExcName → Option Value) (mg mb : Str → Option Value) (base : Heap) (n : Int) (ns : List Int) (f : Addr) (R : XA) (k : Nat) : Prop :=
  ∀ (dp un : Nat) (gd : Option (List Code)) (cn : Str) (cs : Scope) (a : Addr) (ccd : Value) (cl : List (Str × Addr)) (outer : List Env) (A₀ : Around) (h₀ : Heap) (L : Addr) (m : Str → Option Value) (s : Shared) (Q E : Value → Shared → Prop)
    (l r : Int) (tl tr : Tok),
    Below A₀ base outer h₀ → Fr h₀ L s.heap m → (hd.heap_39 w.params).In h₀ → News h₀ L s.heap R → Top p loose mean mg mb h₀ → cs.kind = .function →
    dp + k + 1 < recursionLimit → un + 8 * (k + 1) < cLine → 0 ≤ l → r = l + k → r ≤ ns.length → 1 ≤ k →
    (∀ t h' tk', Fr h₀ L h' m → News h₀ L h' R → Q (.int (V n.toNat ns l.toNat k) t) { s with heap := h', toks := tk' }) →
    wpAny (model PySem.Challenge.rw_ik0137_01.row.prog w) (ktrTop dp un gd cn cs L a ccd cl outer) (call (.ref f) [.int l tl, .int r tr]) Q E s

theorem with_restI {P : Addr → XA → Prop} {G : Prop} {h₀ h : Heap} {L f : Addr} {fo : Obj} {R : XA} (_N : News h₀ L h ((f, fo) :: R)) (h1 : P f ((f, fo) :: R)) (h2 : P f ((f, fo) :: R) → G) : G := h2 h1

local macro_rules | `(tactic| walk_at "call ref") => `(tactic| (k_here; refine hold_on ?_))
local macro_rules | `(tactic| k_all) => `(tactic| first | with_reducible assumption | exact ne_tail (by with_reducible assumption) (by omega) | exact ne_tail1 (by with_reducible assumption) (by omega))
local macro_rules | `(tactic| ktr_enter) => `(tactic| (refine' code_defC ?k1 ?k2 ?k3 ?k4 ?k5 ?kA ?kF ?kK ?k6 ?k7 ?k8 ?k9 ?kB ?kD ?_ ?c2 ?c3 ?c4; (case kA => exact rfl); (case kF => exact rfl); (case kK => assumption); (case k1 => k_asm); (case k2 => k_asm); (case k3 => k_asm); (case k4 => k_asm); (case k5 => k_asm); (case k6 => k_is); (case k7 => k_is); (case k8 => ktr_room); (case k9 => exact BindsTo.of_eq rfl); (case kB => exact rfl); (case kD => decide +kernel); (case c2 => exact rfl); (case c3 => exact rfl); (case c4 => exact rfl); k_whole; intro g' L' h' tk' cells' FG' F' N' Y' B' X' T' l1; (try k_lt l1); k_cells Y'; (try simp only [List.cons_append, List.nil_append] at N'); (try dsimp only); (try k_lift B'); (try k_fold)))
local macro_rules | `(tactic| walk_at "binaryOp Mult ref int") => `(tactic| (k_here; (with_reducible show wpAny _ _ (binaryOp Operator.Mult (Value.ref _) (Value.int _ _)) _ _ _); k_dflt (refine' mul_rep ?k1 ?k2 ?k3 ?k4 ?k5 ?_; (case k1 => k_asm); (case k2 => k_asm); (case k3 => k_mem); (case k4 => omega); (case k5 => omega); k_whole); intro D' vs' h' F' N' hi' l1; (try k_lt l1); (try k_sweep)))
local macro_rules | `(tactic| walk_at "call builtin:len") => `(tactic| (k_here; (with_reducible show wpAny _ _ (call (Value.builtin "len") [Value.ref _]) _ _ _); k_dflt (refine' len_ints_fit ?k1 ?k2 ?k3 ?_; (case k1 => exact News.isList (by assumption) (by k_mem)); (case k2 => with_reducible assumption); (case k3 => (simp only [List.length_replicate] at *; omega)); k_whole); (try simp only [List.length_replicate])))
local macro_rules | `(tactic| kn_enter) => `(tactic| (refine' code_nest ?k1 ?k2 ?k3 ?k4 ?k5 ?kA ?kF ?kK ?k6 ?k7 ?k8 ?k9 ?kB ?_ ?c2 ?c3 ?c4 ?c5; (case kA => exact rfl); (case kF => exact rfl); (case kK => assumption); (case k1 => k_asm); (case k2 => k_asm); (case k3 => k_asm); (case k4 => k_asm); (case k5 => k_asm); (case k6 => k_mem); (case k7 => exact codeRec_news (by k_asm) (by k_mem) (by assumption) (by assumption)); (case k8 => ktr_room); (case k9 => exact BindsTo.of_eq rfl); (case c5 => decide); (case kB => exact locs rfl); (case c2 => exact rfl); (case c3 => exact rfl); (case c4 => exact rfl); k_whole; intro g' L' h' FG' F' N' B' X' T'; (try dsimp only); (try k_lift B'); (try k_fold)))
local macro_rules | `(tactic| kqd_sub) => `(tactic| (intro p9 h9; repeat (first | exact h9 | refine List.Mem.tail _ ?_)))
local macro_rules | `(tactic| k_mem) => `(tactic| first | exact List.Mem.head _ | (refine' List.Mem.tail _ ?_; k_mem) | with_reducible assumption | assumption)
local macro_rules | `(tactic| walk_at "truthy ref") => `(tactic| (k_here; (with_reducible show wpAny _ _ (truthy (Value.ref _)) _ _ _); (with_unfolding_all refine' truthy_ints_fit ?k1 ?k2 ?k3 ?_; (case k1 => exact News.isList (by assumption) (by k_mem)); (case k2 => with_reducible assumption); (case k3 => omega); k_whole)))

section
variable {w : World} {p : Program} {loose : List Str} {mean : ExcName → Option Value} {mg mb : Str → Option Value}
   {dp un : Nat} {gd : Option (List Code)} {cn : Str} {cs : Scope} {a : Addr} {ccd : Value} {cl : List (Str × Addr)} {outer : List Env} {A₀ : Around} {base h₀ : Heap} {L : Addr} {m : Str → Option Value} {s : Shared} {Q E : Value → Shared → Prop} {news : List (Addr × Obj)}

set_option maxRecDepth 100000 in
set_option maxHeartbeats 8000000 in
theorem c_d2i_miss {n : Int} {tn : Tok} {dg : Addr} {vs : List Value} {ns : List Int} {c1 : Nat} 
   (B : Below A₀ base outer h₀) (F : Fr h₀ L s.heap m) (X : (hd.heap_39 w.params).In h₀) (N : News h₀ L s.heap ((81, tabObj #[]) :: news)) (T : Top p loose mean mg mb h₀) (hk : cs.kind = .function)
   (C1 : CodeHd base 85 81) (hoff : ∀ p ∈ news, p.1 ≠ 81) 
   (hd1 : dp + 30 < recursionLimit) (hu1 : un + 300 < cLine)
   (hdg : (dg, W.listOf vs.toArray c1) ∈ news) (hI : IntsAre vs ns) (hdig : ∀ d ∈ ns, 0 ≤ d ∧ d < 2 ^ n.toNat) (hlen : ns.length ≤ 20) (hn : 2 ≤ n) (hn1 : n ≤ 4)
   (hret : ∀ qs' news' t h' tk', Fr h₀ L h' m → News h₀ L h' ((81, tabObj qs') :: news') →
     TabF 70 4 (Str.ofString "_digits2int.<locals>.inner") qs' news' → Grew ((81, tabObj #[]) :: news) news news' → Q (.int (V n.toNat ns 0 ns.length) t) { s with heap := h', toks := tk' }) :
   wpAny (model PySem.Challenge.rw_ik0137_01.row.prog w) (ktrTop dp un gd cn cs L a ccd cl outer) (call (.ref 86) [.ref dg, .int n tn]) Q E s := by
  revert X; k_fill; intro X
  refine wpAny_call ?_
  k_dflt ktr_enter
  k_steps
  · rename Fr _ _ _ _ => F1
    rename News _ _ _ _ => N1
    refine with_restI (P := fun f R => ∀ k, InnerSpecI w p loose mean mg mb base n ns f R k) N1 ?_ (fun inner => ?_)
    · intro k
      induction k using Nat.strongRecOn with
      | _ k ih =>
      clear hd1 hu1 F1 N1
      intro dp2 un2 gd2 cn2 cs2 a2 ccd2 cl2 outer2 A2 h2 L2 m2 s2 Q2 E2 l r tl tr B2 F2 X2 N2 T2 hk2 hd2 hu2 hl0 hr hrl hk1 hret
      have hmid : (l + r).fdiv (2 ^ Int.toNat 1) = l + ((k / 2 : Nat) : Int) := by
        rw [hr]
        show (l + (l + (k : Int))).fdiv 2 = _
        rw [Int.fdiv_eq_ediv_of_nonneg _ (by omega)]
        omega
      have hnn : ((n.toNat : Nat) : Int) = n := by omega
      have hsh : (((l + r).fdiv (2 ^ Int.toNat 1)) - l) * n = ((n.toNat * (k / 2) : Nat) : Int) := by
        rw [hmid, Int.natCast_mul, hnn, Int.mul_comm]
        congr 1
        omega
      have hshb : ((n.toNat * (k / 2) : Nat) : Int) ≤ 60 := by
        have : n.toNat * (k / 2) ≤ 4 * 15 := Nat.mul_le_mul (by omega) (by omega)
        omega
      refine wpAny_call ?_
      k_dflt kn_enter
      k_steps
      · rename l + 1 = r => hlr
        have hk1' : k = 1 := by omega
        subst hk1'
        have e : V n.toNat ns l.toNat 1 = ns.getD l.toNat 0 := by simp [V]
        rw [e] at hret
        refine' hret _ _ _ ?z1 ?z2
        case z1 => k_asm
        case z2 => k_asm
      · rename ¬(l + 1 = r) => hlr
        have hk2 : 2 ≤ k := by omega
        rw [hmid]
        refine' ih (k - k / 2) ?y01 _ _ _ _ _ _ _ _ _ _ _ _ _ _ _ _ _ _ _ _ ?y02 ?y03 ?y04 ?y05 ?y06 ?y07 ?y08 ?y09 ?y10 ?y11 ?y12 ?y13 ?y14
        case y02 => k_asm
        case y03 => k_asm
        case y04 => k_asm
        case y05 => k_asm
        case y06 => k_asm
        case y07 => rfl
        case y01 => omega
        case y08 => show dp2 + 1 + (k - k / 2) + 1 < recursionLimit; omega
        case y09 => show un2 + 3 + 8 * ((k - k / 2) + 1) < cLine; omega
        case y10 => omega
        case y11 => omega
        case y12 => omega
        case y13 => omega
        case y14 =>
          intro t3 h3 tk3 F3 N3
          have hv := V_nonneg hdig (k := k - k / 2) (l := (l + ((k / 2 : Nat) : Int)).toNat)
          have hv2 : V n.toNat ns (l + ((k / 2 : Nat) : Int)).toNat (k - k / 2) < 2 ^ 60 := by
            refine Int.lt_of_lt_of_le hv.2 ?_
            have : n.toNat * (k - k / 2) ≤ 4 * 15 := Nat.mul_le_mul (by omega) (by omega)
            have h5 := Nat.pow_le_pow_right (n := 2) (by decide) this
            have h6 := Int.ofNat_le.mpr h5
            simpa using h6
          k_steps
          rw [hmid]
          refine' ih (k / 2) ?x01 _ _ _ _ _ _ _ _ _ _ _ _ _ _ _ _ _ _ _ _ ?x02 ?x03 ?x04 ?x05 ?x06 ?x07 ?x08 ?x09 ?x10 ?x11 ?x12 ?x13 ?x14
          case x02 => k_asm
          case x03 => k_asm
          case x04 => k_asm
          case x05 => k_asm
          case x06 => k_asm
          case x07 => rfl
          case x01 => omega
          case x08 => show dp2 + 1 + (k / 2) + 1 < recursionLimit; omega
          case x09 => show un2 + 3 + 8 * ((k / 2) + 1) < cLine; omega
          case x10 => omega
          case x11 => omega
          case x12 => omega
          case x13 => omega
          case x14 =>
            intro t4 h4 tk4 F4 N4
            have hw := V_nonneg hdig (k := k / 2) (l := l.toNat)
            k_steps
            have e : V n.toNat ns (l + ((k / 2 : Nat) : Int)).toNat (k - k / 2) * 2 ^ ((l + ((k / 2 : Nat) : Int) - l) * n).toNat + V n.toNat ns l.toNat (k / 2) = V n.toNat ns l.toNat k := by
              rw [hmid] at hsh
              rw [hsh, Int.toNat_natCast]
              have h5 := V_add (b := n.toNat) (ns := ns) (k / 2) (k - k / 2) l.toNat
              rw [show k / 2 + (k - k / 2) = k from by omega] at h5
              rw [h5, show (l + ((k / 2 : Nat) : Int)).toNat = l.toNat + k / 2 from by omega, Int.add_comm, Int.mul_comm]
            rw [e]
            refine' hret _ _ _ ?z3 ?z4
            case z3 => k_asm
            case z4 => k_asm
    · rename 0 < ns.length => hpos
      refine' inner ns.length _ _ _ _ _ _ _ _ _ _ _ _ _ _ _ _ _ _ _ _ ?w02 ?w03 ?w04 ?w05 ?w06 ?w07 ?w08 ?w09 ?w10 ?w11 ?w12 ?w13 ?w14
      case w02 => k_asm
      case w03 => k_asm
      case w04 => k_asm
      case w05 => k_asm
      case w06 => k_asm
      case w07 => rfl
      case w08 => show dp + 1 + _ + 1 < recursionLimit; omega
      case w09 => show un + 3 + 8 * (_ + 1) < cLine; omega
      case w10 => decide
      case w11 => omega
      case w12 => omega
      case w13 => omega
      case w14 =>
        intro t3 h3 tk3 F3 N3
        k_steps
        rename _ ∧ _ ∧ _ ∧ 81 < _ ∧ AllLt _ news => lC
        rename _ = Data.fields _ => dF
        refine with_code (ln := 70) (col := 4) (o := tabObj #[]) lC.2.2.2 dF (by assumption) (fun news' en ht hg => ?_)
        refine' hret _ news' _ _ _ ?v1 ?v2 ht hg
        case v1 => k_asm
        case v2 => rw [en]; exact cb_drop (by k_asm) (List.forall_mem_cons.mpr ⟨by k_mem, List.forall_mem_cons.mpr ⟨by k_mem, by kqd_sub⟩⟩)
  · have h0 : ns.length = 0 := by omega
    have e : V n.toNat ns 0 ns.length = 0 := by rw [h0]; rfl
    rw [e] at hret
    rename _ ∧ _ ∧ _ ∧ 81 < _ ∧ AllLt _ news => lC
    rename _ = Data.fields _ => dF
    refine with_code (ln := 70) (col := 4) (o := tabObj #[]) lC.2.2.2 dF (by assumption) (fun news' en ht hg => ?_)
    refine' hret _ news' _ _ _ ?v1 ?v2 ht hg
    case v1 => k_asm
    case v2 => rw [en]; exact cb_drop (by k_asm) (List.forall_mem_cons.mpr ⟨by k_mem, List.forall_mem_cons.mpr ⟨by k_mem, by kqd_sub⟩⟩)

set_option maxRecDepth 100000 in
set_option maxHeartbeats 8000000 in
theorem c_d2i_hit {n : Int} {tn : Tok} {dg : Addr} {vs : List Value} {ns : List Int} {c1 : Nat} {c0 : Addr} {o0 : Obj} {v0 : Array Value} {t0 : Tok}
   (B : Below A₀ base outer h₀) (F : Fr h₀ L s.heap m) (X : (hd.heap_39 w.params).In h₀) (N : News h₀ L s.heap ((81, tabObj #[rawInt 70, rawInt 4, .ref c0]) :: news)) (T : Top p loose mean mg mb h₀) (hk : cs.kind = .function)
   (C1 : CodeHd base 85 81) (hoff : ∀ p ∈ news, p.1 ≠ 81) (hc0 : (c0, o0) ∈ news) (hd0 : o0.data = .fields v0) (hv0 : v0[1]? = some (.str (Str.ofString "_digits2int.<locals>.inner") t0))
   (hd1 : dp + 30 < recursionLimit) (hu1 : un + 300 < cLine)
   (hdg : (dg, W.listOf vs.toArray c1) ∈ news) (hI : IntsAre vs ns) (hdig : ∀ d ∈ ns, 0 ≤ d ∧ d < 2 ^ n.toNat) (hlen : ns.length ≤ 20) (hn : 2 ≤ n) (hn1 : n ≤ 4)
   (hret : ∀ qs' news' t h' tk', Fr h₀ L h' m → News h₀ L h' ((81, tabObj qs') :: news') →
     TabF 70 4 (Str.ofString "_digits2int.<locals>.inner") qs' news' → Grew ((81, tabObj #[rawInt 70, rawInt 4, .ref c0]) :: news) news news' → Q (.int (V n.toNat ns 0 ns.length) t) { s with heap := h', toks := tk' }) :
   wpAny (model PySem.Challenge.rw_ik0137_01.row.prog w) (ktrTop dp un gd cn cs L a ccd cl outer) (call (.ref 86) [.ref dg, .int n tn]) Q E s := by
  revert X; k_fill; intro X
  refine wpAny_call ?_
  k_dflt ktr_enter
  k_steps
  · rename Fr _ _ _ _ => F1
    rename News _ _ _ _ => N1
    refine with_restI (P := fun f R => ∀ k, InnerSpecI w p loose mean mg mb base n ns f R k) N1 ?_ (fun inner => ?_)
    · intro k
      induction k using Nat.strongRecOn with
      | _ k ih =>
      clear hd1 hu1 F1 N1
      intro dp2 un2 gd2 cn2 cs2 a2 ccd2 cl2 outer2 A2 h2 L2 m2 s2 Q2 E2 l r tl tr B2 F2 X2 N2 T2 hk2 hd2 hu2 hl0 hr hrl hk1 hret
      have hmid : (l + r).fdiv (2 ^ Int.toNat 1) = l + ((k / 2 : Nat) : Int) := by
        rw [hr]
        show (l + (l + (k : Int))).fdiv 2 = _
        rw [Int.fdiv_eq_ediv_of_nonneg _ (by omega)]
        omega
      have hnn : ((n.toNat : Nat) : Int) = n := by omega
      have hsh : (((l + r).fdiv (2 ^ Int.toNat 1)) - l) * n = ((n.toNat * (k / 2) : Nat) : Int) := by
        rw [hmid, Int.natCast_mul, hnn, Int.mul_comm]
        congr 1
        omega
      have hshb : ((n.toNat * (k / 2) : Nat) : Int) ≤ 60 := by
        have : n.toNat * (k / 2) ≤ 4 * 15 := Nat.mul_le_mul (by omega) (by omega)
        omega
      refine wpAny_call ?_
      k_dflt kn_enter
      k_steps
      · rename l + 1 = r => hlr
        have hk1' : k = 1 := by omega
        subst hk1'
        have e : V n.toNat ns l.toNat 1 = ns.getD l.toNat 0 := by simp [V]
        rw [e] at hret
        refine' hret _ _ _ ?z1 ?z2
        case z1 => k_asm
        case z2 => k_asm
      · rename ¬(l + 1 = r) => hlr
        have hk2 : 2 ≤ k := by omega
        rw [hmid]
        refine' ih (k - k / 2) ?y01 _ _ _ _ _ _ _ _ _ _ _ _ _ _ _ _ _ _ _ _ ?y02 ?y03 ?y04 ?y05 ?y06 ?y07 ?y08 ?y09 ?y10 ?y11 ?y12 ?y13 ?y14
        case y02 => k_asm
        case y03 => k_asm
        case y04 => k_asm
        case y05 => k_asm
        case y06 => k_asm
        case y07 => rfl
        case y01 => omega
        case y08 => show dp2 + 1 + (k - k / 2) + 1 < recursionLimit; omega
        case y09 => show un2 + 3 + 8 * ((k - k / 2) + 1) < cLine; omega
        case y10 => omega
        case y11 => omega
        case y12 => omega
        case y13 => omega
        case y14 =>
          intro t3 h3 tk3 F3 N3
          have hv := V_nonneg hdig (k := k - k / 2) (l := (l + ((k / 2 : Nat) : Int)).toNat)
          have hv2 : V n.toNat ns (l + ((k / 2 : Nat) : Int)).toNat (k - k / 2) < 2 ^ 60 := by
            refine Int.lt_of_lt_of_le hv.2 ?_
            have : n.toNat * (k - k / 2) ≤ 4 * 15 := Nat.mul_le_mul (by omega) (by omega)
            have h5 := Nat.pow_le_pow_right (n := 2) (by decide) this
            have h6 := Int.ofNat_le.mpr h5
            simpa using h6
          k_steps
          rw [hmid]
          refine' ih (k / 2) ?x01 _ _ _ _ _ _ _ _ _ _ _ _ _ _ _ _ _ _ _ _ ?x02 ?x03 ?x04 ?x05 ?x06 ?x07 ?x08 ?x09 ?x10 ?x11 ?x12 ?x13 ?x14
          case x02 => k_asm
          case x03 => k_asm
          case x04 => k_asm
          case x05 => k_asm
          case x06 => k_asm
          case x07 => rfl
          case x01 => omega
          case x08 => show dp2 + 1 + (k / 2) + 1 < recursionLimit; omega
          case x09 => show un2 + 3 + 8 * ((k / 2) + 1) < cLine; omega
          case x10 => omega
          case x11 => omega
          case x12 => omega
          case x13 => omega
          case x14 =>
            intro t4 h4 tk4 F4 N4
            have hw := V_nonneg hdig (k := k / 2) (l := l.toNat)
            k_steps
            have e : V n.toNat ns (l + ((k / 2 : Nat) : Int)).toNat (k - k / 2) * 2 ^ ((l + ((k / 2 : Nat) : Int) - l) * n).toNat + V n.toNat ns l.toNat (k / 2) = V n.toNat ns l.toNat k := by
              rw [hmid] at hsh
              rw [hsh, Int.toNat_natCast]
              have h5 := V_add (b := n.toNat) (ns := ns) (k / 2) (k - k / 2) l.toNat
              rw [show k / 2 + (k - k / 2) = k from by omega] at h5
              rw [h5, show (l + ((k / 2 : Nat) : Int)).toNat = l.toNat + k / 2 from by omega, Int.add_comm, Int.mul_comm]
            rw [e]
            refine' hret _ _ _ ?z3 ?z4
            case z3 => k_asm
            case z4 => k_asm
    · rename 0 < ns.length => hpos
      refine' inner ns.length _ _ _ _ _ _ _ _ _ _ _ _ _ _ _ _ _ _ _ _ ?w02 ?w03 ?w04 ?w05 ?w06 ?w07 ?w08 ?w09 ?w10 ?w11 ?w12 ?w13 ?w14
      case w02 => k_asm
      case w03 => k_asm
      case w04 => k_asm
      case w05 => k_asm
      case w06 => k_asm
      case w07 => rfl
      case w08 => show dp + 1 + _ + 1 < recursionLimit; omega
      case w09 => show un + 3 + 8 * (_ + 1) < cLine; omega
      case w10 => decide
      case w11 => omega
      case w12 => omega
      case w13 => omega
      case w14 =>
        intro t3 h3 tk3 F3 N3
        k_steps
        refine' hret #[rawInt 70, rawInt 4, .ref c0] news _ _ _ ?v1 ?v2 ?v3 Grew.same
        case v1 => k_asm
        case v3 => exact ⟨c0, o0, v0, t0, rfl, hc0, hd0, hv0⟩
        case v2 => exact cb_drop (by k_asm) (List.forall_mem_cons.mpr ⟨by k_mem, by kqd_sub⟩)
  · have h0 : ns.length = 0 := by omega
    have e : V n.toNat ns 0 ns.length = 0 := by rw [h0]; rfl
    rw [e] at hret
    refine' hret #[rawInt 70, rawInt 4, .ref c0] news _ _ _ ?v1 ?v2 ?v3 Grew.same
    case v1 => k_asm
    case v3 => exact ⟨c0, o0, v0, t0, rfl, hc0, hd0, hv0⟩
    case v2 => exact cb_drop (by k_asm) (List.forall_mem_cons.mpr ⟨by k_mem, by kqd_sub⟩)

end
end
section
open PySem PySem.W PyProof.Rows PySem.Calls PyProof.V PySem.Spec
theorem post_var {α : Type} {M : Model} {A : Around} {t : Sem α} {Q : α → Shared → Prop} {E : Value → Shared → Prop} {s : Shared} {C : (α → Shared → Prop) → Prop} (h : ∀ P, C P → wpAny M A t P E s) (hQ : C Q) : wpAny M A t Q E s := h Q hQ

theorem fr_form {h₀ h : Heap} {L : Addr} {m m₀ : Str → Option Value} {x y : Str} {u : Option Value} {v : Value} {ys : List Str} (hr : m y = some v) (hm : ∀ z, z ≠ y → ys.contains z = false → m z = m₀ z)
    (F : Fr h₀ L h (fun z => if z = x then u else m z)) : Fr h₀ L h (fun z => if z = x then u else if z = y then some v else if ys.contains z then m z else m₀ z) := by
  have e : (fun z => if z = x then u else if z = y then some v else if ys.contains z then m z else m₀ z) = (fun z => if z = x then u else m z) := by
    funext z
    by_cases h1 : z = x
    · simp [h1]
    · simp only [if_neg h1]
      by_cases h2 : z = y
      · subst h2; simp [hr]
      · simp only [if_neg h2]
        cases h3 : ys.contains z with
        | true => simp
        | false => simp only [Bool.false_eq_true, if_false]; exact (hm z h2 h3).symm
  rw [e]; exact F
theorem fr_form0 {h₀ h : Heap} {L : Addr} {m m₀ : Str → Option Value} {y : Str} {v : Value} {ys : List Str} (hr : m y = some v) (hm : ∀ z, z ≠ y → ys.contains z = false → m z = m₀ z)
    (F : Fr h₀ L h m) : Fr h₀ L h (fun z => if z = y then some v else if ys.contains z then m z else m₀ z) := by
  have e : (fun z => if z = y then some v else if ys.contains z then m z else m₀ z) = m := by
    funext z
    by_cases h2 : z = y
    · subst h2; simp [hr]
    · simp only [if_neg h2]
      cases h3 : ys.contains z with
      | true => simp
      | false => simp only [Bool.false_eq_true, if_false]; exact (hm z h2 h3).symm
  rw [e]; exact F
theorem off_of_lt {d : Addr} {it : Obj} : ∀ {l : XA}, AllLt d l → OffI d it l
  | [], _ => trivial
  | _ :: _, h => ⟨.inl (Nat.ne_of_lt h.1), off_of_lt h.2⟩

section
variable {prog : Program} {w : World} {A : Around} {E : Value → Shared → Prop} {s : Shared} {env : Env} {h₀ : Heap} {x : Str} {body : List Stmt} {Q : Flow → Shared → Prop}
theorem rev_ind {I : Addr} {lp : Addr × Obj} (Inv : List Value → (Str → Option Value) → XA → Prop)
    (turn : ∀ v r m news it h tk, Inv (v :: r) m news → it.cls = .type "list_reverseiterator" → Fr h₀ env.locals h (fun y => if y = x then some v else m y) → News h₀ env.locals h ((I, it) :: news) →
      wpAny (model prog w) A (execs body env) (UnrPost h₀ env.locals { s with heap := h, toks := tk } I it (fun m' n' => lp ∈ n' ∧ Inv r m' n') Q) E { s with heap := h, toks := tk })
    (done : ∀ m news h tk, Inv [] m news → Fr h₀ env.locals h m → News h₀ env.locals h news → Q .next { s with heap := h, toks := tk }) :
    ∀ r m news, Inv r m news → RevRest prog w A E h₀ env x body Q s I lp r m news
  | [], m, news, hi => RevRest.zero fun h tk F N => done m news h tk hi F N
  | v :: r, m, news, hi => RevRest.succ fun it h tk hc F N => by
    refine wpAny_mono (turn v r m news it h tk hi hc F N) (fun f s₂ p => ?_) fun _ _ e => e
    have up : UnrEnd h₀ env.locals { s with heap := h, toks := tk } I it (fun m' n' => lp ∈ n' ∧ Inv r m' n') s₂ → UnrEnd h₀ env.locals { s with heap := h, toks := tk } I it (fun m' n' => lp ∈ n' ∧ RevRest prog w A E h₀ env x body Q s I lp r m' n') s₂ := by
      rintro ⟨h', tk', m', news', e, F', N', ho, hl, hi'⟩
      exact ⟨h', tk', m', news', e, F', N', ho, hl, rev_ind Inv turn done r m' news' hi'⟩
    cases f with
    | ret v => exact p
    | brk => exact p
    | next => exact up p
    | cont => exact up p

theorem iter_rev {ax I : Addr} {lo : Obj} {vs : List Value} {n : Nat} {m₀ : Str → Option Value} {news : XA} (Inv : (Str → Option Value) → List Value → (Str → Option Value) → XA → Prop)
    (hh : A.handled = none) (F : Fr h₀ env.locals s.heap m₀) (N : News h₀ env.locals s.heap ((I, revObj ax ((vs.length : Int) - 1)) :: news)) (hof : AllLt I news) (hm : (ax, lo) ∈ news) (hc : lo.cls = .type "list") (hd : lo.data = .seq vs.toArray n)
    (start : Inv m₀ vs.reverse m₀ news)
    (turn : ∀ v r m news it h tk, Inv m₀ (v :: r) m news → it.cls = .type "list_reverseiterator" → Fr h₀ env.locals h (fun y => if y = x then some v else m y) → News h₀ env.locals h ((I, it) :: news) →
      wpAny (model prog w) A (execs body env) (UnrPost h₀ env.locals { s with heap := h, toks := tk } I it (fun m' n' => (ax, lo) ∈ n' ∧ Inv m₀ r m' n') Q) E { s with heap := h, toks := tk })
    (done : ∀ m news h tk, Inv m₀ [] m news → Fr h₀ env.locals h m → News h₀ env.locals h news → Q .next { s with heap := h, toks := tk }) :
    wpAny (model prog w) A (pyIter (.ref I)) (fun it s₂ => LoopAtV prog w A h₀ env x body Q E it s₂) E s :=
  iter_revUnr hh F N (off_of_lt hof) hm hc hd (rev_ind (Inv m₀) turn done _ _ _ start)
end

section
variable {prog : Program} {w : World} {A : Around} {E : Value → Shared → Prop} {s : Shared} {h₀ : Heap} {L D : Addr} {m : Str → Option Value} {news news' : XA} {vs : List Value} {n : Nat} {Q : Value → Shared → Prop}
theorem append_L {x : Value} (F : Fr h₀ L s.heap m) (N : News h₀ L s.heap news) (U : Upd D (W.listOf vs.toArray n) (W.listOf (vs ++ [x]).toArray (n + 1)) news news') (hz : vs.length ≤ 1000)
    (h : ∀ h', Fr h₀ L h' m → News h₀ L h' news' → Q .none { s with heap := h' }) : wpAny (model prog w) A (call (.builtin "list.append") [.ref D, x]) Q E s := by
  have e : vs.toArray.push x = (vs ++ [x]).toArray := by simp
  rw [← e] at U
  exact append_K F N U h (by rw [sizeLine_eq, List.size_toArray]; omega)
theorem reverse_L (F : Fr h₀ L s.heap m) (N : News h₀ L s.heap news) (U : Upd D (W.listOf vs.toArray n) (W.listOf vs.reverse.toArray n) news news') (hz : vs.length ≤ 1000)
    (h : ∀ h', Fr h₀ L h' m → News h₀ L h' news' → Q .none { s with heap := h' }) : wpAny (model prog w) A (call (.builtin "list.reverse") [.ref D]) Q E s :=
  kl_reverse F N rfl U (by show vs.length ≤ sizeLine; rw [sizeLine_eq]; omega) h
end

/-- a list of digits, the greatest first, as a number -/
def BE (B : Int) (l : List Int) : Int := l.foldl (fun a d => a * B + d) 0
theorem BE_acc (B : Int) : ∀ (l : List Int) (a : Int), l.foldl (fun a d => a * B + d) a = a * B ^ l.length + BE B l
  | [], a => by simp [BE]
  | d :: l, a => by
    show l.foldl _ (a * B + d) = a * B ^ (l.length + 1) + l.foldl (fun a d => a * B + d) (0 * B + d)
    rw [BE_acc B l (a * B + d), BE_acc B l (0 * B + d), Int.pow_succ, Int.zero_mul, Int.zero_add, Int.add_mul, ← Int.mul_assoc, Int.mul_right_comm, Int.add_assoc]
theorem BE_cons (B d : Int) (l : List Int) : BE B (d :: l) = d * B ^ l.length + BE B l := by
  show l.foldl _ (0 * B + d) = _
  rw [BE_acc, Int.zero_mul, Int.zero_add]
theorem BE_snoc (B d : Int) (l : List Int) : BE B (l ++ [d]) = BE B l * B + d := by
  unfold BE; rw [List.foldl_append]; rfl
theorem V_shift {b : Nat} {d : Int} {ns : List Int} : ∀ (k l : Nat), V b (d :: ns) (l + 1) k = V b ns l k
  | 0, _ => rfl
  | k + 1, l => by rw [V_succ, V_succ, V_shift k (l + 1)]; rfl
theorem V_BE (b : Nat) : ∀ ns : List Int, V b ns 0 ns.length = BE (2 ^ b) ns.reverse
  | [] => rfl
  | d :: ns => by
    rw [List.length_cons, V_succ, V_shift, V_BE b ns, List.reverse_cons, BE_snoc, Int.mul_comm, Int.add_comm]; rfl
end
section
open PySem PySem.W PyProof.Rows PySem.Calls
abbrev qI : Str := Str.ofString "_int2digits.<locals>.inner"
abbrev qD : Str := Str.ofString "_digits2int.<locals>.inner"
def Tab74 (qs : Array Value) (R : XA) : Prop := qs = #[] ∨ TabF 55 4 (Str.ofString "_int2digits.<locals>.inner") qs R
def Tab81 (qs : Array Value) (R : XA) : Prop := qs = #[] ∨ TabF 70 4 (Str.ofString "_digits2int.<locals>.inner") qs R

theorem TabF.drop {ln col : Int} {q : Str} {qs ps : Array Value} {P : Addr} {ex R : XA} (h : TabF ln col q qs (ex ++ (P, tabObj ps) :: R)) (hp : ps = #[] ∨ ∃ a b v, ps = #[rawInt a, rawInt b, v]) : TabF ln col q qs (ex ++ R) := by
  obtain ⟨c, o, v, t, e, hm, hd, hv⟩ := h
  refine ⟨c, o, v, t, e, ?_, hd, hv⟩
  rcases List.mem_append.mp hm with hm | hm
  · exact List.mem_append_left _ hm
  · rcases List.mem_cons.mp hm with hm | hm
    · exfalso
      injection hm with h1 h2
      subst h2
      simp only [tabObj] at hd
      injection hd with hd
      subst hd
      rcases hp with rfl | ⟨a, b, z, rfl⟩
      · simp at hv
      · simp [rawInt] at hv
    · exact List.mem_append_right _ hm
theorem TabF.restrict {ln col : Int} {q : Str} {qs : Array Value} {R R' : XA} (h : TabF ln col q qs R) (hR : ∀ p ∈ R, p ∈ R' ∨ ∀ vs, p.2.data = .fields vs → ∀ t, vs[1]? ≠ some (.str q t)) : TabF ln col q qs R' := by
  obtain ⟨c, o, v, t, e, hm, hd, hv⟩ := h
  rcases hR _ hm with h | h
  · exact ⟨c, o, v, t, e, h, hd, hv⟩
  · exact absurd hv (h v hd t)
theorem no_tab {ps vs : Array Value} {q : Str} (hp : ps = #[] ∨ ∃ a b v, ps = #[rawInt a, rawInt b, v]) (e : (tabObj ps).data = .fields vs) (t : Tok) : vs[1]? ≠ some (.str q t) := by
  injection e with e
  subst e
  rcases hp with rfl | ⟨a, b, z, rfl⟩
  · simp
  · simp [rawInt]
theorem Tab81.shape {ps : Array Value} {R : XA} (h : Tab81 ps R) : ps = #[] ∨ ∃ a b v, ps = #[rawInt a, rawInt b, v] := h.imp id fun ⟨_, _, _, _, e, _⟩ => ⟨_, _, _, e⟩
theorem TabF.shape {ln col : Int} {q : Str} {ps : Array Value} {R : XA} (h : TabF ln col q ps R) : ps = #[] ∨ ∃ a b v, ps = #[rawInt a, rawInt b, v] := let ⟨_, _, _, _, e, _⟩ := h; .inr ⟨_, _, _, e⟩
theorem Grew.drop {R0 R : XA} {q : Addr × Obj} {ex : XA} (h : ∀ p ∈ ex, ∀ q ∈ R0, @LT.lt Nat _ q.1 p.1) (_q : q = q) : Grew R0 R (ex ++ R) := ⟨ex, rfl, h⟩

local macro_rules | `(tactic| walk_at "call ref") => `(tactic| (k_here; refine hold_on ?_))
local macro_rules | `(tactic| k_all) => `(tactic| first | with_reducible assumption | exact ne_tail (by with_reducible assumption) (by omega) | exact ne_tail1 (by with_reducible assumption) (by omega))
local macro_rules | `(tactic| ktr_enter) => `(tactic| (refine' code_defC ?k1 ?k2 ?k3 ?k4 ?k5 ?kA ?kF ?kK ?k6 ?k7 ?k8 ?k9 ?kB ?kD ?_ ?c2 ?c3 ?c4; (case kA => exact rfl); (case kF => exact rfl); (case kK => assumption); (case k1 => k_asm); (case k2 => k_asm); (case k3 => k_asm); (case k4 => k_asm); (case k5 => k_asm); (case k6 => k_is); (case k7 => k_is); (case k8 => ktr_room); (case k9 => exact BindsTo.of_eq rfl); (case kB => exact rfl); (case kD => decide +kernel); (case c2 => exact rfl); (case c3 => exact rfl); (case c4 => exact rfl); k_whole; intro g' L' h' tk' cells' FG' F' N' Y' B' X' T' l1; (try k_lt l1); k_cells Y'; (try simp only [List.cons_append, List.nil_append] at N'); (try dsimp only); (try k_lift B'); (try k_fold)))
local macro_rules | `(tactic| walk_at "binaryOp Mult ref int") => `(tactic| (k_here; (with_reducible show wpAny _ _ (binaryOp Operator.Mult (Value.ref _) (Value.int _ _)) _ _ _); k_dflt (refine' mul_rep ?k1 ?k2 ?k3 ?k4 ?k5 ?_; (case k1 => k_asm); (case k2 => k_asm); (case k3 => k_mem); (case k4 => omega); (case k5 => omega); k_whole); intro D' vs' h' F' N' hi' l1; (try k_lt l1); (try k_sweep)))
local macro_rules | `(tactic| walk_at "call builtin:len") => `(tactic| (k_here; (with_reducible show wpAny _ _ (call (Value.builtin "len") [Value.ref _]) _ _ _); k_dflt (refine' len_ints_fit ?k1 ?k2 ?k3 ?_; (case k1 => exact News.isList (by assumption) (by k_mem)); (case k2 => with_reducible assumption); (case k3 => (simp only [List.length_replicate] at *; omega)); k_whole); (try simp only [List.length_replicate])))
local macro_rules | `(tactic| kn_enter) => `(tactic| (refine' code_nest ?k1 ?k2 ?k3 ?k4 ?k5 ?kA ?kF ?kK ?k6 ?k7 ?k8 ?k9 ?kB ?_ ?c2 ?c3 ?c4 ?c5; (case kA => exact rfl); (case kF => exact rfl); (case kK => assumption); (case k1 => k_asm); (case k2 => k_asm); (case k3 => k_asm); (case k4 => k_asm); (case k5 => k_asm); (case k6 => k_mem); (case k7 => exact codeRec_news (by k_asm) (by k_mem) (by assumption) (by assumption)); (case k8 => ktr_room); (case k9 => exact BindsTo.of_eq rfl); (case c5 => decide); (case kB => exact locs rfl); (case c2 => exact rfl); (case c3 => exact rfl); (case c4 => exact rfl); k_whole; intro g' L' h' FG' F' N' B' X' T'; (try dsimp only); (try k_lift B'); (try k_fold)))
local macro_rules | `(tactic| kqd_sub) => `(tactic| (intro p9 h9; repeat (first | exact h9 | refine List.Mem.tail _ ?_)))
local macro_rules | `(tactic| k_mem) => `(tactic| first | exact List.Mem.head _ | (refine' List.Mem.tail _ ?_; k_mem) | with_reducible assumption | assumption)
local macro_rules | `(tactic| walk_at "truthy ref") => `(tactic| (k_here; (with_reducible show wpAny _ _ (truthy (Value.ref _)) _ _ _); (with_unfolding_all refine' truthy_ints_fit ?k1 ?k2 ?k3 ?_; (case k1 => exact News.isList (by assumption) (by k_mem)); (case k2 => with_reducible assumption); (case k3 => omega); k_whole)))
local macro_rules | `(tactic| walk_at "pyIter ref") => `(tactic| (k_here; refine hold_on ?_))
local macro_rules | `(tactic| walk_at "call builtin:list.append") => `(tactic| (k_here; k_dflt (refine' append_L ?k1 ?k2 ?k3 ?k4 ?_; (case k1 => k_asm); (case k2 => k_asm); (case k3 => k_upd); (case k4 => first | omega | (simp only [List.length_nil]; omega)); k_whole); intro h' F' N'; (try k_sweep)))
local macro_rules | `(tactic| walk_at "call builtin:list.reverse") => `(tactic| (k_here; k_dflt (refine' reverse_L ?k1 ?k2 ?k3 ?k4 ?_; (case k1 => k_asm); (case k2 => k_asm); (case k3 => k_upd); (case k4 => omega); k_whole); intro h' F' N'; (try k_sweep)))

section
variable {w : World} {p : Program} {loose : List Str} {mean : ExcName → Option Value} {mg mb : Str → Option Value}
   {dp un : Nat} {gd : Option (List Code)} {cn : Str} {cs : Scope} {a : Addr} {ccd : Value} {cl : List (Str × Addr)} {outer : List Env} {A₀ : Around} {base h₀ : Heap} {L : Addr} {m : Str → Option Value} {s : Shared} {Q E : Value → Shared → Prop} {news : List (Addr × Obj)}

theorem c_i2d {x n : Int} {tx tn : Tok} {qs : Array Value}
   (B : Below A₀ base outer h₀) (F : Fr h₀ L s.heap m) (X : (hd.heap_39 w.params).In h₀) (N : News h₀ L s.heap ((74, tabObj qs) :: news)) (T : Top p loose mean mg mb h₀) (hk : cs.kind = .function)
   (C1 : CodeHd base 78 74) (hoff : ∀ p ∈ news, p.1 ≠ 74) (hq : Tab74 qs news)
   (hd1 : dp + 30 < recursionLimit) (hu1 : un + 300 < cLine)
   (hx0 : 0 ≤ x) (hx1 : x < 1048576) (hn : 2 ≤ n) (hn1 : n ≤ 4)
   (hret : ∀ D vs ns qs' news' h' tk', Fr h₀ L h' m → News h₀ L h' ((D, W.listOf vs.toArray 0) :: (74, tabObj qs') :: news') → IntsAre vs ns → V n.toNat ns 0 ns.length = x → (∀ d ∈ ns, 0 ≤ d ∧ d < 2 ^ n.toNat) → ns.length ≤ 20 →
     TabF 55 4 (Str.ofString "_int2digits.<locals>.inner") qs' news' → Grew ((74, tabObj qs) :: news) news news' → (∀ q ∈ (74, tabObj qs) :: news, @LT.lt Nat _ q.1 D) → Q (.ref D) { s with heap := h', toks := tk' }) :
   wpAny (model PySem.Challenge.rw_ik0137_01.row.prog w) (ktrTop dp un gd cn cs L a ccd cl outer) (call (.ref 79) [.int x tx, .int n tn]) Q E s := by
  rcases hq with rfl | ⟨c0, o0, v0, t0, rfl, hc0, hd0, hv0⟩
  · exact c_i2d_miss B F X N T hk C1 hoff hd1 hu1 hx0 hx1 hn hn1 hret
  · exact c_i2d_hit B F X N T hk C1 hoff hc0 hd0 hv0 hd1 hu1 hx0 hx1 hn hn1 hret

theorem c_d2i {n : Int} {tn : Tok} {dg : Addr} {vs : List Value} {ns : List Int} {c1 : Nat} {qs : Array Value}
   (B : Below A₀ base outer h₀) (F : Fr h₀ L s.heap m) (X : (hd.heap_39 w.params).In h₀) (N : News h₀ L s.heap ((81, tabObj qs) :: news)) (T : Top p loose mean mg mb h₀) (hk : cs.kind = .function)
   (C1 : CodeHd base 85 81) (hoff : ∀ p ∈ news, p.1 ≠ 81) (hq : Tab81 qs news)
   (hd1 : dp + 30 < recursionLimit) (hu1 : un + 300 < cLine)
   (hdg : (dg, W.listOf vs.toArray c1) ∈ news) (hI : IntsAre vs ns) (hdig : ∀ d ∈ ns, 0 ≤ d ∧ d < 2 ^ n.toNat) (hlen : ns.length ≤ 20) (hn : 2 ≤ n) (hn1 : n ≤ 4)
   (hret : ∀ qs' news' t h' tk', Fr h₀ L h' m → News h₀ L h' ((81, tabObj qs') :: news') →
     TabF 70 4 (Str.ofString "_digits2int.<locals>.inner") qs' news' → Grew ((81, tabObj qs) :: news) news news' → Q (.int (V n.toNat ns 0 ns.length) t) { s with heap := h', toks := tk' }) :
   wpAny (model PySem.Challenge.rw_ik0137_01.row.prog w) (ktrTop dp un gd cn cs L a ccd cl outer) (call (.ref 86) [.ref dg, .int n tn]) Q E s := by
  rcases hq with rfl | ⟨c0, o0, v0, t0, rfl, hc0, hd0, hv0⟩
  · exact c_d2i_miss B F X N T hk C1 hoff hd1 hu1 hdg hI hdig hlen hn hn1 hret
  · exact c_d2i_hit B F X N T hk C1 hoff hc0 hd0 hv0 hd1 hu1 hdg hI hdig hlen hn hn1 hret

set_option maxRecDepth 100000 in
set_option maxHeartbeats 8000000 in
theorem c_dmp {x y : Int} {tx ty : Tok} {ps qs : Array Value}
   (B : Below A₀ base outer h₀) (F : Fr h₀ L s.heap m) (X : (hd.heap_39 w.params).In h₀) (N : News h₀ L s.heap ((81, tabObj ps) :: (74, tabObj qs) :: news)) (T : Top p loose mean mg mb h₀) (hk : cs.kind = .function)
   (C1 : CodeHd base 78 74) (C2 : CodeHd base 85 81) (hoff1 : ∀ p ∈ news, p.1 ≠ 74) (hoff2 : ∀ p ∈ news, p.1 ≠ 81) (hq : Tab74 qs news) (hp : Tab81 ps news)
   (hd1 : dp + 40 < recursionLimit) (hu1 : un + 400 < cLine)
   (hx0 : 0 ≤ x) (hx1 : x < 1048576) (hy0 : 2 ≤ y) (hy1 : y ≤ 12)
   (hret : ∀ D t1 t2 c ps' qs' news' h' tk', Fr h₀ L h' m → News h₀ L h' ((D, tup2 (.int (x / y) t1) (.int (x % y) t2) c) :: (81, tabObj ps') :: (74, tabObj qs') :: news') →
     TabF 55 4 (Str.ofString "_int2digits.<locals>.inner") qs' news' → TabF 70 4 (Str.ofString "_digits2int.<locals>.inner") ps' news' → Grew ((81, tabObj ps) :: (74, tabObj qs) :: news) news news' → (∀ q ∈ (81, tabObj ps) :: (74, tabObj qs) :: news, @LT.lt Nat _ q.1 D) → Q (.ref D) { s with heap := h', toks := tk' }) :
   wpAny (model PySem.Challenge.rw_ik0137_01.row.prog w) (ktrTop dp un gd cn cs L a ccd cl outer) (call (.ref 93) [.int x tx, .int y ty]) Q E s := by
  revert X; k_fill; intro X
  refine wpAny_call ?_
  k_dflt cell_enter
  rename_i g1 L1 hh1 FG1 F0 N0 B1 X1 T1
  k_steps
  have hb1 : Builtin.Int.intBits y ≤ 4 := bits_le (x := y) (k := 4) (by omega)
  have hb2 : 2 ≤ Builtin.Int.intBits y := by
    have h1 := lt_bits y
    have h2 : ¬ Builtin.Int.intBits y ≤ 1 := fun h => by
      have h3 := Nat.pow_le_pow_right (n := 2) (by decide) h
      omega
    omega
  have hyb := lt_bits y
  rename Fr _ _ _ _ => F1
  rename News _ _ _ _ => N1
  generalize Builtin.Int.intBits y = n at hb1 hb2 hyb F1 N1 ⊢
  refine' c_i2d (qs := qs) (news := (81, tabObj ps) :: news) ?a01 ?a02 ?a03 ?a04 ?a05 ?a06 ?a07 ?a08 ?a09 ?a10 ?a11 ?a12 ?a13 ?a14 ?a15 ?a16
  case a01 => k_asm
  case a02 => exact F1
  case a03 => k_asm
  case a04 => exact cb_drop N1 (List.forall_mem_cons.mpr ⟨by k_mem, List.forall_mem_cons.mpr ⟨by k_mem, by kqd_sub⟩⟩)
  case a05 => k_asm
  case a06 => rfl
  case a07 => k_asm
  case a08 => exact List.forall_mem_cons.mpr ⟨(by decide : (81 : Nat) ≠ 74), hoff1⟩
  case a09 => exact hq.imp id fun h => h.mono fun _ h => .tail _ h
  case a10 => show dp + 1 + 30 < recursionLimit; omega
  case a11 => show un + 3 + 300 < cLine; omega
  case a12 => exact hx0
  case a13 => exact hx1
  case a14 => omega
  case a15 => omega
  case a16 =>
    intro D1 vs1 ns1 qs1 news1 h1 tk1 F2 N2 hI1 hV1 hdig1 hlen1 ht1 hg1 hD1
    obtain ⟨ex1, rfl, hex1⟩ := hg1
    have ht1' := ht1.drop hp.shape
    have hg1' : Grew ((74, tabObj qs) :: (81, tabObj ps) :: news) news (ex1 ++ news) := ⟨ex1, rfl, hex1⟩
    replace N2 : News _ _ _ ((D1, W.listOf vs1.toArray 0) :: (81, tabObj ps) :: (74, tabObj qs1) :: (ex1 ++ news)) := cb_drop N2 (by
      intro p hp
      simp only [List.mem_cons, List.mem_append] at hp ⊢
      rcases hp with h | h | h | h | h <;> simp only [h, true_or, or_true])
    have hR1 : ∀ p ∈ ex1 ++ news, p.1 ≠ 74 := hg1'.off hoff1 (.head _)
    have hR2 : ∀ p ∈ ex1 ++ news, p.1 ≠ 81 := hg1'.off hoff2 (.tail _ (.head _))
    generalize hRR : ex1 ++ news = R1 at ht1' hg1' N2 hR1 hR2
    clear N F ht1
    simp only [Int.toNat_natCast] at hV1 hdig1
    have hB1 : (2 : Int) ^ n ≤ 16 := by
      have h := Int.ofNat_le.mpr (Nat.pow_le_pow_right (n := 2) (by decide) hb1)
      simpa using h
    have hB2 : (y : Int) < 2 ^ n := by
      have h := Int.ofNat_lt.mpr hyb
      simp only [Int.natCast_pow] at h
      have h2 : ((y.natAbs : Nat) : Int) = y := by omega
      rw [h2] at h
      exact h
    k_steps
    rename_i QD h4 lQ h5 I h6 F3 N3 lI
    unfold Hold
    refine' iter_rev (lo := W.listOf vs1.toArray 0) (fun m₀ rs m nx => ∃ ds qvs qds rr tr c, IntsAre rs ds ∧ (∀ d ∈ ds, 0 ≤ d ∧ d < 2 ^ n) ∧ IntsAre qvs qds ∧ (∀ d ∈ qds, 0 ≤ d ∧ d < 2 ^ n) ∧ qds.length + ds.length ≤ 20 ∧ 0 ≤ rr ∧ rr < y ∧
        (y * BE (2 ^ n) qds + rr) * (2 ^ n) ^ ds.length + BE (2 ^ n) ds = x ∧ m (Str.ofString "r") = some (.int rr tr) ∧ (∀ z, z ≠ Str.ofString "r" → [Str.ofString "q_digit", Str.ofString "a_digit"].contains z = false → m z = m₀ z) ∧
        nx = (QD, W.listOf qvs.toArray c) :: (D1, W.listOf vs1.toArray 0) :: (81, tabObj ps) :: (74, tabObj qs1) :: R1) rfl F3 N3 lI (by k_mem) rfl rfl ?start ?turn ?done
    case start =>
      refine ⟨ns1.reverse, [], [], 0, _, 0, hI1.reverse, fun d hd => hdig1 d (List.mem_reverse.mp hd), .nil, fun _ h => (nomatch h), by simpa using hlen1, by decide, by omega, ?_, by with_unfolding_all rfl, fun _ _ _ => rfl, rfl⟩
      have h := V_BE n ns1
      rw [hV1] at h
      rw [← h]
      simp [BE]
    case turn =>
      rintro v r m5 nx it h7 tk7 ⟨ds, qvs, qds, rr, tr, c, hi, hdg, hq5, hqd, hlen, hr0, hr1, hval, hmr, hmz, rfl⟩ hit F4 N4
      cases hi with
      | cons d td hi' =>
      rename_i ds
      replace F4 := fr_form hmr hmz F4
      clear F3 N3 hret
      have hd := hdg d (.head _)
      have hql := hq5.length
      have hlQ := lQ.2.2.2
      simp only [List.length_cons] at hlen
      have hz1 : 0 ≤ rr * 2 ^ n := Int.mul_nonneg hr0 (by omega)
      have hz2 : rr * 2 ^ n ≤ (y - 1) * 2 ^ n := Int.mul_le_mul_of_nonneg_right (by omega) (by omega)
      have hz3 : (y - 1) * 2 ^ n ≤ 11 * 2 ^ n := Int.mul_le_mul_of_nonneg_right (by omega) (by omega)
      refine post_var (C := fun P => ∀ (h' : Heap) (tk' : Nat) (m' : Str → Option Value) (tq tr' : Tok) (c' : Nat), Fr g1 L1 h' m' → News g1 L1 h' ((QD, W.listOf (qvs ++ [Value.int ((rr * 2 ^ n + d) / y) tq]).toArray c') :: (I, it) :: (D1, W.listOf vs1.toArray 0) :: (81, tabObj ps) :: (74, tabObj qs1) :: R1) →
        m' (Str.ofString "r") = some (Value.int ((rr * 2 ^ n + d) % y) tr') → (∀ z, z ≠ Str.ofString "r" → [Str.ofString "q_digit", Str.ofString "a_digit"].contains z = false → m' z = m5 z) → P Flow.next { heap := h', gens := s.gens, drawn := s.drawn, toks := tk', os := s.os }) (fun P hP => ?_) ?_
      · k_steps
        rw [Int.toNat_natCast]
        refine' c_div ?b01 ?b02 ?b03 ?b04 ?b05 ?b06 ?b07 ?b08 ?b09 ?b10 ?b11 ?b12 ?b13 ?b14 ?b15
        case b01 => k_asm
        case b02 => k_asm
        case b03 => k_asm
        case b04 => k_asm
        case b05 => k_asm
        case b06 => rfl
        case b07 => show dp + 1 + 1 < recursionLimit; omega
        case b08 => show un + 3 + 8 < cLine; omega
        case b09 => omega
        case b10 => omega
        case b11 => exact hy0
        case b12 => exact hy1
        case b13 => omega
        case b14 => omega
        case b15 =>
          intro D8 t1 t2 c8 h8 tk8 F8 N8 l8
          simp only [AllLt, and_true] at l8
          k_steps
          refine' hP _ _ _ _ _ _ ?c1 ?c2 ?c3 ?c4
          case c1 => k_asm
          case c2 => exact cb_drop (by k_asm) (List.forall_mem_cons.mpr ⟨by k_mem, List.forall_mem_cons.mpr ⟨by k_mem, by kqd_sub⟩⟩)
          case c3 => with_unfolding_all rfl
          case c4 =>
            intro z e1 e2
            rw [hmz z e1 e2]
            simp only [List.contains_cons, List.contains_nil, Bool.or_false, Bool.or_eq_false_iff, beq_eq_false_iff_ne, ne_eq] at e2
            simp [e1, e2.1, e2.2]
      · intro h9 tk9 m9 tq tr' c9 F9 N9 e9 z9
        have hq0 : 0 ≤ (rr * 2 ^ n + d) / y := Int.ediv_nonneg (by omega) (by omega)
        have hq1 : (rr * 2 ^ n + d) / y < 2 ^ n := by
          refine Int.ediv_lt_of_lt_mul (by omega) ?_
          have : (rr + 1) * 2 ^ n ≤ y * 2 ^ n := Int.mul_le_mul_of_nonneg_right (by omega) (by omega)
          rw [Int.add_mul, Int.one_mul] at this
          rw [Int.mul_comm (2 ^ n) y]
          omega
        have hqr := Int.mul_ediv_add_emod (rr * 2 ^ n + d) y
        refine ⟨h9, tk9, m9, (QD, W.listOf (qvs ++ [Value.int ((rr * 2 ^ n + d) / y) tq]).toArray c9) :: (D1, W.listOf vs1.toArray 0) :: (81, tabObj ps) :: (74, tabObj qs1) :: R1, rfl, F9, ?_, ?_, by k_mem,
          ds, qvs ++ [Value.int ((rr * 2 ^ n + d) / y) tq], qds ++ [(rr * 2 ^ n + d) / y], (rr * 2 ^ n + d) % y, tr', c9, hi', fun d' h' => hdg d' (.tail _ h'), hq5.append (.cons _ _ .nil), ?_, ?_, Int.emod_nonneg _ (by omega), Int.emod_lt_of_pos _ (by omega), ?_, e9, ?_, rfl⟩
        · exact cb_drop N9 (List.forall_mem_cons.mpr ⟨by k_mem, List.forall_mem_cons.mpr ⟨by k_mem, by kqd_sub⟩⟩)
        · exact fun p hp => Nat.ne_of_lt (ktn_ltOf (show AllLt I ((QD, W.listOf (qvs ++ [Value.int ((rr * 2 ^ n + d) / y) tq]).toArray c9) :: (D1, W.listOf vs1.toArray 0) :: (81, tabObj ps) :: (74, tabObj qs1) :: R1) from lI) p hp)
        · intro d' h'
          rcases List.mem_append.mp h' with h' | h'
          · exact hqd d' h'
          · rw [List.mem_singleton.mp h']; exact ⟨hq0, hq1⟩
        · rw [List.length_append]; simp only [List.length_singleton]; omega
        · rw [BE_snoc, ← hval, BE_cons, List.length_cons, Int.pow_succ, Int.mul_comm ((2 ^ n) ^ ds.length) (2 ^ n), ← Int.mul_assoc, ← Int.add_assoc, ← Int.add_mul]
          congr 2
          rw [Int.add_mul, Int.mul_add, Int.mul_assoc, Int.add_assoc, Int.add_assoc, hqr]
        · intro z e1 e2
          rw [z9 z e1 e2, hmz z e1 e2]
    case done =>
      rintro m5 nx h7 tk7 ⟨ds, qvs, qds, rr, tr, c, hi, hdg, hq5, hqd, hlen, hr0, hr1, hval, hmr, hmz, rfl⟩ F4 N4
      have hql := hq5.length
      have hlQ := lQ.2.2.2
      cases hi with
      | nil =>
      simp only [List.length_nil] at hlen
      replace F4 := fr_form0 hmr hmz F4
      k_steps
      have hv : y * BE (2 ^ n) qds + rr = x := by
        have h := hval
        simp only [List.length_nil, Int.pow_zero, Int.mul_one] at h
        rw [show BE (2 ^ n) [] = 0 from rfl, Int.add_zero] at h
        exact h
      have hx : BE (2 ^ n) qds = x / y ∧ rr = x % y := by
        have h := Int.ediv_emod_unique (a := x) (b := y) (r := rr) (q := BE (2 ^ n) qds) (by omega)
        have h2 := h.mpr ⟨by omega, hr0, hr1⟩
        exact ⟨h2.1.symm, h2.2.symm⟩
      have hVB := V_BE n qds.reverse
      rw [List.reverse_reverse, hx.1] at hVB
      obtain ⟨hx1', hx2⟩ := hx
      subst hx2
      refine' c_d2i (qs := ps) (vs := qvs.reverse) (ns := qds.reverse) (c1 := c) (news := (QD, W.listOf qvs.reverse.toArray c) :: (D1, W.listOf vs1.toArray 0) :: (74, tabObj qs1) :: R1) ?d01 ?d02 ?d03 ?d04 ?d05 ?d06 ?d07 ?d08 ?d09 ?d10 ?d11 ?d12 ?d13 ?d14 ?d15 ?d16 ?d17 ?d18
      case d01 => k_asm
      case d02 => k_asm
      case d03 => k_asm
      case d04 => exact cb_drop (by k_asm) (List.forall_mem_cons.mpr ⟨by k_mem, List.forall_mem_cons.mpr ⟨by k_mem, List.forall_mem_cons.mpr ⟨by k_mem, by kqd_sub⟩⟩⟩)
      case d05 => k_asm
      case d06 => rfl
      case d07 => k_asm
      case d08 => exact List.forall_mem_cons.mpr ⟨Nat.ne_of_gt lQ.2.1, List.forall_mem_cons.mpr ⟨Nat.ne_of_gt (hD1 _ (.tail _ (.head _))), List.forall_mem_cons.mpr ⟨(by decide : (74 : Nat) ≠ 81), hR2⟩⟩⟩
      case d09 => exact hp.imp id fun h => h.mono fun p hp => .tail _ (.tail _ (.tail _ (hg1'.sub p hp)))
      case d10 => show dp + 1 + 30 < recursionLimit; omega
      case d11 => show un + 3 + 300 < cLine; omega
      case d12 => exact .head _
      case d13 => exact hq5.reverse
      case d14 => exact fun d hd => by simpa using hqd d (List.mem_reverse.mp hd)
      case d15 => simpa using hlen
      case d16 => omega
      case d17 => omega
      case d18 =>
        intro ps2 news2 t9 h9 tk9 F9 N9 ht9 hg9
        obtain ⟨ex2, rfl, hex2⟩ := hg9
        rw [Int.toNat_natCast, hVB]
        replace N9 : News _ _ _ ((81, tabObj ps2) :: (74, tabObj qs1) :: (ex2 ++ R1)) := cb_drop N9 (by
          intro p hp
          simp only [List.mem_cons, List.mem_append] at hp ⊢
          rcases hp with h | h | h | h <;> simp only [h, true_or, or_true])
        have ht9' : TabF 70 4 (Str.ofString "_digits2int.<locals>.inner") ps2 (ex2 ++ R1) := ht9.restrict (fun p hp => by
          rcases List.mem_append.mp hp with h | h
          · exact .inl (List.mem_append_left _ h)
          · rcases List.mem_cons.mp h with rfl | h
            · exact .inr fun vs e => by cases e
            · rcases List.mem_cons.mp h with rfl | h
              · exact .inr fun vs e => by cases e
              · rcases List.mem_cons.mp h with rfl | h
                · exact .inr fun vs e t => no_tab ht1'.shape e t
                · exact .inl (List.mem_append_right _ h))
        have ht1'' := ht1'.mono (R' := ex2 ++ R1) fun p hp => List.mem_append_right _ hp
        have hgr : Grew ((81, tabObj ps) :: (74, tabObj qs) :: news) news (ex2 ++ R1) := by
          refine ⟨ex2 ++ ex1, by rw [← hRR, List.append_assoc], fun p hp q hq => ?_⟩
          rcases List.mem_append.mp hp with hp | hp
          · rcases List.mem_cons.mp hq with rfl | hq
            · exact hex2 p hp _ (.head _)
            · rcases List.mem_cons.mp hq with rfl | hq
              · exact hex2 p hp (74, tabObj qs1) (.tail _ (.tail _ (.tail _ (.head _))))
              · exact hex2 p hp q (.tail _ (.tail _ (.tail _ (.tail _ (hg1'.sub q hq)))))
          · rcases List.mem_cons.mp hq with rfl | hq
            · exact hex1 p hp _ (.tail _ (.head _))
            · rcases List.mem_cons.mp hq with rfl | hq
              · exact hex1 p hp _ (.head _)
              · exact hex1 p hp _ (.tail _ (.tail _ hq))
        have hsub : ∀ q ∈ news, q ∈ ex2 ++ R1 := hgr.sub
        generalize ex2 ++ R1 = R2 at N9 ht9' ht1'' hgr hsub
        k_steps
        rename 81 < _ ∧ 74 < _ ∧ AllLt _ R2 => lD
        refine' hret _ _ _ _ ps2 qs1 R2 _ _ ?e1 ?e2 ht1'' ht9' hgr ?e3
        case e1 => k_asm
        case e2 => k_asm
        case e3 =>
          intro q hq
          rcases List.mem_cons.mp hq with rfl | hq
          · exact lD.1
          · rcases List.mem_cons.mp hq with rfl | hq
            · exact lD.2.1
            · exact ktn_ltOf lD.2.2 q (hsub q hq)
end
end
section
open PySem PySem.W PyProof.Rows PySem.Calls
local macro_rules | `(tactic| walk_at "call ref") => `(tactic| (k_here; refine hold_on ?_))
local macro_rules | `(tactic| k_all) => `(tactic| first | with_reducible assumption | exact ne_tail (by with_reducible assumption) (by omega) | exact ne_tail1 (by with_reducible assumption) (by omega))
local macro_rules | `(tactic| ktr_enter) => `(tactic| (refine' code_defC ?k1 ?k2 ?k3 ?k4 ?k5 ?kA ?kF ?kK ?k6 ?k7 ?k8 ?k9 ?kB ?kD ?_ ?c2 ?c3 ?c4; (case kA => exact rfl); (case kF => exact rfl); (case kK => assumption); (case k1 => k_asm); (case k2 => k_asm); (case k3 => k_asm); (case k4 => k_asm); (case k5 => k_asm); (case k6 => k_is); (case k7 => k_is); (case k8 => ktr_room); (case k9 => exact BindsTo.of_eq rfl); (case kB => exact rfl); (case kD => decide +kernel); (case c2 => exact rfl); (case c3 => exact rfl); (case c4 => exact rfl); k_whole; intro g' L' h' tk' cells' FG' F' N' Y' B' X' T' l1; (try k_lt l1); k_cells Y'; (try simp only [List.cons_append, List.nil_append] at N'); (try dsimp only); (try k_lift B'); (try k_fold)))
local macro_rules | `(tactic| walk_at "binaryOp Mult ref int") => `(tactic| (k_here; (with_reducible show wpAny _ _ (binaryOp Operator.Mult (Value.ref _) (Value.int _ _)) _ _ _); k_dflt (refine' mul_rep ?k1 ?k2 ?k3 ?k4 ?k5 ?_; (case k1 => k_asm); (case k2 => k_asm); (case k3 => k_mem); (case k4 => omega); (case k5 => omega); k_whole); intro D' vs' h' F' N' hi' l1; (try k_lt l1); (try k_sweep)))
local macro_rules | `(tactic| walk_at "call builtin:len") => `(tactic| (k_here; (with_reducible show wpAny _ _ (call (Value.builtin "len") [Value.ref _]) _ _ _); k_dflt (refine' len_ints_fit ?k1 ?k2 ?k3 ?_; (case k1 => exact News.isList (by assumption) (by k_mem)); (case k2 => with_reducible assumption); (case k3 => (simp only [List.length_replicate] at *; omega)); k_whole); (try simp only [List.length_replicate])))
local macro_rules | `(tactic| kn_enter) => `(tactic| (refine' code_nest ?k1 ?k2 ?k3 ?k4 ?k5 ?kA ?kF ?kK ?k6 ?k7 ?k8 ?k9 ?kB ?_ ?c2 ?c3 ?c4 ?c5; (case kA => exact rfl); (case kF => exact rfl); (case kK => assumption); (case k1 => k_asm); (case k2 => k_asm); (case k3 => k_asm); (case k4 => k_asm); (case k5 => k_asm); (case k6 => k_mem); (case k7 => exact codeRec_news (by k_asm) (by k_mem) (by assumption) (by assumption)); (case k8 => ktr_room); (case k9 => exact BindsTo.of_eq rfl); (case c5 => decide); (case kB => exact locs rfl); (case c2 => exact rfl); (case c3 => exact rfl); (case c4 => exact rfl); k_whole; intro g' L' h' FG' F' N' B' X' T'; (try dsimp only); (try k_lift B'); (try k_fold)))
local macro_rules | `(tactic| kqd_sub) => `(tactic| (intro p9 h9; repeat (first | exact h9 | refine List.Mem.tail _ ?_)))
local macro_rules | `(tactic| k_mem) => `(tactic| first | exact List.Mem.head _ | (refine' List.Mem.tail _ ?_; k_mem) | with_reducible assumption | assumption)
local macro_rules | `(tactic| walk_at "truthy ref") => `(tactic| (k_here; (with_reducible show wpAny _ _ (truthy (Value.ref _)) _ _ _); (with_unfolding_all refine' truthy_ints_fit ?k1 ?k2 ?k3 ?_; (case k1 => exact News.isList (by assumption) (by k_mem)); (case k2 => with_reducible assumption); (case k3 => omega); k_whole)))
local macro_rules | `(tactic| walk_at "pyIter ref") => `(tactic| (k_here; refine hold_on ?_))
local macro_rules | `(tactic| walk_at "call builtin:list.append") => `(tactic| (k_here; k_dflt (refine' append_L ?k1 ?k2 ?k3 ?k4 ?_; (case k1 => k_asm); (case k2 => k_asm); (case k3 => k_upd); (case k4 => first | omega | (simp only [List.length_nil]; omega)); k_whole); intro h' F' N'; (try k_sweep)))
local macro_rules | `(tactic| walk_at "call builtin:list.reverse") => `(tactic| (k_here; k_dflt (refine' reverse_L ?k1 ?k2 ?k3 ?k4 ?_; (case k1 => k_asm); (case k2 => k_asm); (case k3 => k_upd); (case k4 => omega); k_whole); intro h' F' N'; (try k_sweep)))

section
variable {w : World} {p : Program} {loose : List Str} {mean : ExcName → Option Value} {mg mb : Str → Option Value}
   {dp un : Nat} {gd : Option (List Code)} {cn : Str} {cs : Scope} {a : Addr} {ccd : Value} {cl : List (Str × Addr)} {outer : List Env} {A₀ : Around} {base h₀ : Heap} {L : Addr} {m : Str → Option Value} {s : Shared} {Q E : Value → Shared → Prop} {news : List (Addr × Obj)}

set_option maxRecDepth 100000 in
set_option maxHeartbeats 8000000 in
theorem c_idm0 {x y : Int} {tx ty : Tok} {ps qs : Array Value}
   (B : Below A₀ base outer h₀) (F : Fr h₀ L s.heap m) (X : (hd.heap_39 w.params).In h₀) (N : News h₀ L s.heap ((81, tabObj ps) :: (74, tabObj qs) :: news)) (T : Top p loose mean mg mb h₀) (hk : cs.kind = .function)
   (C1 : CodeHd base 78 74) (C2 : CodeHd base 85 81) (hoff1 : ∀ p ∈ news, p.1 ≠ 74) (hoff2 : ∀ p ∈ news, p.1 ≠ 81) (hq : Tab74 qs news) (hp : Tab81 ps news)
   (hd1 : dp + 50 < recursionLimit) (hu1 : un + 500 < cLine)
   (hx0 : 0 ≤ x) (hx1 : x < 1048576) (hy0 : 2 ≤ y) (hy1 : y ≤ 12)
   (hret : ∀ D t1 t2 c ps' qs' news' h' tk', Fr h₀ L h' m → News h₀ L h' ((D, tup2 (.int (x / y) t1) (.int (x % y) t2) c) :: (81, tabObj ps') :: (74, tabObj qs') :: news') →
     TabF 55 4 (Str.ofString "_int2digits.<locals>.inner") qs' news' → TabF 70 4 (Str.ofString "_digits2int.<locals>.inner") ps' news' → Grew ((81, tabObj ps) :: (74, tabObj qs) :: news) news news' → (∀ q ∈ (81, tabObj ps) :: (74, tabObj qs) :: news, @LT.lt Nat _ q.1 D) → Q (.ref D) { s with heap := h', toks := tk' }) :
   wpAny (model PySem.Challenge.rw_ik0137_01.row.prog w) (ktrTop dp un gd cn cs L a ccd cl outer) (call (.ref 100) [.int x tx, .int y ty]) Q E s := by
  revert X; k_fill; intro X
  refine wpAny_call ?_
  k_dflt cell_enter
  k_steps
  · exfalso; omega
  refine' c_dmp (ps := ps) (qs := qs) (news := news) ?a01 ?a02 ?a03 ?a04 ?a05 ?a06 ?a07 ?a08 hoff1 hoff2 hq hp ?a09 ?a10 hx0 hx1 hy0 hy1 ?a11
  case a01 => k_asm
  case a02 => k_asm
  case a03 => k_asm
  case a04 => k_asm
  case a05 => k_asm
  case a06 => rfl
  case a07 => k_asm
  case a08 => k_asm
  case a09 => show dp + 1 + 40 < recursionLimit; omega
  case a10 => show un + 3 + 400 < cLine; omega
  case a11 =>
    intro D t1 t2 c ps' qs' news' h' tk' F9 N9 h1 h2 h3 h4
    k_steps
    refine' hret _ _ _ _ _ _ _ _ _ ?e1 ?e2 h1 h2 h3 h4
    case e1 => k_asm
    case e2 => k_asm

set_option maxRecDepth 100000 in
set_option maxHeartbeats 8000000 in
theorem c_idm {x y : Int} {tx ty : Tok} {ps qs : Array Value}
   (B : Below A₀ base outer h₀) (F : Fr h₀ L s.heap m) (X : (hd.heap_39 w.params).In h₀) (N : News h₀ L s.heap ((81, tabObj ps) :: (74, tabObj qs) :: news)) (T : Top p loose mean mg mb h₀) (hk : cs.kind = .function)
   (C1 : CodeHd base 78 74) (C2 : CodeHd base 85 81) (hoff1 : ∀ p ∈ news, p.1 ≠ 74) (hoff2 : ∀ p ∈ news, p.1 ≠ 81) (hq : Tab74 qs news) (hp : Tab81 ps news)
   (hd1 : dp + 60 < recursionLimit) (hu1 : un + 600 < cLine)
   (hx0 : -1048576 < x) (hx1 : x < 1048576) (hy0 : 2 ≤ y) (hy1 : y ≤ 12)
   (hret : ∀ D t1 t2 c ps' qs' news' h' tk', Fr h₀ L h' m → News h₀ L h' ((D, tup2 (.int (x / y) t1) (.int (x % y) t2) c) :: (81, tabObj ps') :: (74, tabObj qs') :: news') →
     TabF 55 4 (Str.ofString "_int2digits.<locals>.inner") qs' news' → TabF 70 4 (Str.ofString "_digits2int.<locals>.inner") ps' news' → Grew ((81, tabObj ps) :: (74, tabObj qs) :: news) news news' → (∀ q ∈ (81, tabObj ps) :: (74, tabObj qs) :: news, @LT.lt Nat _ q.1 D) → Q (.ref D) { s with heap := h', toks := tk' }) :
   wpAny (model PySem.Challenge.rw_ik0137_01.row.prog w) (ktrTop dp un gd cn cs L a ccd cl outer) (call (.ref 100) [.int x tx, .int y ty]) Q E s := by
  by_cases hneg : 0 ≤ x
  · exact c_idm0 B F X N T hk C1 C2 hoff1 hoff2 hq hp (by omega) (by omega) hneg hx1 hy0 hy1 hret
  revert X; k_fill; intro X
  refine wpAny_call ?_
  k_dflt cell_enter
  k_steps
  · exfalso; omega
  have hnx : Builtin.bitNot x = -x - 1 := rfl
  rw [hnx]
  have hdv := Int.mul_ediv_add_emod (-x - 1) y
  have hm0 := Int.emod_nonneg (-x - 1) (b := y) (by omega)
  have hm1 := Int.emod_lt_of_pos (-x - 1) (b := y) (by omega)
  have hdq : Builtin.bitNot ((-x - 1) / y) = x / y ∧ y + Builtin.bitNot ((-x - 1) % y) = x % y := by
    show -((-x - 1) / y) - 1 = x / y ∧ y + (-((-x - 1) % y) - 1) = x % y
    have h := Int.ediv_emod_unique (a := x) (b := y) (r := y + (-((-x - 1) % y) - 1)) (q := -((-x - 1) / y) - 1) (by omega)
    have h2 := h.mpr ⟨by rw [Int.mul_sub, Int.mul_neg, Int.mul_one]; omega, by omega, by omega⟩
    exact ⟨h2.1.symm, h2.2.symm⟩
  rw [← hdq.1, ← hdq.2] at hret
  refine' c_idm0 (ps := ps) (qs := qs) (news := news) ?a01 ?a02 ?a03 ?a04 ?a05 ?a06 ?a07 ?a08 hoff1 hoff2 hq hp ?a09 ?a10 ?a12 ?a13 hy0 hy1 ?a11
  case a01 => k_asm
  case a02 => k_asm
  case a03 => k_asm
  case a04 => k_asm
  case a05 => k_asm
  case a06 => rfl
  case a07 => k_asm
  case a08 => k_asm
  case a12 => omega
  case a13 => omega
  case a09 => show dp + 1 + 50 < recursionLimit; omega
  case a10 => show un + 3 + 500 < cLine; omega
  case a11 =>
    intro D t1 t2 c ps' qs' news' h' tk' F9 N9 h1 h2 h3 h4
    clear hdq
    k_steps
    rename D < _ ∧ 81 < _ ∧ 74 < _ ∧ AllLt _ news' => lD
    refine' hret _ _ _ _ _ _ _ _ _ ?e1 ?e2 h1 h2 h3 ?e3
    case e1 => k_asm
    case e2 => exact cb_drop (by k_asm) (List.forall_mem_cons.mpr ⟨by k_mem, List.forall_mem_cons.mpr ⟨by k_mem, List.forall_mem_cons.mpr ⟨by k_mem, by kqd_sub⟩⟩⟩)
    case e3 => exact fun q hq => Nat.lt_trans (h4 q hq) lD.1
end
end
section
open PySem PySem.W PyProof.Rows PySem.Calls
set_option maxRecDepth 100000
theorem typeOf_lc : typeOf (.builtin "list.__contains__") = pure (.type "wrapper_descriptor") := by show builtinType _ = _; rw [builtinType_eq_fast]; kernel_rfl
theorem slot_wd_get : Slot "wrapper_descriptor" "__get__" "wrapper_descriptor.__get__" :=
  .of (owner := "wrapper_descriptor") (n := "__get__") (by rw [typeLookup_type, builtinLookup_eq_fast]; kernel_rfl) (by decide +kernel) (by decide +kernel) (by decide +kernel)
    (by first | exact .inl (by decide +kernel) | exact .inr (by decide +kernel)) (by rw [isSubtype_type]; kernel_rfl)
theorem wd_set_none : typeLookup (.type "wrapper_descriptor") "__set__" = pure none := by rw [typeLookup_type, builtinLookup_eq_fast]; kernel_rfl
theorem wd_del_none : typeLookup (.type "wrapper_descriptor") "__delete__" = pure none := by rw [typeLookup_type, builtinLookup_eq_fast]; kernel_rfl
theorem entry_wd_get : entryFor table "wrapper_descriptor.__get__" = some Builtin.«wrapper_descriptor.__get__» := by first | exact entryFor_of_fast (by kernel_rfl) | exact entryFor_of_tree (by kernel_rfl)
theorem args_wd_get (a b c : Value) : argsOk "wrapper_descriptor.__get__" ⟨[a, b, c], []⟩ := by unfold argsOk; kernel_rfl
theorem sub_list_list : isSubtype (.type "list") (.type "list") = pure true := by rw [isSubtype_type]; kernel_rfl
theorem lc_own : (".".intercalate ("list.__contains__".cutAt '.').dropLast) = "list" := by decide +kernel
theorem sub_lc_owner : isSubtype (.type "list") (.type (".".intercalate ("list.__contains__".cutAt '.').dropLast)) = pure true := by
  rw [lc_own, isSubtype_type]; kernel_rfl
theorem lc_owner : ("list.__contains__".cutAt '.') = ["list", "__contains__"] := by decide +kernel

abbrev mwObj (a : Addr) : Obj := { cls := .type "method-wrapper", data := .fields #[.builtin "list.__contains__", .ref a] }
section
variable {prog : Program} {w : World} {A : Around} {E : Value → Shared → Prop} {h : Heap} {g : Array GenState} {d : Drawn} {t : Nat} {os : OsState} {a : Addr} {o : Obj}
set_option maxHeartbeats 4000000 in
theorem wd_get_list {R : Result → Shared → Prop} (hx : h.get? a = some o) (hc : o.cls = .type "list") (hq : R (.ok (.ret (.ref h.objs.size))) ⟨h.push (mwObj a), g, d, t, os⟩) :
    codeAny (model prog w) A (.call (.builtin "wrapper_descriptor.__get__") ⟨[.builtin "list.__contains__", .ref a, .type "list"], []⟩) R ⟨h, g, d, t, os⟩ := by
  have hT : (⟨h, g, d, t, os⟩ : Shared).TypeIs (.ref a) "list" := ⟨_, hx, hc⟩
  have hT5 : (⟨h, g, d, t, os⟩ : Shared).TypeIs (.builtin "list.__contains__") "wrapper_descriptor" := typeOf_lc
  have f8 := sub_lc_owner
  refine codeAny_call_builtin slot_wd_get.plain entry_wd_get (slot_wd_get.check _ _ _ _ _ _ _ _ hT5 (args_wd_get _ _ _) ?_)
  repeat (any_goals (first | assumption | wp_step))

set_option maxHeartbeats 4000000 in
theorem lc_entry {tk : Tok} {Q : Fin → Shared → Prop} {xs : Array Value} {k : Nat} {sl : Array (Option Value)} (hx : h.get? a = some { cls := .type "list", dict := none, data := .seq xs k, slots := sl }) (hq : Q (.done (.ret (.ref h.objs.size))) ⟨h.push (mwObj a), g, d, t, os⟩) :
    wpAny (model prog w) A (Builtin.«object.__getattribute__» ⟨[.ref a, .str "__contains__" tk], []⟩) Q E ⟨h, g, d, t, os⟩ := by
  have hT : (⟨h, g, d, t, os⟩ : Shared).TypeIs (.ref a) "list" := ⟨_, hx, rfl⟩
  have hT5 : (⟨h, g, d, t, os⟩ : Shared).TypeIs (.builtin "list.__contains__") "wrapper_descriptor" := typeOf_lc
  have f4 := F.slot_list_contains.lookup
  have f5 := typeOf_lc
  have f6 := slot_wd_get.lookup
  have f7 := wd_set_none
  have f8 := wd_del_none
  repeat (any_goals (first | assumption | wp_step))
  refine wd_get_list hx rfl ?_
  repeat (any_goals (first | assumption | wp_step))

set_option maxHeartbeats 4000000 in
theorem getAttr_lc {Q : Value → Shared → Prop} {xs : Array Value} {k : Nat} {sl : Array (Option Value)} (hx : h.get? a = some { cls := .type "list", dict := none, data := .seq xs k, slots := sl }) (hq : Q (.ref h.objs.size) ⟨h.push (mwObj a), g, d, t + 1, os⟩) :
    wpAny (model prog w) A (getAttr (.ref a) "__contains__" true) Q E ⟨h, g, d, t, os⟩ := by
  have hT : ∀ tk', (⟨h, g, d, tk', os⟩ : Shared).TypeIs (.ref a) "list" := fun _ => ⟨_, hx, rfl⟩
  have f3 := F.slot_list_getattribute.lookup
  have f4 := F.slot_list_getattribute.bind (.ref a)
  unfold getAttr getAttrBy
  repeat (any_goals (first | assumption | exact hT _ | ((with_reducible show wpAny _ _ (call (Value.builtin "list.__getattribute__") _ _) _ _ _); refine wpAny_call (codeAny_call_builtin F.slot_list_getattribute.plain F.entry_list_ga (F.slot_list_getattribute.check _ _ _ _ _ _ _ _ (hT _) (F.args_list_getattribute_2 _ _) (lc_entry hx ?_)))) | wp_step))
end
end
section
open PySem PySem.W PyProof.Rows PySem.Calls
set_option maxRecDepth 100000
theorem bound_lc (a x : Value) : checkBoundCall "list.__contains__" ⟨[a, x], []⟩ = pure () := by first | kernel_rfl | rfl
section
variable {prog : Program} {w : World} {A : Around} {E : Value → Shared → Prop} {s : Shared}
theorem call_mw {mw l : Addr} {ws : List Value} {ys : List Int} {n : Nat} {x : Int} {t : Tok} {Q : Value → Shared → Prop} (hm : s.heap.get? mw = some (mwObj l)) (hl : s.heap.get? l = some (W.listOf ws.toArray n)) (hJ : IntsAre ws ys)
    (h : Q (.bool (decide (x ∈ ys))) s) : wpAny (model prog w) A (call (.ref mw) [.int x t]) Q E s := by
  have e : ws.toArray.any (isInt x) = decide (x ∈ ys) := by
    rw [← Array.any_toList, show ws.toArray.toList = ws from rfl, any_isInt x hJ]
    apply Bool.eq_iff_iff.mpr
    simp
  refine wpAny_call (codeAny_of_tree ?_)
  show wpAny _ A.in1 (callAny (.ref mw) ⟨[.int x t], []⟩) _ _ s
  simp only [callAny]
  refine wpAny_bind (wpAny_load hm ?_)
  simp only [show (Value.type "method-wrapper" == Value.type "method" || Value.type "method-wrapper" == Value.type "builtin_function_or_method" || Value.type "method-wrapper" == Value.type "method-wrapper") = true by decide, if_true]
  refine KFB.if_so (by decide) ?_
  refine wpAny_bind (wpAny_of_eq (a := ()) (bound_lc _ _) ?_)
  refine wpAny_bind (wpAny_pure (wpAny_pure ?_))
  refine ⟨Code.quiet_builtin _ (by decide +kernel), codeAny_builtin F.entry_list_contains ?_⟩
  refine SeqInW.list_containsW l ws.toArray n none #[] (.int x t) (isInt x) (fun y hy => eq_isInt x t hJ y (by simpa using hy)) prog w _ _ _ ⟨hl, ?_⟩
  rw [e]
  exact h
theorem getAttr_mw {h₀ : Heap} {L : Addr} {m : Str → Option Value} {news : List (Addr × Obj)} {l : Addr} {vs : List Value} {n : Nat} {Q : Value → Shared → Prop} (F : Fr h₀ L s.heap m) (N : News h₀ L s.heap news) (hm : (l, W.listOf vs.toArray n) ∈ news)
    (h : ∀ D h' tk, Fr h₀ L h' m → News h₀ L h' ((D, mwObj l) :: news) → (∀ p ∈ news, p.1 < D) → Q (.ref D) { s with heap := h', toks := tk }) : wpAny (model prog w) A (getAttr (.ref l) (Str.ofString "__contains__") true) Q E s := by
  obtain ⟨hh, g, d, t, os⟩ := s
  refine getAttr_lc (N _ hm).1 ?_
  exact h _ _ _ (F.push _) (N.push F _) fun p hp => Heap.lt_size (N p hp).1
def MwAt (x l : Addr) (h : Heap) : Prop := h.get? x = some (mwObj l)
theorem callWith_mwf {pos : Pos} {u l : Addr} {first : List Value} {args : List (Bool × Sem Value)} {Q : Value → Shared → Prop} {M : Model} (hplain : args.any (·.1) = false)
    (h : wpAny M A (evalArgs (.ref u) true args []) (fun x s₁ => MwAt u l s₁.heap ∧ wpAny M A (call (.ref u) (first ++ x.pos) x.kw) Q E s₁) E s) : wpAny M A (callWith pos (.ref u) first args []) Q E s := by
  unfold callWith
  refine wpAny_bind (wpAny_holding (wpAny_mono h (fun x s₁ h₁ => wpAny_bind (wpAny_standAt ?_)) fun _ _ x => x))
  obtain ⟨ho, hcall⟩ := h₁
  simp only [hplain, List.any_nil, Bool.or_false]
  refine wpAny_bind (m := keeperOf (.ref u)) ?_
  unfold keeperOf
  refine wpAny_bind (wpAny_load ho ?_)
  simp only [show (Value.type "method-wrapper" != Value.type "method") = true by decide, show (Value.type "method-wrapper" == Value.type "builtin_function_or_method" || Value.type "method-wrapper" == Value.type "method-wrapper") = true by decide, if_true]
  refine wpAny_pure ?_
  exact wpAny_bind (wpAny_mono hcall (fun r s₂ hr => wpAny_bind (wpAny_holding (wpAny_point (wpAny_pure hr)))) fun _ _ x => x)
theorem callWith_mw {h₀ : Heap} {L : Addr} {news : List (Addr × Obj)} {M : Model} {pos : Pos} {u l : Addr} {first : List Value} {env : Env} {e : Expr} {rest : List Expr} {Q : Value → Shared → Prop} (_N : News h₀ L s.heap news) (_hm : (u, mwObj l) ∈ news)
    (h : wpAny M A (spliced (backTo pos (starEach (e :: rest) env))) (fun vs s₁ => MwAt u l s₁.heap ∧ wpAny M A (call (.ref u) (first ++ vs)) Q E s₁) E s)
    (he : starEach (e :: rest) env = (false, eval e env) :: starEach rest env := by rfl) (hplain : (backTo pos (starEach rest env)).any (·.1) = false := by rfl) :
    wpAny M A (callWith pos (.ref u) first (backTo pos (starEach (e :: rest) env)) []) Q E s := by
  rw [he] at h ⊢
  refine callWith_mwf (l := l) (by show (false || (backTo pos (starEach rest env)).any (·.1)) = false; rw [hplain]; rfl) ?_
  exact evalArgs_plain h
end
end
section
open PySem PySem.W PyProof.Rows PySem.Calls
set_option maxRecDepth 100000
def ltObj (l : Addr) (i : Nat) : Obj := { cls := .type "list_iterator", data := .fields #[.ref l, .int i 0] }
section
variable {prog : Program} {w : World} {A : Around} {E : Value → Shared → Prop} {s : Shared} {h₀ : Heap} {L : Addr} {m : Str → Option Value} {news : List (Addr × Obj)} {l it : Addr} {vs : List Value} {n i : Nat} {Q : Value → Shared → Prop}
theorem iter_list (F : Fr h₀ L s.heap m) (N : News h₀ L s.heap news) (hm : (l, W.listOf vs.toArray n) ∈ news)
   (h : ∀ D h', Fr h₀ L h' m → News h₀ L h' ((D, ltObj l 0) :: news) → (∀ p ∈ news, p.1 < D) → Q (.ref D) { s with heap := h' }) :
   wpAny (model prog w) A (call (.builtin "iter") [.ref l]) Q E s := by
  refine call_function_entry (by decide +kernel) (by decide +kernel) kdk_entry_iter (kdk_args_iter _) ?_
  unfold Builtin.«iter»
  refine wpAny_bind (m := someArgs "iter" 1 2 _) (wpAny_of_eq (a := [Value.ref l]) (by first | rfl | kernel_rfl!) ?_)
  show wpAny _ _ (pyIter (.ref l) >>= _) _ _ _
  refine wpAny_bind (wpAny_pyIter_list (items := vs.toArray) ⟨_, (N _ hm).1, rfl, n, rfl⟩ ?_)
  exact wpAny_pure ⟨_, rfl, h _ _ (F.push _) (N.push F _) fun p hp => Heap.lt_size (N p hp).1⟩

theorem next_item {x : Value} {news : List (Addr × Obj)} (F : Fr h₀ L s.heap m) (N : News h₀ L s.heap ((it, ltObj l i) :: news)) (hne : ∀ p ∈ news, p.1 ≠ it) (hm : (l, W.listOf vs.toArray n) ∈ news) (hx : vs[i]? = some x)
   (h : ∀ h', Fr h₀ L h' m → News h₀ L h' ((it, ltObj l (i+1)) :: news) → Q x { s with heap := h' }) :
   wpAny (model prog w) A (call (.builtin "next") [.ref it]) Q E s := by
  have ho := (N _ (.head _)).1
  have hol := (N _ (.tail _ hm)).1
  have hit : s.TypeIs (.ref it) "list_iterator" := ⟨_, ho, rfl⟩
  refine call_function_entry (by decide +kernel) (by decide +kernel) kdk_entry_next (kdk_args_next _) ?_
  unfold Builtin.«next»
  refine wpAny_bind (m := someArgs "next" 1 2 _) (wpAny_of_eq (a := [Value.ref it]) (by first | rfl | kernel_rfl!) ?_)
  dsimp only
  refine wpAny_bind (wpAny_specialOf (name := Str.ofString "__next__") hit slot_listiter_next.lookup ?_)
  refine wpAny_ite_split (fun hab => absurd hab (by decide)) (fun _ => ?_)
  refine wpAny_bind (wpAny_callSpecial?_slot (name := Str.ofString "__next__") hit slot_listiter_next
    (wpAny_call_entry slot_listiter_next hit entry_listiter_next ?_ (args_listiter_next _)))
  show wpAny _ _ (field (.ref it) 0 >>= _) _ _ s
  refine wpAny_bind (wpAny_field ho rfl (x := .ref l) rfl ?_)
  show wpAny _ _ (if (Value.ref l == Value.none) = true then _ else _) _ _ s
  rw [if_neg (show ¬ ((Value.ref l == Value.none) = true) from Bool.false_ne_true)]
  show wpAny _ _ (field (.ref it) 1 >>= _) _ _ s
  refine wpAny_bind (wpAny_field ho rfl (x := .int i 0) rfl ?_)
  show wpAny _ _ (seqItems? (.ref l) >>= _) _ _ s
  refine wpAny_bind (wpAny_seqItems hol rfl ?_)
  have hx' : vs.toArray[i]? = some x := by simpa using hx
  simp only [Int.toNat_natCast, hx']
  refine wpAny_bind (wpAny_setField ho rfl (by simp) (wpAny_pure ⟨x, rfl, wpAny_pure ⟨_, rfl, ?_⟩⟩))
  have hm1 := N _ (List.Mem.head _)
  refine h _ (F.change (Heap.SameBut.update ..) hm1.2.1 hm1.2.2) ((show News h₀ L s.heap ([] ++ (it, ltObj l i) :: news) from N).setIn (fun _ h9 => nomatch h9) hne (Heap.SameBut.update ..) ?_)
  exact Heap.get?_update_self _ ho (Obj.isFreed_of_fields (Obj.data_mapFields rfl _))
theorem next_end {news : List (Addr × Obj)} (hh : A.handled = none) (F : Fr h₀ L s.heap m) (N : News h₀ L s.heap ((it, ltObj l i) :: news)) (hne : ∀ p ∈ news, p.1 ≠ it) (hm : (l, W.listOf vs.toArray n) ∈ news) (hx : vs[i]? = none)
   (h : ∀ h1 h' e, Fr h₀ L h1 m → News h₀ L h1 news → Heap.NewExc h1 h' e "StopIteration" → E (.ref e) { s with heap := h' }) :
   wpAny (model prog w) A (call (.builtin "next") [.ref it]) Q E s := by
  have ho := (N _ (.head _)).1
  have hol := (N _ (.tail _ hm)).1
  have hit : s.TypeIs (.ref it) "list_iterator" := ⟨_, ho, rfl⟩
  refine call_function_entry (by decide +kernel) (by decide +kernel) kdk_entry_next (kdk_args_next _) ?_
  unfold Builtin.«next»
  refine wpAny_bind (m := someArgs "next" 1 2 _) (wpAny_of_eq (a := [Value.ref it]) (by first | rfl | kernel_rfl!) ?_)
  dsimp only
  refine wpAny_bind (wpAny_specialOf (name := Str.ofString "__next__") hit slot_listiter_next.lookup ?_)
  refine wpAny_ite_split (fun hab => absurd hab (by decide)) (fun _ => ?_)
  refine wpAny_bind (wpAny_callSpecial?_slot (name := Str.ofString "__next__") hit slot_listiter_next
    (wpAny_call_entry slot_listiter_next hit entry_listiter_next ?_ (args_listiter_next _)))
  show wpAny _ _ (field (.ref it) 0 >>= _) _ _ s
  refine wpAny_bind (wpAny_field ho rfl (x := .ref l) rfl ?_)
  show wpAny _ _ (if (Value.ref l == Value.none) = true then _ else _) _ _ s
  rw [if_neg (show ¬ ((Value.ref l == Value.none) = true) from Bool.false_ne_true)]
  show wpAny _ _ (field (.ref it) 1 >>= _) _ _ s
  refine wpAny_bind (wpAny_field ho rfl (x := .int i 0) rfl ?_)
  show wpAny _ _ (seqItems? (.ref l) >>= _) _ _ s
  refine wpAny_bind (wpAny_seqItems hol rfl ?_)
  have hx' : vs.toArray[i]? = none := by simpa using hx
  simp only [Int.toNat_natCast, hx']
  refine wpAny_bind (wpAny_rule (wpAny_bind (wpAny_setField ho rfl (by simp) ?_)))
  show wpAny _ _ (newExc (.type "StopIteration") [] >>= _) _ _ _
  refine wpAny_bind ?_
  simp only [newExc, newTuple]
  refine wpAny_bind (wpAny_newObj_type ?_ (by size_fits))
  refine wpAny_bind (m := firstArgMember _ _) (wpAny_of_eq (a := Value.none) (by first | rfl | (simp only [firstArgMember]; rfl)) ?_)
  refine wpAny_newObj_type ?_ (by size_fits)
  simp only [raiseNew]
  refine wpAny_bind (wpAny_handled ?_)
  rw [show A.in1.in1.handled = none from hh]
  refine wpAny_bind (wpAny_pure (wpAny_throw ?_))
  have hm1 := N _ (List.Mem.head _)
  generalize hu : s.heap.update it _ = h1
  have F1 : Fr h₀ L h1 m := hu ▸ F.change (Heap.SameBut.update ..) hm1.2.1 hm1.2.2
  have N1 : News h₀ L h1 news := fun q hq => hu ▸ ⟨(Heap.get?_update_other _ _ (Ne.symm (hne q hq))).trans (N q (.tail _ hq)).1, (N q (.tail _ hq)).2⟩
  refine h h1 _ _ F1 N1 ⟨fun b o e => Heap.get?_push_of_some _ (Heap.get?_push_of_some _ e), ?_, ⟨_, _, Heap.get?_push_size _ rfl, rfl, rfl⟩⟩
  cases q : h1.get? (h1.push _).objs.size with
  | none => rfl
  | some o => exact absurd (Heap.lt_size q) (by simp)
end
end
section
open PySem PySem.W PyProof.Rows PySem.Calls
set_option maxRecDepth 100000
def LRest (prog : Program) (w : World) (A : Around) (E : Value → Shared → Prop) (S x : Addr) (Q : Shared → Prop) : Nat → Shared → Prop
  | 0, _ => False
  | n + 1, s => wpAny (model prog w) A (pyNext (.ref x)) (fun r s₁ => match r with
      | none => Q s₁
      | some v => wpAny (model prog w) A (updateSeq S (·.push v)) (fun _ s₂ => LRest prog w A E S x Q n s₂) E s₁) E s
section
variable {prog : Program} {w : World} {A : Around} {E : Value → Shared → Prop} {s : Shared} {h₀ : Heap} {L : Addr} {m : Str → Option Value} {news : List (Addr × Obj)} {S x C fi fn : Addr} {K : Frag} {ox : Obj} {od : Option Obj} {n : Nat} {Q : Value → Shared → Prop}
theorem loop_own {R : Result → Shared → Prop} : ∀ (n : Nat) (s : Shared), LRest prog w A.in1 (fun e s' => R (.error e) s') S x (fun s' => R (.ok (.ret .none)) s') n s →
    codeAny (model prog w) A (.builtin "list.extend.loop" ⟨[.ref S, .ref x, .none], []⟩) R s
  | 0, _, h => h.elim
  | n + 1, s, h => by
    refine codeAny_builtin F.entry_extend_loop ?_
    rw [Around.under_plainId F.plain_extend_loop _]
    show wpAny _ A.in1 (pyNext (.ref x) >>= _) _ _ s
    refine wpAny_bind (wpAny_mono h (fun r s₁ h₁ => ?_) fun _ _ z => z)
    cases r with
    | none => exact wpAny_pure h₁
    | some v =>
      show wpAny _ A.in1 (updateSeq S (·.push v) >>= _) _ _ _
      refine wpAny_bind (wpAny_mono h₁ (fun _ s₂ h₂ => ?_) fun _ _ z => z)
      exact wpAny_pure ⟨plainId_quiet F.plain_extend_loop _, loop_own n s₂ h₂⟩
theorem LRest.mono {E' : Value → Shared → Prop} {Q Q' : Shared → Prop} (hE : ∀ e s, E e s → E' e s) (hQ : ∀ s, Q s → Q' s) : ∀ {n : Nat} {s : Shared}, LRest prog w A E S x Q n s → LRest prog w A E' S x Q' n s
  | 0, _, h => h.elim
  | n + 1, s, h => wpAny_mono h (fun r s₁ h₁ => by
      cases r with
      | none => exact hQ _ h₁
      | some v => exact wpAny_mono h₁ (fun _ s₂ h₂ => LRest.mono hE hQ h₂) hE) hE
theorem call_list_own (F₀ : Fr h₀ L s.heap m) (N : News h₀ L s.heap news) (X₀ : K.In h₀) (I : ∀ h, Fr h₀ L h m → News h₀ L h news → InstAt h x ox C od)
   (hlen : findIn K (.ref C) "__len__" = some none) (hhint : findIn K (.ref C) "__length_hint__" = some none)
   (hit : findIn K (.ref C) "__iter__" = some (some (.ref fi))) (hfi : isFn K (.ref fi) = true) (hnx : findIn K (.ref C) "__next__" = some (some (.ref fn))) (hC : ∀ T, Value.ref C ≠ .type T)
   (hI : ∀ S c h1 tk (Q' : Value → Shared → Prop) (E' : Value → Shared → Prop), (∀ p ∈ news, p.1 < S) → Fr h₀ L h1 m → News h₀ L h1 ((S, W.listOf #[] c) :: news) → (∀ h' tk', Fr h₀ L h' m → News h₀ L h' ((S, W.listOf #[] c) :: news) → Q' (.ref x) {s with heap := h', toks := tk'}) → wpAny (model prog w) A.in1.in1 (call (.ref fi) [.ref x]) Q' E' {s with heap := h1, toks := tk})
   (k : ∀ S c h1 tk, (∀ p ∈ news, p.1 < S) → Fr h₀ L h1 m → News h₀ L h1 ((S, W.listOf #[] c) :: news) → LRest prog w A.in1.in1 E S x (Q (.ref S)) n {s with heap := h1, toks := tk}) :
   wpAny (model prog w) A (call (.type "list") [.ref x]) Q E s := by
  have hxs : x < s.heap.objs.size := Heap.lt_size (I _ F₀ N).at_
  refine callType_codes (Q₁ := fun obj s₁ => obj = .ref s.heap.objs.size ∧ s₁ = { s with heap := s.heap.push { cls := .type "list", data := .seq #[] } }) F.called_list (F.typeCall_list_1 _) F.entry_list_init
    (code_list_new _ ⟨rfl, rfl⟩) fun obj s₁ h₁ => ?_
  obtain ⟨rfl, rfl⟩ := h₁
  have hlt : ∀ p ∈ news, p.1 < s.heap.objs.size := fun p hp => Heap.lt_size (N p hp).1
  have F1 : Fr h₀ L (s.heap.push (W.listOf #[] 0)) m := F₀.push _
  have N1 : News h₀ L (s.heap.push (W.listOf #[] 0)) ((s.heap.objs.size, W.listOf #[] 0) :: news) := N.push F₀ _
  show _ ∧ _ ∧ wpAny _ A.in1.in1 _ _ _ { s with heap := s.heap.push (W.listOf #[] 0) }
  generalize s.heap.push (W.listOf #[] 0) = hp at F1 N1
  generalize s.heap.objs.size = S at N1 hlt hxs ⊢
  have hS := (N1 _ (.head _)).1
  refine ⟨⟨_, hS, rfl⟩, F.args_list_init_2 _ _, ?_⟩
  show wpAny _ A.in1.in1 (do let old ← Builtin.List.listItems (.ref S); Builtin.List.listUpdate (.ref S) (fun _ => #[]); letGo old.toList.reverse; Builtin.List.listExtendWith (.ref S) (.ref x) .none) _ _ _
  refine wpAny_bind ?_
  unfold Builtin.List.listItems
  refine wpAny_bind (wpAny_seqItems hS rfl (wpAny_pure ?_))
  show wpAny _ A.in1.in1 (updateSeq S (fun _ => #[]) >>= fun _ => letGo (#[] : Array Value).toList.reverse >>= fun _ => Builtin.List.listExtendWith (.ref S) (.ref x) .none) _ _ _
  have hne : ∀ p ∈ news, p.1 ≠ S := fun p hp => Nat.ne_of_lt (hlt p hp)
  have upd : ∀ (h : Heap) (o : Obj) (f : Obj → Obj), (f o).isFreed = false → Fr h₀ L h m → News h₀ L h ((S, o) :: news) → Fr h₀ L (h.update S f) m ∧ News h₀ L (h.update S f) ((S, f o) :: news) := fun h o f hf F N =>
    ⟨F.change (Heap.SameBut.update ..) (N _ (.head _)).2.1 (N _ (.head _)).2.2, (show News h₀ L h ([] ++ (S, o) :: news) from N).setIn (fun _ h9 => nomatch h9) hne (Heap.SameBut.update ..) (Heap.get?_update_self _ (N _ (.head _)).1 hf)⟩
  refine wpAny_bind (wpAny_updateSeq hS rfl ?_)
  obtain ⟨F2, N2⟩ := upd _ _ (Obj.mapSeq (fun _ => (#[] : Array Value))) rfl F1 N1
  refine wpAny_bind (wpAny_letGo ?_)
  generalize hp.update S _ = h2 at F2 N2 ⊢
  unfold Builtin.List.listExtendWith
  refine wpAny_bind ((I _ F2 fun q hq => N2 q (.tail _ hq)).type.here ?_)
  have e1 : Builtin.List.listSameRef (.ref S) (.ref x) = false := by simp only [Builtin.List.listSameRef, beq_eq_false_iff_ne]; exact Ne.symm (Nat.ne_of_lt hxs)
  have e2 : ∀ T, (Value.ref C == Value.type T) = false := fun T => rfl
  simp only [e1, e2, Bool.or_false, Bool.false_eq_true, if_false]
  refine wpAny_bind (owit_iter F2 X₀ (I _ F2 fun q hq => N2 q (.tail _ hq)) hit hfi (hI S _ h2 _ _ _ hlt F2 N2 fun h3 tk3 F3 N3 => ?_))
  have I3 := I _ F3 fun q hq => N3 q (.tail _ hq)
  refine owit_it F3 X₀ I3 hnx ?_
  refine wpAny_bind (wpAny_holding ?_)
  unfold Builtin.List.listLengthHint
  have hn : ∀ name, findIn K (.ref C) name = some none → ∀ (A' : Around) {Q' : Option Value → Shared → Prop} {E' : Value → Shared → Prop}, Q' none { s with heap := h3, toks := tk3 } → wpAny (model prog w) A' (specialOf (.ref x) name) Q' E' { s with heap := h3, toks := tk3 } := fun name e A' Q' E' hq => wpAny_bind (I3.type.here ((looks_findIn (X₀.keeps F3.keep) e).here hq))
  refine wpAny_bind (hn _ hlen _ ?_)
  refine wpAny_bind (hn _ hhint _ ?_)
  refine wpAny_pure ?_
  show wpAny _ A.in1.in1 (rule "list.extend.makes-room" >>= fun _ => Builtin.List.listTouch (.ref S) >>= fun _ =>
    again (.builtin "list.extend.loop" ⟨[.ref S, .ref x, .none], []⟩)) _ _ _
  refine wpAny_bind (wpAny_rule ?_)
  refine wpAny_bind ?_
  show wpAny _ A.in1.in1 (updateSeq S (·.push .none) >>= fun _ => updateSeq S (·.pop)) _ _ _
  have hS3 := (N3 _ (.head _)).1
  refine wpAny_bind (wpAny_updateSeq hS3 rfl ?_)
  obtain ⟨F4, N4⟩ := upd _ _ (Obj.mapSeq (·.push Value.none)) rfl F3 N3
  generalize h3.update S _ = h4 at F4 N4 ⊢
  refine wpAny_updateSeq (N4 _ (.head _)).1 rfl ?_
  obtain ⟨F5, N5⟩ := upd _ _ (Obj.mapSeq (·.pop)) rfl F4 N4
  generalize h4.update S _ = h5 at F5 N5 ⊢
  refine wpAny_pure ⟨plainId_quiet F.plain_extend_loop _, loop_own n _ ?_⟩
  exact LRest.mono (fun _ _ h => h) (fun _ h => ⟨rfl, h⟩) (k S _ h5 tk3 hlt F5 N5)
end
end
section
open PySem PySem.W PyProof.Rows PySem.Calls
local macro_rules | `(tactic| walk_at "call ref") => `(tactic| (k_here; (fail_if_success (with_reducible show wpAny _ _ (call (Value.ref 47) _ _) _ _ _)); refine hold_on ?_))
local macro_rules | `(tactic| k_room) => `(tactic| ktr_room)
local macro_rules | `(tactic| k_all) => `(tactic| first | with_reducible assumption | exact ne_tail (by with_reducible assumption) (by omega) | exact ne_tail1 (by with_reducible assumption) (by omega))
local macro_rules | `(tactic| ktr_enter) => `(tactic| (refine' code_defC ?k1 ?k2 ?k3 ?k4 ?k5 ?kA ?kF ?kK ?k6 ?k7 ?k8 ?k9 ?kB ?kD ?_ ?c2 ?c3 ?c4; (case kA => exact rfl); (case kF => exact rfl); (case kK => assumption); (case k1 => k_asm); (case k2 => k_asm); (case k3 => k_asm); (case k4 => k_asm); (case k5 => k_asm); (case k6 => k_is); (case k7 => k_is); (case k8 => ktr_room); (case k9 => exact BindsTo.of_eq rfl); (case kB => exact rfl); (case kD => decide +kernel); (case c2 => exact rfl); (case c3 => exact rfl); (case c4 => exact rfl); k_whole; intro g' L' h' tk' cells' FG' F' N' Y' B' X' T' l1; (try k_lt l1); k_cells Y'; (try simp only [List.cons_append, List.nil_append] at N'); (try dsimp only); (try k_lift B'); (try k_fold)))
local macro_rules | `(tactic| walk_at "binaryOp Mult ref int") => `(tactic| (k_here; (with_reducible show wpAny _ _ (binaryOp Operator.Mult (Value.ref _) (Value.int _ _)) _ _ _); k_dflt (refine' mul_rep ?k1 ?k2 ?k3 ?k4 ?k5 ?_; (case k1 => k_asm); (case k2 => k_asm); (case k3 => k_mem); (case k4 => omega); (case k5 => omega); k_whole); intro D' vs' h' F' N' hi' l1; (try k_lt l1); (try k_sweep)))
local macro_rules | `(tactic| walk_at "call builtin:len") => `(tactic| (k_here; (with_reducible show wpAny _ _ (call (Value.builtin "len") [Value.ref _]) _ _ _); k_dflt (refine' len_ints_fit ?k1 ?k2 ?k3 ?_; (case k1 => exact News.isList (by assumption) (by k_mem)); (case k2 => with_reducible assumption); (case k3 => (simp only [List.length_replicate] at *; omega)); k_whole); (try simp only [List.length_replicate])))
local macro_rules | `(tactic| kn_enter) => `(tactic| (refine' code_nest ?k1 ?k2 ?k3 ?k4 ?k5 ?kA ?kF ?kK ?k6 ?k7 ?k8 ?k9 ?kB ?_ ?c2 ?c3 ?c4 ?c5; (case kA => exact rfl); (case kF => exact rfl); (case kK => assumption); (case k1 => k_asm); (case k2 => k_asm); (case k3 => k_asm); (case k4 => k_asm); (case k5 => k_asm); (case k6 => k_mem); (case k7 => exact codeRec_news (by k_asm) (by k_mem) (by assumption) (by assumption)); (case k8 => ktr_room); (case k9 => exact BindsTo.of_eq rfl); (case c5 => decide); (case kB => exact locs rfl); (case c2 => exact rfl); (case c3 => exact rfl); (case c4 => exact rfl); k_whole; intro g' L' h' FG' F' N' B' X' T'; (try dsimp only); (try k_lift B'); (try k_fold)))
local macro_rules | `(tactic| kqd_sub) => `(tactic| (intro p9 h9; repeat (first | exact h9 | refine List.Mem.tail _ ?_)))
local macro_rules | `(tactic| k_mem) => `(tactic| first | exact List.Mem.head _ | (refine' List.Mem.tail _ ?_; k_mem) | with_reducible assumption | assumption)
local macro_rules | `(tactic| walk_at "truthy ref") => `(tactic| (k_here; (with_reducible show wpAny _ _ (truthy (Value.ref _)) _ _ _); (with_unfolding_all refine' truthy_ints_fit ?k1 ?k2 ?k3 ?_; (case k1 => exact News.isList (by assumption) (by k_mem)); (case k2 => with_reducible assumption); (case k3 => omega); k_whole)))
local macro_rules | `(tactic| walk_at "pyIter ref") => `(tactic| (k_here; refine hold_on ?_))
local macro_rules | `(tactic| walk_at "call builtin:list.append") => `(tactic| (k_here; k_dflt (refine' append_L ?k1 ?k2 ?k3 ?k4 ?_; (case k1 => k_asm); (case k2 => k_asm); (case k3 => k_upd); (case k4 => first | omega | (simp only [List.length_nil]; omega)); k_whole); intro h' F' N'; (try k_sweep)))
local macro_rules | `(tactic| walk_at "call builtin:list.reverse") => `(tactic| (k_here; k_dflt (refine' reverse_L ?k1 ?k2 ?k3 ?k4 ?_; (case k1 => k_asm); (case k2 => k_asm); (case k3 => k_upd); (case k4 => omega); k_whole); intro h' F' N'; (try k_sweep)))

local macro_rules | `(tactic| walk_at "getAttr ref") => `(tactic| (k_here; (with_reducible show wpAny _ _ (getAttr (Value.ref _) (Str.ofString "__contains__") true) _ _ _); k_dflt (refine' getAttr_mw ?k1 ?k2 ?k3 ?_; (case k1 => k_asm); (case k2 => k_asm); (case k3 => k_mem); k_whole); intro D' h' tk' F' N' l1; (try k_lt l1); (try k_sweep)))
local macro_rules | `(tactic| walk_at "call builtin:iter") => `(tactic| (k_here; (with_reducible show wpAny _ _ (call (Value.builtin "iter") [Value.ref _]) _ _ _); k_dflt (refine' iter_list ?k1 ?k2 ?k3 ?_; (case k1 => k_asm); (case k2 => k_asm); (case k3 => k_mem); k_whole); intro D' h' F' N' l1; (try k_lt l1); (try k_sweep)))
local macro_rules | `(tactic| walk_at "exec") => `(tactic| (k_here; (with_reducible show wpAny _ _ (exec (Stmt.While _ _ _ _) _) _ _ _); refine hold_on ?_))
local macro_rules | `(tactic| walk_at "call builtin:next") => `(tactic| (k_here; refine hold_on ?_))
local macro_rules | `(tactic| walk_at "leaving ref") => `(tactic| (k_here; refine hold_on ?_))
def HoldP (p : Prop) : Prop := p
theorem hold_p {p : Prop} (h : HoldP p) : p := h
local macro_rules | `(tactic| walk_at "WhlRest") => `(tactic| (refine hold_p ?_))
section
variable {w : World} {p : Program} {loose : List Str} {mean : ExcName → Option Value} {mg mb : Str → Option Value}
   {dp un : Nat} {gd : Option (List Code)} {cn : Str} {cs : Scope} {a : Addr} {ccd : Value} {cl : List (Str × Addr)} {outer : List Env} {A₀ : Around} {base h₀ : Heap} {L : Addr} {m : Str → Option Value} {s : Shared} {Q E : Value → Shared → Prop} {news : List (Addr × Obj)}


def ffObj (mw it d : Addr) : Obj := { cls := .ref 47, dict := some d, slots := #[some (.ref mw), some (.ref it)] }
theorem ints_at : ∀ {vs : List Value} {xs : List Int}, IntsAre vs xs → ∀ (j : Nat) (h : j < xs.length), ∃ t, vs[j]? = some (.int xs[j] t)
  | _, _, .nil, j, h => absurd h (Nat.not_lt_zero _)
  | _, _, .cons _ _ _, 0, _ => ⟨_, rfl⟩
  | _, _, .cons _ _ hr, j + 1, h => ints_at hr j (Nat.lt_of_succ_lt_succ h)
theorem fr_item {g h : Heap} {L : Addr} {m : Str → Option Value} {x : Str} (F : Fr g L h m) (hm : m x = none) : Fr g L h (fun y => if y = x then none else m y) := by
  have e : (fun y => if y = x then none else m y) = m := by
    funext y
    by_cases h1 : y = x
    · simp [h1, hm]
    · simp [h1]
  rw [e]; exact F
theorem fr_item2 {g h : Heap} {L : Addr} {m : Str → Option Value} {x : Str} {u v : Option Value} (F : Fr g L h (fun y => if y = x then v else if y = x then u else m y)) : Fr g L h (fun y => if y = x then v else m y) := by
  have e : (fun y => if y = x then v else if y = x then u else m y) = (fun y => if y = x then v else m y) := by
    funext y
    by_cases h1 : y = x <;> simp [h1]
  rw [← e]; exact F
theorem next_ind {prog : Program} {w : World} {A : Around} {E : Value → Shared → Prop} {Q : Flow → Shared → Prop} {env : Env} {test : Expr} {body : List Stmt} {pos : Pos} {g h : Heap} {L it fl : Addr} {m0 : Str → Option Value} {news : List (Addr × Obj)} {i tk : Nat} (s : Shared) (x : Str) (len : Nat) (Ret : Nat → Prop)
   (F2 : Fr g L h m0) (N2 : News g L h ((it, ltObj fl i) :: news)) (hm : m0 x = none) (hR : Ret i) (hE : PassesOwn (model prog w) A env E)
   (turn : ∀ i u h1 tk1, Ret i → Fr g L h1 (fun y => if y = x then u else m0 y) → News g L h1 ((it, ltObj fl i) :: news) →
      (∀ j u' h2 tk2, i < j → j ≤ len → Ret j → Fr g L h2 (fun y => if y = x then u' else m0 y) → News g L h2 ((it, ltObj fl j) :: news) → WhlRest prog w A E env test body [] Q 0 { s with heap := h2, toks := tk2 }) →
      wpAny (model prog w) A (isTrue test env (eval test env)) (fun b s₂ => WhlIf b (wpAny (model prog w) A (execs body env) (WhlPost prog w A E env test body [] Q 0) E s₂) (wpAny (model prog w) A (execs [] env) Q E s₂)) E { s with heap := h1, toks := tk1 }) :
   wpAny (model prog w) A (exec (.While test body [] pos) env) Q E { s with heap := h, toks := tk } := by
  refine whl_start 0 ?_
  have key : ∀ n i u h1 tk1, len + 1 - i = n → Ret i → Fr g L h1 (fun y => if y = x then u else m0 y) → News g L h1 ((it, ltObj fl i) :: news) → WhlRest prog w A E env test body [] Q 0 { s with heap := h1, toks := tk1 } := by
    intro n
    induction n using Nat.strongRecOn with
    | _ n ih =>
      intro i u h1 tk1 hn hR F N
      refine whl_turn (k := 0) hE (turn i u h1 tk1 hR F N fun j u' h2 tk2 hj hl hR' F' N' => ?_)
      exact ih (len + 1 - j) (by omega) j u' h2 tk2 rfl hR' F' N'
  exact key _ i none h tk rfl hR (fr_item F2 hm) N2
set_option maxRecDepth 100000 in
set_option maxHeartbeats 8000000 in
theorem c_next {fl sk it x d mw : Addr} {vs ws : List Value} {xs ys : List Int} {c1 c2 i : Nat}
   (B : Below A₀ base outer h₀) (F : Fr h₀ L s.heap m) (X : (hd.heap_39 w.params).In h₀) (N : News h₀ L s.heap ((it, ltObj fl i) :: news)) (T : Top p loose mean mg mb h₀) (hk : cs.kind = .function)
   (hd1 : dp + 10 < recursionLimit) (hu1 : un + 100 < cLine) (hne : ∀ p ∈ news, p.1 ≠ it)
   (hx : (x, ffObj mw it d) ∈ news) (hdd : (d, dictOf [] 0) ∈ news) (hmw : (mw, mwObj sk) ∈ news)
   (hfl : (fl, W.listOf vs.toArray c1) ∈ news) (hsk : (sk, W.listOf ws.toArray c2) ∈ news) (hI : IntsAre vs xs) (hJ : IntsAre ws ys)
   (hret : ∀ j y t h' tk', (xs.drop i).filter (· ∉ ys) = y :: (xs.drop j).filter (· ∉ ys) → i < j → Fr h₀ L h' m → News h₀ L h' ((it, ltObj fl j) :: news) → Q (.int y t) { s with heap := h', toks := tk' })
   (hend : ∀ g' e h' tk', (xs.drop i).filter (· ∉ ys) = [] → Fr h₀ L g' m → RaisedSN base g' (envX cn cs L a ccd cl :: outer) e (.type "StopIteration") news h' → g'.UpToSlots h' → E (.ref e) { s with heap := h', toks := tk' }) :
   wpAny (model PySem.Challenge.rw_ik0137_01.row.prog w) (ktrTop dp un gd cn cs L a ccd cl outer) (call (.ref 43) [.ref x]) Q E s := by
  revert X; k_fill; intro X
  refine wpAny_call ?_
  k_dflt cell_enter
  k_steps
  rename Fr _ _ _ _ => F2
  rename News _ _ _ _ => N2
  unfold Hold
  refine next_ind s (Str.ofString "item") xs.length (fun j => i ≤ j ∧ (xs.drop i).filter (· ∉ ys) = (xs.drop j).filter (· ∉ ys)) F2 N2 rfl ⟨Nat.le_refl _, rfl⟩ (by passes_own) ?_
  clear F2 N2
  intro j u h1 tk1 hR F2 N2 ih
  k_steps
  rename Fr _ _ _ _ => F3
  rename News _ _ _ _ => N3
  unfold Hold
  rcases Nat.lt_or_ge j xs.length with hlt | hge
  · obtain ⟨t, hv⟩ := ints_at hI j hlt
    refine next_item F3 N3 hne hfl hv ?_
    clear F3 N3
    intro h3 F3 N3
    k_steps
    refine callWith_mw (l := sk) (by k_asm) (by k_mem) ?_
    k_steps
    · rename News _ _ _ _ => N5
      exact (N5 _ (.tail _ hmw)).1
    · rename News _ _ _ _ => N5
      unfold Hold
      refine call_mw (N5 _ (.tail _ hmw)).1 (N5 _ (.tail _ hsk)).1 (by assumption) ?_
      have hdrop : (xs.drop j).filter (· ∉ ys) = if xs[j] ∈ ys then (xs.drop (j+1)).filter (· ∉ ys) else xs[j] :: (xs.drop (j+1)).filter (· ∉ ys) := by
        rw [List.drop_eq_getElem_cons hlt]
        by_cases hin : xs[j] ∈ ys
        · rw [List.filter_cons_of_neg (by simp [hin]), if_pos hin]
        · rw [List.filter_cons_of_pos (by simp [hin]), if_neg hin]
      by_cases hin : xs[j] ∈ ys
      · rw [decide_eq_true hin]
        rw [if_pos hin] at hdrop
        k_steps
        unfold HoldP
        exact ih (j + 1) _ _ _ (Nat.lt_succ_self j) hlt ⟨Nat.le_succ_of_le hR.1, hR.2.trans hdrop⟩ (fr_item2 (by assumption)) (by assumption)
      · rw [decide_eq_false hin]
        rw [if_neg hin] at hdrop
        k_steps
        exact hret (j + 1) _ _ _ _ (hR.2.trans hdrop) (Nat.lt_succ_of_le hR.1) (by assumption) (by assumption)
  · have hv : vs[j]? = none := by
      rw [List.getElem?_eq_none]; rw [hI.length]; exact hge
    refine next_end rfl F3 N3 hne hfl hv ?_
    clear F3 N3
    intro h3 h4 e F3 N3 hx9
    k_steps
    unfold Hold
    refine leave_newS (by assumption) hx9 (by assumption) (by assumption) fun h5 R R0 U => ?_
    refine hend _ _ _ _ ?_ (by assumption) R U
    rw [hR.2, List.drop_eq_nil_of_le hge]; rfl
end
end
section
open PySem PySem.W PyProof.Rows PySem.Calls
local macro_rules | `(tactic| walk_at "call ref") => `(tactic| (k_here; (fail_if_success (with_reducible show wpAny _ _ (call (Value.ref 47) _ _) _ _ _)); refine hold_on ?_))
local macro_rules | `(tactic| k_room) => `(tactic| ktr_room)
local macro_rules | `(tactic| k_all) => `(tactic| first | with_reducible assumption | exact ne_tail (by with_reducible assumption) (by omega) | exact ne_tail1 (by with_reducible assumption) (by omega))
local macro_rules | `(tactic| ktr_enter) => `(tactic| (refine' code_defC ?k1 ?k2 ?k3 ?k4 ?k5 ?kA ?kF ?kK ?k6 ?k7 ?k8 ?k9 ?kB ?kD ?_ ?c2 ?c3 ?c4; (case kA => exact rfl); (case kF => exact rfl); (case kK => assumption); (case k1 => k_asm); (case k2 => k_asm); (case k3 => k_asm); (case k4 => k_asm); (case k5 => k_asm); (case k6 => k_is); (case k7 => k_is); (case k8 => ktr_room); (case k9 => exact BindsTo.of_eq rfl); (case kB => exact rfl); (case kD => decide +kernel); (case c2 => exact rfl); (case c3 => exact rfl); (case c4 => exact rfl); k_whole; intro g' L' h' tk' cells' FG' F' N' Y' B' X' T' l1; (try k_lt l1); k_cells Y'; (try simp only [List.cons_append, List.nil_append] at N'); (try dsimp only); (try k_lift B'); (try k_fold)))
local macro_rules | `(tactic| walk_at "binaryOp Mult ref int") => `(tactic| (k_here; (with_reducible show wpAny _ _ (binaryOp Operator.Mult (Value.ref _) (Value.int _ _)) _ _ _); k_dflt (refine' mul_rep ?k1 ?k2 ?k3 ?k4 ?k5 ?_; (case k1 => k_asm); (case k2 => k_asm); (case k3 => k_mem); (case k4 => omega); (case k5 => omega); k_whole); intro D' vs' h' F' N' hi' l1; (try k_lt l1); (try k_sweep)))
local macro_rules | `(tactic| walk_at "call builtin:len") => `(tactic| (k_here; (with_reducible show wpAny _ _ (call (Value.builtin "len") [Value.ref _]) _ _ _); k_dflt (refine' len_ints_fit ?k1 ?k2 ?k3 ?_; (case k1 => exact News.isList (by assumption) (by k_mem)); (case k2 => with_reducible assumption); (case k3 => (simp only [List.length_replicate] at *; omega)); k_whole); (try simp only [List.length_replicate])))
local macro_rules | `(tactic| kn_enter) => `(tactic| (refine' code_nest ?k1 ?k2 ?k3 ?k4 ?k5 ?kA ?kF ?kK ?k6 ?k7 ?k8 ?k9 ?kB ?_ ?c2 ?c3 ?c4 ?c5; (case kA => exact rfl); (case kF => exact rfl); (case kK => assumption); (case k1 => k_asm); (case k2 => k_asm); (case k3 => k_asm); (case k4 => k_asm); (case k5 => k_asm); (case k6 => k_mem); (case k7 => exact codeRec_news (by k_asm) (by k_mem) (by assumption) (by assumption)); (case k8 => ktr_room); (case k9 => exact BindsTo.of_eq rfl); (case c5 => decide); (case kB => exact locs rfl); (case c2 => exact rfl); (case c3 => exact rfl); (case c4 => exact rfl); k_whole; intro g' L' h' FG' F' N' B' X' T'; (try dsimp only); (try k_lift B'); (try k_fold)))
local macro_rules | `(tactic| kqd_sub) => `(tactic| (intro p9 h9; repeat (first | exact h9 | refine List.Mem.tail _ ?_)))
local macro_rules | `(tactic| k_mem) => `(tactic| first | exact List.Mem.head _ | (refine' List.Mem.tail _ ?_; k_mem) | with_reducible assumption | assumption)
local macro_rules | `(tactic| walk_at "truthy ref") => `(tactic| (k_here; (with_reducible show wpAny _ _ (truthy (Value.ref _)) _ _ _); (with_unfolding_all refine' truthy_ints_fit ?k1 ?k2 ?k3 ?_; (case k1 => exact News.isList (by assumption) (by k_mem)); (case k2 => with_reducible assumption); (case k3 => omega); k_whole)))
local macro_rules | `(tactic| walk_at "pyIter ref") => `(tactic| (k_here; refine hold_on ?_))
local macro_rules | `(tactic| walk_at "call builtin:list.append") => `(tactic| (k_here; k_dflt (refine' append_L ?k1 ?k2 ?k3 ?k4 ?_; (case k1 => k_asm); (case k2 => k_asm); (case k3 => k_upd); (case k4 => first | omega | (simp only [List.length_nil]; omega)); k_whole); intro h' F' N'; (try k_sweep)))
local macro_rules | `(tactic| walk_at "call builtin:list.reverse") => `(tactic| (k_here; k_dflt (refine' reverse_L ?k1 ?k2 ?k3 ?k4 ?_; (case k1 => k_asm); (case k2 => k_asm); (case k3 => k_upd); (case k4 => omega); k_whole); intro h' F' N'; (try k_sweep)))

local macro_rules | `(tactic| walk_at "getAttr ref") => `(tactic| (k_here; (with_reducible show wpAny _ _ (getAttr (Value.ref _) (Str.ofString "__contains__") true) _ _ _); k_dflt (refine' getAttr_mw ?k1 ?k2 ?k3 ?_; (case k1 => k_asm); (case k2 => k_asm); (case k3 => k_mem); k_whole); intro D' h' tk' F' N' l1; (try k_lt l1); (try k_sweep)))
local macro_rules | `(tactic| walk_at "call builtin:iter") => `(tactic| (k_here; (with_reducible show wpAny _ _ (call (Value.builtin "iter") [Value.ref _]) _ _ _); k_dflt (refine' iter_list ?k1 ?k2 ?k3 ?_; (case k1 => k_asm); (case k2 => k_asm); (case k3 => k_mem); k_whole); intro D' h' F' N' l1; (try k_lt l1); (try k_sweep)))
local macro_rules | `(tactic| walk_at "call type:list") => `(tactic| (k_here; refine hold_on ?_))
section
variable {w : World} {p : Program} {loose : List Str} {mean : ExcName → Option Value} {mg mb : Str → Option Value}
   {dp un : Nat} {gd : Option (List Code)} {cn : Str} {cs : Scope} {a : Addr} {ccd : Value} {cl : List (Str × Addr)} {outer : List Env} {A₀ : Around} {base h₀ : Heap} {L : Addr} {m : Str → Option Value} {s : Shared} {Q E : Value → Shared → Prop} {news : List (Addr × Obj)}
set_option maxRecDepth 100000 in
set_option maxHeartbeats 8000000 in
theorem c_it {x : Addr}
   (B : Below A₀ base outer h₀) (F : Fr h₀ L s.heap m) (X : (hd.heap_39 w.params).In h₀) (N : News h₀ L s.heap news) (T : Top p loose mean mg mb h₀) (hk : cs.kind = .function)
   (hd1 : dp + 10 < recursionLimit) (hu1 : un + 100 < cLine)
   (hret : ∀ h' tk', Fr h₀ L h' m → News h₀ L h' news → Q (.ref x) { s with heap := h', toks := tk' }) :
   wpAny (model PySem.Challenge.rw_ik0137_01.row.prog w) (ktrTop dp un gd cn cs L a ccd cl outer) (call (.ref 36) [.ref x]) Q E s := by
  revert X; k_fill; intro X
  refine wpAny_call ?_
  k_dflt cell_enter
  k_steps
  exact hret _ _ (by assumption) (by assumption)

theorem upd_S {S : Addr} {o : Obj} {h : Heap} (f : Obj → Obj) (hne : ∀ p ∈ news, p.1 ≠ S) (hf : (f o).isFreed = false) (F : Fr h₀ L h m) (N : News h₀ L h ((S, o) :: news)) : Fr h₀ L (h.update S f) m ∧ News h₀ L (h.update S f) ((S, f o) :: news) :=
  ⟨F.change (Heap.SameBut.update ..) (N _ (.head _)).2.1 (N _ (.head _)).2.2, (show News h₀ L h ([] ++ (S, o) :: news) from N).setIn (fun _ h9 => nomatch h9) hne (Heap.SameBut.update ..) (Heap.get?_update_self _ (N _ (.head _)).1 hf)⟩

theorem ints_snoc {us : List Value} {zs : List Int} (h : IntsAre us zs) (y : Int) (t : Tok) : IntsAre (us ++ [.int y t]) (zs ++ [y]) := IntsAre.append h (.cons y t .nil)

set_option maxRecDepth 100000 in
set_option maxHeartbeats 8000000 in
theorem c_lrest {fl sk it x d mw S : Addr} {vs ws : List Value} {xs ys : List Int} {c1 c2 : Nat} {Qs : Shared → Prop}
   (B : Below A₀ base outer h₀) (X : (hd.heap_39 w.params).In h₀) (T : Top p loose mean mg mb h₀) (XB : (hd.heap_39 w.params).In base) (TB : Top p loose mean mg mb base) (D : KtsDicts (outer.filterMap (·.frame)) h₀) (hk : cs.kind = .function)
   (hd1 : dp + 10 < recursionLimit) (hu1 : un + 100 < cLine) (hne : ∀ p ∈ news, p.1 ≠ it) (hneS : ∀ p ∈ news, p.1 ≠ S) (hSit : S ≠ it)
   (hx : (x, ffObj mw it d) ∈ news) (hdd : (d, dictOf [] 0) ∈ news) (hmw : (mw, mwObj sk) ∈ news)
   (hfl : (fl, W.listOf vs.toArray c1) ∈ news) (hsk : (sk, W.listOf ws.toArray c2) ∈ news) (hI : IntsAre vs xs) (hJ : IntsAre ws ys) (hsz : xs.length ≤ 100)
   (hend : ∀ h₀' us c h' tk', KtsTurn (outer.filterMap (·.frame)) h₀ h₀' → Fr h₀' L h' m → News h₀' L h' ((S, W.listOf us.toArray c) :: news) → IntsAre us (xs.filter (· ∉ ys)) → Below A₀ base outer h₀' → (hd.heap_39 w.params).In h₀' → Top p loose mean mg mb h₀' → KtsDicts (outer.filterMap (·.frame)) h₀' → Qs { s with heap := h', toks := tk' }) :
   ∀ (n i : Nat) (us : List Value) (zs : List Int) (c : Nat) (h : Heap) (tk : Nat), xs.length < zs.length + n → IntsAre us zs → zs ++ (xs.drop i).filter (· ∉ ys) = xs.filter (· ∉ ys) → Fr h₀ L h m → News h₀ L h ((S, W.listOf us.toArray c) :: (it, ltObj fl i) :: news) →
     LRest PySem.Challenge.rw_ik0137_01.row.prog w (ktrTop dp un gd cn cs L a ccd [] outer) E S x Qs n { s with heap := h, toks := tk } := by
  revert X; k_fill; intro X
  intro n
  induction n with
  | zero =>
    intro i us zs c h tk h1 hU hz F N
    have e := congrArg List.length hz
    have e2 := List.length_filter_le (· ∉ ys) xs
    rw [List.length_append] at e
    omega
  | succ n ih =>
    intro i us zs c h tk h1 hU hz F N
    have hzl : us.length ≤ 100 := by
      have e := congrArg List.length hz
      have e2 := List.length_filter_le (· ∉ ys) xs
      rw [List.length_append] at e
      rw [hU.length]
      omega
    have I : InstAt h x (ffObj mw it d) 47 (some (dictOf [] 0)) := ⟨(N _ (.tail _ (.tail _ hx))).1, rfl, rfl, (N _ (.tail _ (.tail _ hdd))).1⟩
    have N' : News h₀ L h ((it, ltObj fl i) :: (S, W.listOf us.toArray c) :: news) := fun q hq => N q (by
      rcases List.mem_cons.mp hq with e | hq
      · exact e ▸ .tail _ (.head _)
      · rcases List.mem_cons.mp hq with e | hq
        · exact e ▸ .head _
        · exact .tail _ (.tail _ hq))
    have hne' : ∀ q ∈ (S, W.listOf us.toArray c) :: news, q.1 ≠ it := fun q hq => by
      rcases List.mem_cons.mp hq with e | hq
      · exact e ▸ hSit
      · exact hne q hq
    show wpAny _ _ (pyNext (.ref x)) _ _ _
    refine owit_next (s := { s with heap := h, toks := tk }) F X I (f := 43) (by k_is) (by k_is) ?_
    refine c_next (s := { s with heap := h, toks := tk }) B F X N' T hk hd1 hu1 hne' (.tail _ hx) (.tail _ hdd) (.tail _ hmw) (.tail _ hfl) (.tail _ hsk) hI hJ ?_ ?_
    · intro j y t h' tk' hf hij F1 N1
      show wpAny _ _ (updateSeq S (·.push (Value.int y t))) _ _ _
      have hS := (N1 _ (.tail _ (.head _))).1
      have N2 : News h₀ L h' ((S, W.listOf us.toArray c) :: (it, ltObj fl j) :: news) := fun q hq => N1 q (by
        rcases List.mem_cons.mp hq with e | hq
        · exact e ▸ .tail _ (.head _)
        · rcases List.mem_cons.mp hq with e | hq
          · exact e ▸ .head _
          · exact .tail _ (.tail _ hq))
      have hneS' : ∀ q ∈ (it, ltObj fl j) :: news, q.1 ≠ S := fun q hq => by
        rcases List.mem_cons.mp hq with e | hq
        · exact e ▸ Ne.symm hSit
        · exact hneS q hq
      refine wpAny_updateSeq hS rfl ?_ (by rw [sizeLine_eq, List.size_toArray]; omega) (by show (us.toArray.push _).size ≤ _; rw [sizeLine_eq, Array.size_push, List.size_toArray]; omega)
      obtain ⟨F3, N3⟩ := upd_S (Obj.mapSeq (·.push (Value.int y t))) hneS' rfl F1 N2
      refine ih j (us ++ [Value.int y t]) (zs ++ [y]) (c + 1) _ tk' (by rw [List.length_append, List.length_singleton]; omega) (ints_snoc hU y t) (by rw [← hz, hf, List.append_assoc]; rfl) F3 ?_
      have e : Obj.mapSeq (·.push (Value.int y t)) (W.listOf us.toArray c) = W.listOf (us ++ [Value.int y t]).toArray (c + 1) := by
        show ({ cls := _, data := .seq _ _ } : Obj) = _
        simp [W.listOf]
      exact e ▸ N3
    · intro g' e h' tk' hf F1 R U
      obtain ⟨Bh, a0, hB, hBG, hl, hfl'⟩ := R
      have hL : Bh.get? L = none := by
        obtain ⟨_, ⟨L', _, hf, hn', _⟩, _⟩ := hfl'.2.2.1
        obtain rfl : L = L' := Option.some.inj hf
        exact hn'
      have hf' := flyingW_base hB hfl'
      obtain ⟨ob, hob, hobc⟩ := hf'.there
      unfold OwitStop
      refine wpAny_isInstance (T := "StopIteration") (b := true) (show Shared.TypeIs _ (.ref e) "StopIteration" from ⟨ob, hob, hobc⟩) isSubtype_stop ?_
      show (if true = true then Qs _ else _)
      rw [if_pos rfl]
      obtain ⟨g9, T9, F9, K9⟩ := kts_ground (name := cn) (scope := cs) (a := a) (cd := ccd) B F1 hBG hfl'.1 U
      refine hend g9 us c h' tk' T9 F9 (fun q hq => ?_) ?_ K9 (XB.keeps K9.stays) (TB.keeps K9.stays) (D.turn T9)
      · exact ⟨hfl'.1 _ _ (hl q hq).1, (fun z => by have := (hl q hq).1; rw [z, hL] at this; cases this), T9.none_ _ (kts_none F1.keep (hl q hq).2.1)⟩
      · rw [hf, List.append_nil] at hz
        exact hz ▸ hU
end
end
section
open PySem PySem.W PyProof.Rows PySem.Calls PySem.Spec
set_option maxRecDepth 100000
theorem memX {env : Env} {L b : Addr} {outer : List Env} (hf : env.frame = some L) (hm : b ∈ (env :: outer).filterMap (·.frame)) : b = L ∨ b ∈ outer.filterMap (·.frame) := by
  obtain ⟨e, he, hb⟩ := List.mem_filterMap.mp hm
  rcases List.mem_cons.mp he with rfl | he
  · exact .inl (Option.some.inj (hb.symm.trans hf))
  · exact .inr (List.mem_filterMap.mpr ⟨e, he, hb⟩)
section
variable {prog : Program} {w : World} {A₀ A : Around} {s : Shared} {base h₀ g₀ : Heap} {outer : List Env} {L : Addr} {m : Str → Option Value} {env : Env} {news : List (Addr × Obj)} {K : Frag} {p : Program} {loose : List Str} {mean : ExcName → Option Value} {mg mb : Str → Option Value}
  {R : Result → Shared → Prop} {name qual : Str} {params : Arguments} {body : List Stmt} {scope : Scope} {dV kV doc pm cdv ct oc : Value} {an od : Option Addr} {osl : Array (Option Value)} {f : Addr} {args : Args} {binds : List (Str × Value)}

theorem enterX (F : Fr h₀ L s.heap m) (N : News h₀ L s.heap news) :
    ∃ oL es ep, (hideAll s.heap (news.map (·.1))).get? L = some oL ∧ oL.data = .dict es ep ∧ (∀ h', h'.get? L = some oL → Heap.Ns h' L m) ∧ (∀ (sl : Array (Option Value)) h', h'.get? L = some { oL with slots := sl } → Heap.Ns h' L m) ∧
      h₀.StaysIn (hideAll s.heap (news.map (·.1))) := by
  have nm : ∀ b o, h₀.get? b = some o → b ∉ news.map (·.1) := fun b o e q => by
    obtain ⟨p, hp, rfl⟩ := List.mem_map.mp q
    rw [(N p hp).2.2] at e; cases e
  have st : h₀.StaysIn (hideAll s.heap (news.map (·.1))) := fun b o e => hideAll_get _ (F.keep b o e) (nm b o e)
  obtain ⟨oL, es, ep, hL, hLd, hLk, hLf⟩ := F.ns
  have nL : L ∉ news.map (·.1) := fun q => by
    obtain ⟨p, hp, e⟩ := List.mem_map.mp q
    exact (N p hp).2.1 e
  have hLg := hideAll_get (news.map (·.1)) hL nL
  exact ⟨oL, es, ep, hLg, hLd, fun h' e => ⟨oL, es, ep, e, hLd, hLk, hLf⟩, fun sl h' e => ⟨_, es, ep, e, hLd, hLk, hLf⟩, st⟩

theorem lvS (B : Below A₀ base outer h₀) (F : Fr h₀ L s.heap m) (N : News h₀ L s.heap news) (XB : K.In base) (TB : Top p loose mean mg mb base) (D : KtsDicts (outer.filterMap (·.frame)) h₀) (T0 : KtsTurn (outer.filterMap (·.frame)) g₀ h₀) (hf : env.frame = some L) {v : Value} {s' : Shared}
    (hl : LeaveS ((env :: outer).filterMap (·.frame)) A₀ base outer K p loose mean mg mb g₀ h₀ L m (hideAll s.heap (news.map (·.1))) R v s') : R (.ok (.ret v)) s' := by
  obtain ⟨oL, es, ep, hLg, hLd, hN, hNs, st⟩ := enterX F N
  have nL₀ : h₀.get? L = none := kts_self F
  rcases hl with ⟨L', m', news', F', N', k⟩ | ⟨g', L', m', news', T', F', N', k⟩
  · refine k ⟨hN _ (F'.keep _ _ hLg), fun b o e => F'.keep b o (st b o e), F.above⟩ fun p hp => ⟨(N' p hp).1, fun q => ?_, ?_⟩
    · have := (N' p hp).2.2; rw [q, hLg] at this; cases this
    · cases q : h₀.get? p.1 with
      | none => rfl
      | some o => have := (N' p hp).2.2; rw [st _ _ q] at this; cases this
  obtain ⟨sl, hs⟩ := T'.up hLg
  obtain ⟨T₁, S₁⟩ := kts_turn_at (h := s'.heap) (fs := outer.filterMap (·.frame)) (g := h₀)
    (fun b hb => by
      obtain ⟨_, o, ho', _⟩ := B.frames.mem hb
      exact ⟨o, ho'⟩)
    (fun b o e nmem => F'.keep b o (T'.other b o (st b o e) (fun q => by
      rcases memX hf q with z | z
      · rw [z, nL₀] at e
        cases e
      · exact nmem z)))
    (fun b o e hm => by
      obtain ⟨sl', hs'⟩ := T'.up (st b o e)
      exact ⟨sl', F'.keep _ _ hs'⟩)
  have B₃ : Below A₀ base outer (ktsHeap s'.heap (outer.filterMap (·.frame)) h₀) := ⟨B.stack, fun b o e => T₁.other b o (B.stays b o e) (fun hm => by
    rw [(B.frames.mem hm).1] at e
    cases e), B.frames.of_keeps fun b o e _ => by
    obtain ⟨sl', hs'⟩ := T₁.up e
    exact ⟨_, hs', rfl⟩⟩
  refine k _ (T0.trans T₁) ⟨hNs sl _ (F'.keep _ _ hs), S₁, by rw [T₁.size]; exact F.above⟩ (fun p hp => ⟨(N' p hp).1, fun q => ?_, ?_⟩) B₃ (XB.keeps B₃.stays) (TB.keeps B₃.stays) (D.turn T₁)
  · have := (N' p hp).2.2; rw [q, hs] at this; cases this
  · refine T₁.none_ _ ?_
    cases q : h₀.get? p.1 with
    | none => rfl
    | some o =>
      obtain ⟨sl', hs'⟩ := T'.up (st _ _ q)
      have := (N' p hp).2.2
      rw [hs'] at this
      cases this
theorem dictsX (F : Fr h₀ L s.heap m) (N : News h₀ L s.heap news) (D : KtsDicts (outer.filterMap (·.frame)) h₀) (hf : env.frame = some L) : KtsDicts ((env :: outer).filterMap (·.frame)) (hideAll s.heap (news.map (·.1))) := by
  obtain ⟨oL, es, ep, hLg, hLd, hN, hNs, st⟩ := enterX F N
  intro b hb
  rcases memX hf hb with rfl | hb
  · exact ⟨oL, es, ep, hLg, hLd⟩
  · obtain ⟨o, es', n', ho', hd'⟩ := D b hb
    exact ⟨o, es', n', st b o ho', hd'⟩

/-- a def without cells, called from any frame; the ground may turn -/
theorem code_defSX (B : Below A₀ base outer h₀) (F : Fr h₀ L s.heap m) (X₀ : K.In h₀) (N : News h₀ L s.heap news) (T : Top p loose mean mg mb h₀) (XB : K.In base) (TB : Top p loose mean mg mb base) (D : KtsDicts (outer.filterMap (·.frame)) h₀)
    (T0 : KtsTurn (outer.filterMap (·.frame)) g₀ h₀) (hA : A.frames = some (env :: outer)) (hf : env.frame = some L) (hke : env.scope.kind = .function)
    (ho : K.lookup f = some ⟨oc, od, .func (fnOf name qual params body scope dV kV doc pm an cdv ct), osl⟩) (hcd : codeIn K cdv qual = true) (hroom : A.depth < recursionLimit)
    (hbind : BindsTo s (fnOf name qual params body scope dV kV doc pm an cdv ct) args binds) (hloc : ∀ y ∈ binds, scope.names.lookup y.1 = some .local)
    (h : ∀ g L' h₁, Fr h₀ L g m → Fr g L' h₁ (fun y => binds.reverse.lookup y) → News g L' h₁ news → Below A base (env :: outer) g → K.In g → Top p loose mean mg mb g → KtsDicts ((env :: outer).filterMap (·.frame)) g →
      wpAny (model prog w) (A.deeper (envOf qual scope L' f cdv)) (execs body (envOf qual scope L' f cdv))
        (fun fl s' => LeaveS ((env :: outer).filterMap (·.frame)) A₀ base outer K p loose mean mg mb g₀ h₀ L m g R (match fl with | .ret v => v | _ => .none) s')
        (fun e s' => wpAny (model prog w) (A.deeper (envOf qual scope L' f cdv)) (leaving (envOf qual scope L' f cdv) e) (fun _ s'' => R (.error e) s'') (fun e' s'' => R (.error e') s'') s')
        { s with heap := h₁, toks := s.toks + binds.length })
    (hco : scope.isCoroutine = false) (hgen : scope.isGenerator = false) (hk : scope.kind = .function)
    (hcell : ∀ x ∈ scope.names, x.2 ≠ .cell) : codeAny (model prog w) A (.call (.ref f) args) R s := by
  obtain ⟨FG, BG, st, _⟩ := groundX (R := R) B F N hA hf hke
  refine codeAny_call_def (fd := fnOf name qual params body scope dV kV doc pm an cdv ct) (body := body) (binds := binds) hroom ((X₀.keeps F.keep) _ _ ho) rfl (T.nolimit.keeps F.keep) (codeRec_of (X₀.keeps F.keep) hcd) rfl hbind hcell hloc (fun h₁ hns hk₁ => ?_) hco hgen hk
  exact wpAny_mono (h _ s.heap.objs.size h₁ FG ⟨hns, fun b o e => hk₁ b o (of_hideAll _ e), Nat.le_of_eq (hideAll_size _ _)⟩
    (fun p hp => ⟨hk₁ _ _ (N p hp).1, Nat.ne_of_lt (Heap.lt_size (N p hp).1), hideAll_none _ (List.mem_map_of_mem hp)⟩) BG (X₀.keeps st) (T.keeps st) (dictsX F N D hf)) (fun fl s' hl => lvS B F N XB TB D T0 hf hl) fun _ _ y => y

/-- a def with cells, called from any frame; the ground may turn -/
theorem code_defCX (B : Below A₀ base outer h₀) (F : Fr h₀ L s.heap m) (X₀ : K.In h₀) (N : News h₀ L s.heap news) (T : Top p loose mean mg mb h₀) (XB : K.In base) (TB : Top p loose mean mg mb base) (D : KtsDicts (outer.filterMap (·.frame)) h₀)
    (T0 : KtsTurn (outer.filterMap (·.frame)) g₀ h₀) (hA : A.frames = some (env :: outer)) (hf : env.frame = some L) (hke : env.scope.kind = .function)
    (ho : K.lookup f = some ⟨oc, od, .func (fnOf name qual params body scope dV kV doc pm an cdv ct), osl⟩) (hcd : codeIn K cdv qual = true) (hroom : A.depth < recursionLimit)
    (hbind : BindsTo s (fnOf name qual params body scope dV kV doc pm an cdv ct) args binds) (hkind : (binds.all fun y => scope.names.lookup y.1 == some .local || scope.names.lookup y.1 == some .cell) = true)
    (hnd : ((cellsFrom 0 scope.names []).map (·.1)).Nodup)
    (h : ∀ g L' h₁ tk cells, Fr h₀ L g m → Fr g L' h₁ (bindL (envOfC qual scope L' f cdv).kindOf binds fun _ => none) → News g L' h₁ (cells ++ news) →
      CellsAre (bindC (envOfC qual scope L' f cdv).kindOf binds fun _ => none) (cellsFrom (L' + 1) scope.names []) cells → Below A base (env :: outer) g → K.In g → Top p loose mean mg mb g → KtsDicts ((env :: outer).filterMap (·.frame)) g → (∀ p ∈ news, p.1 < L') →
      wpAny (model prog w) (A.deeper (envOfC qual scope L' f cdv)) (execs body (envOfC qual scope L' f cdv))
        (fun fl s' => LeaveS ((env :: outer).filterMap (·.frame)) A₀ base outer K p loose mean mg mb g₀ h₀ L m g R (match fl with | .ret v => v | _ => .none) s')
        (fun e s' => wpAny (model prog w) (A.deeper (envOfC qual scope L' f cdv)) (leaving (envOfC qual scope L' f cdv) e) (fun _ s'' => R (.error e) s'') (fun e' s'' => R (.error e') s'') s')
        { s with heap := h₁, toks := tk })
    (hco : scope.isCoroutine = false) (hgen : scope.isGenerator = false) (hk : scope.kind = .function) : codeAny (model prog w) A (.call (.ref f) args) R s := by
  obtain ⟨FG, BG, st, _⟩ := groundX (R := R) B F N hA hf hke
  refine codeAny_call_function hroom ((X₀.keeps F.keep) _ _ ho) rfl hco hgen rfl (codeRec_of (X₀.keeps F.keep) hcd) (hbind _ _ _ _ ?_)
  refine wpAny_newFunctionEnv_cells hk (kindsX hkind _) fun env' he s' x => ?_
  subst he
  refine ⟨(T.nolimit.keeps F.keep).keeps x.toInCall.keep, codeAny_func ?_⟩
  obtain ⟨h₁, tk, rfl, _⟩ := x.done
  have hk₁ := x.toInCall.keep
  obtain ⟨cells, NC, Y⟩ := Cl.news (h₀ := s.heap) (Nat.le_refl _) fun n c hm => ⟨x.cell n c (lookup_of_mem_nodup (cellsFrom_names scope.names 0 (s.heap.objs.size + 1) [] [] rfl ▸ hnd) hm), x.above n c hm⟩
  refine wpAny_mono (h _ s.heap.objs.size h₁ tk cells FG ⟨x.toInCall.ns, fun b o e => hk₁ b o (of_hideAll _ e), Nat.le_of_eq (hideAll_size _ _)⟩ (fun p hp => ?_) Y BG (X₀.keeps st) (T.keeps st) (dictsX F N D hf) (fun p hp => Heap.lt_size (N p hp).1)) (fun fl s' hl => lvS B F N XB TB D T0 hf hl) fun _ _ y => y
  rcases List.mem_append.mp hp with hp | hp
  · refine ⟨(NC p hp).1, (NC p hp).2.1, ?_⟩
    cases q : (hideAll s.heap (news.map (·.1))).get? p.1 with
    | none => rfl
    | some o => have := of_hideAll _ q; rw [(NC p hp).2.2] at this; cases this
  · exact ⟨hk₁ _ _ (N p hp).1, Nat.ne_of_lt (Heap.lt_size (N p hp).1), hideAll_none _ (List.mem_map_of_mem hp)⟩
end
end
section
open PySem PySem.W PyProof.Rows PySem.Calls
local macro_rules | `(tactic| walk_at "call ref") => `(tactic| (k_here; (fail_if_success (with_reducible show wpAny _ _ (call (Value.ref 47) _ _) _ _ _)); refine hold_on ?_))
local macro_rules | `(tactic| k_room) => `(tactic| ktr_room)
local macro_rules | `(tactic| k_all) => `(tactic| first | with_reducible assumption | exact ne_tail (by with_reducible assumption) (by omega) | exact ne_tail1 (by with_reducible assumption) (by omega))
local macro_rules | `(tactic| ktr_enter) => `(tactic| (refine' code_defC ?k1 ?k2 ?k3 ?k4 ?k5 ?kA ?kF ?kK ?k6 ?k7 ?k8 ?k9 ?kB ?kD ?_ ?c2 ?c3 ?c4; (case kA => exact rfl); (case kF => exact rfl); (case kK => assumption); (case k1 => k_asm); (case k2 => k_asm); (case k3 => k_asm); (case k4 => k_asm); (case k5 => k_asm); (case k6 => k_is); (case k7 => k_is); (case k8 => ktr_room); (case k9 => exact BindsTo.of_eq rfl); (case kB => exact rfl); (case kD => decide +kernel); (case c2 => exact rfl); (case c3 => exact rfl); (case c4 => exact rfl); k_whole; intro g' L' h' tk' cells' FG' F' N' Y' B' X' T' l1; (try k_lt l1); k_cells Y'; (try simp only [List.cons_append, List.nil_append] at N'); (try dsimp only); (try k_lift B'); (try k_fold)))
local macro_rules | `(tactic| walk_at "binaryOp Mult ref int") => `(tactic| (k_here; (with_reducible show wpAny _ _ (binaryOp Operator.Mult (Value.ref _) (Value.int _ _)) _ _ _); k_dflt (refine' mul_rep ?k1 ?k2 ?k3 ?k4 ?k5 ?_; (case k1 => k_asm); (case k2 => k_asm); (case k3 => k_mem); (case k4 => omega); (case k5 => omega); k_whole); intro D' vs' h' F' N' hi' l1; (try k_lt l1); (try k_sweep)))
local macro_rules | `(tactic| walk_at "call builtin:len") => `(tactic| (k_here; (with_reducible show wpAny _ _ (call (Value.builtin "len") [Value.ref _]) _ _ _); k_dflt (refine' len_ints_fit ?k1 ?k2 ?k3 ?_; (case k1 => exact News.isList (by assumption) (by k_mem)); (case k2 => with_reducible assumption); (case k3 => (simp only [List.length_replicate] at *; omega)); k_whole); (try simp only [List.length_replicate])))
local macro_rules | `(tactic| kn_enter) => `(tactic| (refine' code_nest ?k1 ?k2 ?k3 ?k4 ?k5 ?kA ?kF ?kK ?k6 ?k7 ?k8 ?k9 ?kB ?_ ?c2 ?c3 ?c4 ?c5; (case kA => exact rfl); (case kF => exact rfl); (case kK => assumption); (case k1 => k_asm); (case k2 => k_asm); (case k3 => k_asm); (case k4 => k_asm); (case k5 => k_asm); (case k6 => k_mem); (case k7 => exact codeRec_news (by k_asm) (by k_mem) (by assumption) (by assumption)); (case k8 => ktr_room); (case k9 => exact BindsTo.of_eq rfl); (case c5 => decide); (case kB => exact locs rfl); (case c2 => exact rfl); (case c3 => exact rfl); (case c4 => exact rfl); k_whole; intro g' L' h' FG' F' N' B' X' T'; (try dsimp only); (try k_lift B'); (try k_fold)))
local macro_rules | `(tactic| kqd_sub) => `(tactic| (intro p9 h9; repeat (first | exact h9 | refine List.Mem.tail _ ?_)))
local macro_rules | `(tactic| k_mem) => `(tactic| first | exact List.Mem.head _ | (refine' List.Mem.tail _ ?_; k_mem) | with_reducible assumption | assumption)
local macro_rules | `(tactic| walk_at "truthy ref") => `(tactic| (k_here; (with_reducible show wpAny _ _ (truthy (Value.ref _)) _ _ _); (with_unfolding_all refine' truthy_ints_fit ?k1 ?k2 ?k3 ?_; (case k1 => exact News.isList (by assumption) (by k_mem)); (case k2 => with_reducible assumption); (case k3 => omega); k_whole)))
local macro_rules | `(tactic| walk_at "pyIter ref") => `(tactic| (k_here; refine hold_on ?_))
local macro_rules | `(tactic| walk_at "call builtin:list.append") => `(tactic| (k_here; k_dflt (refine' append_L ?k1 ?k2 ?k3 ?k4 ?_; (case k1 => k_asm); (case k2 => k_asm); (case k3 => k_upd); (case k4 => first | omega | (simp only [List.length_nil]; omega)); k_whole); intro h' F' N'; (try k_sweep)))
local macro_rules | `(tactic| walk_at "call builtin:list.reverse") => `(tactic| (k_here; k_dflt (refine' reverse_L ?k1 ?k2 ?k3 ?k4 ?_; (case k1 => k_asm); (case k2 => k_asm); (case k3 => k_upd); (case k4 => omega); k_whole); intro h' F' N'; (try k_sweep)))

local macro_rules | `(tactic| walk_at "getAttr ref") => `(tactic| (k_here; (with_reducible show wpAny _ _ (getAttr (Value.ref _) (Str.ofString "__contains__") true) _ _ _); k_dflt (refine' getAttr_mw ?k1 ?k2 ?k3 ?_; (case k1 => k_asm); (case k2 => k_asm); (case k3 => k_mem); k_whole); intro D' h' tk' F' N' l1; (try k_lt l1); (try k_sweep)))
local macro_rules | `(tactic| walk_at "call builtin:iter") => `(tactic| (k_here; (with_reducible show wpAny _ _ (call (Value.builtin "iter") [Value.ref _]) _ _ _); k_dflt (refine' iter_list ?k1 ?k2 ?k3 ?_; (case k1 => k_asm); (case k2 => k_asm); (case k3 => k_mem); k_whole); intro D' h' F' N' l1; (try k_lt l1); (try k_sweep)))
local macro_rules | `(tactic| walk_at "call type:list") => `(tactic| (k_here; refine hold_on ?_))
local macro_rules | `(tactic| kts_go) => `(tactic| (refine' code_defSX ?k1 ?k2 ?k3 ?k4 ?k5 ?XB ?TB ?D ?T0 ?kA ?kF ?kK ?k6 ?k7 ?k8 ?k9 ?kB ?_ ?c2 ?c3 ?c4 ?c5; (case kA => exact rfl); (case kF => exact rfl); (case kK => first | assumption | exact rfl); (case k2 => k_asm); (case k1 => k_asm); (case XB => assumption); (case TB => assumption); (case D => assumption); (case T0 => exact KtsTurn.refl); (case k3 => k_asm); (case k4 => k_asm); (case k5 => k_asm); (case k6 => k_is); (case k7 => k_is); (case k8 => k_room); (case k9 => exact BindsTo.of_eq rfl); (case kB => exact locs rfl); (case c2 => exact rfl); (case c3 => exact rfl); (case c4 => exact rfl); (case c5 => decide); k_whole; intro g' L' h' FG' F' N' B' X' T' D'; (try dsimp only); (try k_lift B'); (try k_fold)))
section
variable {w : World} {p : Program} {loose : List Str} {mean : ExcName → Option Value} {mg mb : Str → Option Value}
   {dp un : Nat} {gd : Option (List Code)} {cn : Str} {cs : Scope} {a : Addr} {ccd : Value} {cl : List (Str × Addr)} {outer : List Env} {A₀ : Around} {base h₀ : Heap} {L : Addr} {m : Str → Option Value} {s : Shared} {Q E : Value → Shared → Prop} {news : List (Addr × Obj)}
set_option maxRecDepth 100000 in
set_option maxHeartbeats 8000000 in
theorem c_filter {fl sk : Addr} {vs ws : List Value} {xs ys : List Int} {c1 c2 : Nat}
   (B : Below A₀ base outer h₀) (F : Fr h₀ L s.heap m) (X : (hd.heap_39 w.params).In h₀) (N : News h₀ L s.heap news) (T : Top p loose mean mg mb h₀) (XB : (hd.heap_39 w.params).In base) (TB : Top p loose mean mg mb base) (D : KtsDicts (outer.filterMap (·.frame)) h₀) (hk : cs.kind = .function)
   (hd1 : dp + 20 < recursionLimit) (hu1 : un + 200 < cLine)
   (hfl : (fl, W.listOf vs.toArray c1) ∈ news) (hsk : (sk, W.listOf ws.toArray c2) ∈ news) (hI : IntsAre vs xs) (hJ : IntsAre ws ys) (hxl : xs.length ≤ 24) (hyl : ys.length ≤ 24)
   (hret : ∀ h₀' S us c h' tk', KtsTurn (outer.filterMap (·.frame)) h₀ h₀' → Fr h₀' L h' m → News h₀' L h' ((S, W.listOf us.toArray c) :: news) → (∀ p ∈ news, p.1 < S) → IntsAre us (xs.filter (· ∉ ys)) → Below A₀ base outer h₀' → (hd.heap_39 w.params).In h₀' → Top p loose mean mg mb h₀' → KtsDicts (outer.filterMap (·.frame)) h₀' → Q (.ref S) { s with heap := h', toks := tk' }) :
   wpAny (model PySem.Challenge.rw_ik0137_01.row.prog w) (ktrTop dp un gd cn cs L a ccd cl outer) (call (.ref 58) [.ref fl, .ref sk]) Q E s := by
  revert XB X; k_fill; intro X XB
  refine wpAny_call ?_
  k_dflt kts_go
  k_steps
  rename Fr _ _ _ _ => F8
  rename News _ _ _ _ => N8
  rename KtsDicts _ _ => D8
  rename _ ∧ _ ∧ _ ∧ _ => l8
  obtain ⟨l81, l82, l83, l84⟩ := l8
  unfold Hold
  refine call_list_own (n := 26) (od := some (dictOf [] 0)) F8 N8 (by assumption) (fun h F N => ⟨(N _ (.tail _ (.head _))).1, rfl, rfl, (N _ (.tail _ (.tail _ (.head _)))).1⟩) (fi := 36) (fn := 43) (C := 47) (by k_is) (by k_is) (by k_is) (by k_is) (by k_is) (fun T => Value.noConfusion) ?_ ?_
  · intro S c h1 tk Q' E' hlt F1 N1 k
    refine c_it (s := { s with heap := h1, toks := tk }) (by assumption) F1 (by assumption) N1 (by assumption) rfl ?_ ?_ k
    · ktr_room
    · ktr_units
  · intro S c h1 tk hlt F1 N1
    have hlx := hI.length
    refine c_lrest (s := s) (by assumption) (by assumption) (by assumption) XB TB D8 rfl ?_ ?_ ?_ ?_ ?_ (.head _) (.tail _ (.head _)) (.tail _ (.tail _ (.head _))) (.tail _ (.tail _ (.tail _ hfl))) (.tail _ (.tail _ (.tail _ hsk))) hI hJ (by omega) ?_ 26 0 [] [] c h1 tk (by simp; omega) .nil rfl F1 N1
    · ktr_room
    · ktr_units
    · intro q hq
      rcases List.mem_cons.mp hq with e | hq
      · exact e ▸ Nat.ne_of_lt l81
      · rcases List.mem_cons.mp hq with e | hq
        · exact e ▸ Nat.ne_of_lt l82
        · rcases List.mem_cons.mp hq with e | hq
          · exact e ▸ Nat.ne_of_lt l83
          · exact Nat.ne_of_lt (ktn_ltOf l84 _ hq)
    · exact fun q hq => Nat.ne_of_lt (hlt q (.tail _ hq))
    · exact Ne.symm (Nat.ne_of_lt (hlt _ (.head _)))
    · clear F1 N1 F8 N8
      intro g9 us c' h' tk' T9 F9 N9 hU B9 X9 P9 D9
      k_steps
      rename News _ _ _ _ => N7
      refine hret _ S us c' _ _ (by assumption) (by assumption) ?_ (fun q hq => hlt q (.tail _ (.tail _ (.tail _ (.tail _ hq))))) hU (by assumption) (by assumption) (by assumption) (by assumption)
      refine fun q hq => N7 q ?_
      rcases List.mem_cons.mp hq with e | hq
      · exact e ▸ .head _
      · exact .tail _ (.tail _ (.tail _ (.tail _ hq)))
end
end
section
open PySem PySem.W PyProof.Rows PySem.Calls PySem.Spec
set_option maxRecDepth 100000
def LIt (o : Obj) (l : Addr) (i : Nat) : Prop := o.cls = .type "list_iterator" ∧ o.data = .fields #[.ref l, .int i 0]
abbrev Inv4 := Addr → Nat → Heap → (Str → Option Value) → List (Addr × Obj) → Prop
def TurnEnd (s : Shared) (L I dl : Addr) (i : Nat) (J : Inv4) (s' : Shared) : Prop :=
  ∃ g h m led io tk, s' = { s with heap := h, toks := tk } ∧ Fr g L h m ∧ News g L h ((I, io) :: led) ∧ LIt io dl i ∧ J I i g m led
def TurnPost (s : Shared) (L I dl : Addr) (i : Nat) (J : Inv4) (f : Flow) (s' : Shared) : Prop := match f with
  | .next => TurnEnd s L I dl i J s'
  | .cont => TurnEnd s L I dl i J s'
  | .brk => False
  | .ret _ => False
theorem turnEnd {s : Shared} {L I dl : Addr} {i : Nat} {J : Inv4} {g h : Heap} {m : Str → Option Value} {led : List (Addr × Obj)} {io : Obj} {tk : Nat} (F : Fr g L h m) (N : News g L h ((I, io) :: led)) (hi : LIt io dl i) (hJ : J I i g m led) :
    TurnEnd s L I dl i J { s with heap := h, toks := tk } := ⟨g, h, m, led, io, tk, rfl, F, N, hi, hJ⟩
section
variable {prog : Program} {w : World} {A : Around} {E : Value → Shared → Prop} {s : Shared} {env : Env}
theorem for_turn' {g h : Heap} {L dl : Addr} {m : Str → Option Value} {news : List (Addr × Obj)} {ds : List Value} {c1 tk : Nat} {v y : Str} {px py pos : Pos} {body : List Stmt} {Q : Flow → Shared → Prop} (J : Inv4)
    (hh : A.handled = none) (F : Fr g L h m) (N : News g L h news) (hdl : (dl, W.listOf ds.toArray c1) ∈ news)
    (hev : ∀ Q', Q' (.ref dl) { s with heap := h, toks := tk } → wpAny (model prog w) A (eval (.Name y py) env) Q' E { s with heap := h, toks := tk })
    (hE : PassesOwn (model prog w) A env E)
    (start : ∀ I, (∀ p ∈ news, p.1 < I) → J I 0 g m news)
    (side : ∀ I i g m led, J I i g m led → (dl, W.listOf ds.toArray c1) ∈ led ∧ ∀ p ∈ led, p.1 ≠ I)
    (turn : ∀ I i x g m led io h tk, ds[i]? = some x → J I i g m led → LIt io dl (i + 1) → Fr g L h m → News g L h ((I, io) :: led) →
      wpAny (model prog w) A (storeName env v x) (fun _ s₂ => wpAny (model prog w) A (execs body env) (TurnPost s L I dl (i + 1) J) E s₂) E { s with heap := h, toks := tk })
    (fin : ∀ I g m led h tk, J I ds.length g m led → Fr g L h m → News g L h led → Q .next { s with heap := h, toks := tk })
    (hs : ∀ x, foldedSetIterable (.Name y py) env x = pure x := by intro _; rfl) :
    wpAny (model prog w) A (exec (.For (.Name v px) (.Name y py) body [] pos) env) Q E { s with heap := h, toks := tk } := by
  refine wpAny_For (hev _ ?_) hs
  refine wpAny_pyIter_list (items := ds.toArray) ⟨_, (N _ hdl).1, rfl, c1, rfl⟩ ?_
  have hlt : ∀ p ∈ news, p.1 < h.objs.size := fun p hp => Heap.lt_size (N p hp).1
  have hst := start h.objs.size hlt
  have F1 : Fr g L (h.push { cls := .type "list_iterator", data := .fields #[.ref dl, .int 0 0] }) m := F.push _
  have N1 := N.push F { cls := .type "list_iterator", data := .fields #[.ref dl, .int 0 0] }
  refine codeAny_forLoop (R := fun r s' => match r with | .ok f => Q f s' | .error e => cameBackBy (model prog w) A env E e s')
    (fun k s' => ∃ i g h' m led io tk, k = ds.length - i ∧ i ≤ ds.length ∧ s' = { s with heap := h', toks := tk } ∧ Fr g L h' m ∧ News g L h' ((h.objs.size, io) :: led) ∧ LIt io dl i ∧ J h.objs.size i g m led) ?_ ds.length ?_
  · rintro k s' ⟨i, g, h', m, led, io, tk, rfl, hi, rfl, F, N, hio, hJ⟩
    obtain ⟨hdl', hne⟩ := side _ _ _ _ _ hJ
    have hm := N _ (.head _)
    have hit : h'.IsListIter h.objs.size dl i := ⟨io, hm.1, hio.1, hio.2⟩
    have hl : h'.IsList dl ds.toArray := ⟨_, (N _ (.tail _ hdl')).1, rfl, c1, rfl⟩
    rcases Nat.lt_or_ge i ds.length with hlt' | hge
    · refine wpAny_passesOwn hE (wpAny_pyNext_list_item hit hl (x := ds[i]) (by simp [hlt']) fun h₂ hit₂ hs₂ => ?_)
      obtain ⟨io₂, ho₂, hc₂, hd₂⟩ := hit₂
      have F₂ := F.change hs₂ hm.2.1 hm.2.2
      have N₂ : News g L h₂ ((h.objs.size, io₂) :: led) := (show News g L h' ([] ++ (h.objs.size, io) :: led) from N).setIn (fun _ h9 => nomatch h9) hne hs₂ ho₂
      refine wpAny_passesOwn hE (wpAny_assign_Name (wpAny_mono (turn _ i ds[i] g m led io₂ h₂ tk (by simp [hlt']) hJ ⟨hc₂, hd₂⟩ F₂ N₂) (fun _ s₂ h₂ => ?_) fun _ _ z => z))
      refine wpAny_passesOwn hE (wpAny_mono h₂ (fun f s₃ h₃ => ?_) fun _ _ z => z)
      cases f with
      | next =>
        obtain ⟨g, h', m, led, io, tk, e, F, N, hio, hJ⟩ := h₃
        exact ⟨ds.length - (i + 1), by omega, i + 1, g, h', m, led, io, tk, rfl, hlt', e, F, N, hio, hJ⟩
      | cont =>
        obtain ⟨g, h', m, led, io, tk, e, F, N, hio, hJ⟩ := h₃
        exact ⟨ds.length - (i + 1), by omega, i + 1, g, h', m, led, io, tk, rfl, hlt', e, F, N, hio, hJ⟩
      | brk => exact h₃.elim
      | ret _ => exact h₃.elim
    · have hi' : i = ds.length := by omega
      subst hi'
      refine wpAny_passesOwn hE (wpAny_pyNext_list_end hh hit hl (by simp) fun h₂ he₂ => ?_)
      refine wpAny_execs_nil ?_
      refine fin _ g m led h₂ tk hJ ?_ fun q hq => ⟨he₂ _ _ (hne q hq) (N q (.tail _ hq)).1, (N q (.tail _ hq)).2⟩
      refine ⟨F.ns.extBut he₂ hm.2.1.symm, fun b o e => he₂ b o (fun q => ?_) (F.keep b o e), F.above⟩
      rw [q, hm.2.2] at e; cases e
  · exact ⟨0, g, _, m, news, _, tk, rfl, Nat.zero_le _, rfl, F1, N1, ⟨rfl, rfl⟩, hst⟩
theorem for_turn {g h : Heap} {L dl : Addr} {m : Str → Option Value} {news : List (Addr × Obj)} {ds : List Value} {c1 tk : Nat} {v y : Str} {px py pos : Pos} {body : List Stmt} {Q : Flow → Shared → Prop} (J : Heap → Addr → Inv4)
    (hh : A.handled = none) (F : Fr g L h m) (N : News g L h news) (hdl : (dl, W.listOf ds.toArray c1) ∈ news)
    (hev : ∀ Q', Q' (.ref dl) { s with heap := h, toks := tk } → wpAny (model prog w) A (eval (.Name y py) env) Q' E { s with heap := h, toks := tk })
    (hE : PassesOwn (model prog w) A env E)
    (start : ∀ I, (∀ p ∈ news, p.1 < I) → J g L I 0 g m news)
    (side : ∀ I i g' m led, J g L I i g' m led → (dl, W.listOf ds.toArray c1) ∈ led ∧ ∀ p ∈ led, p.1 ≠ I)
    (turn : ∀ I i x g' m led io h tk, ds[i]? = some x → J g L I i g' m led → LIt io dl (i + 1) → Fr g' L h m → News g' L h ((I, io) :: led) →
      wpAny (model prog w) A (storeName env v x) (fun _ s₂ => wpAny (model prog w) A (execs body env) (TurnPost s L I dl (i + 1) (J g L)) E s₂) E { s with heap := h, toks := tk })
    (fin : ∀ I g' m led h tk, J g L I ds.length g' m led → Fr g' L h m → News g' L h led → Q .next { s with heap := h, toks := tk })
    (hs : ∀ x, foldedSetIterable (.Name y py) env x = pure x := by intro _; rfl) :
    wpAny (model prog w) A (exec (.For (.Name v px) (.Name y py) body [] pos) env) Q E { s with heap := h, toks := tk } :=
  for_turn' (J g L) hh F N hdl hev hE start side turn fin hs
end
end
section
open PySem PySem.W PyProof.Rows PySem.Calls
local macro_rules | `(tactic| walk_at "call ref") => `(tactic| (k_here; (fail_if_success (with_reducible show wpAny _ _ (call (Value.ref 47) _ _) _ _ _)); refine hold_on ?_))
local macro_rules | `(tactic| k_room) => `(tactic| ktr_room)
local macro_rules | `(tactic| k_all) => `(tactic| first | with_reducible assumption | exact ne_tail (by with_reducible assumption) (by omega) | exact ne_tail1 (by with_reducible assumption) (by omega))
local macro_rules | `(tactic| ktr_enter) => `(tactic| (refine' code_defC ?k1 ?k2 ?k3 ?k4 ?k5 ?kA ?kF ?kK ?k6 ?k7 ?k8 ?k9 ?kB ?kD ?_ ?c2 ?c3 ?c4; (case kA => exact rfl); (case kF => exact rfl); (case kK => assumption); (case k1 => k_asm); (case k2 => k_asm); (case k3 => k_asm); (case k4 => k_asm); (case k5 => k_asm); (case k6 => k_is); (case k7 => k_is); (case k8 => ktr_room); (case k9 => exact BindsTo.of_eq rfl); (case kB => exact rfl); (case kD => decide +kernel); (case c2 => exact rfl); (case c3 => exact rfl); (case c4 => exact rfl); k_whole; intro g' L' h' tk' cells' FG' F' N' Y' B' X' T' l1; (try k_lt l1); k_cells Y'; (try simp only [List.cons_append, List.nil_append] at N'); (try dsimp only); (try k_lift B'); (try k_fold)))
local macro_rules | `(tactic| walk_at "binaryOp Mult ref int") => `(tactic| (k_here; (with_reducible show wpAny _ _ (binaryOp Operator.Mult (Value.ref _) (Value.int _ _)) _ _ _); k_dflt (refine' mul_rep ?k1 ?k2 ?k3 ?k4 ?k5 ?_; (case k1 => k_asm); (case k2 => k_asm); (case k3 => k_mem); (case k4 => omega); (case k5 => omega); k_whole); intro D' vs' h' F' N' hi' l1; (try k_lt l1); (try k_sweep)))
local macro_rules | `(tactic| walk_at "call builtin:len") => `(tactic| (k_here; (with_reducible show wpAny _ _ (call (Value.builtin "len") [Value.ref _]) _ _ _); k_dflt (refine' len_ints_fit ?k1 ?k2 ?k3 ?_; (case k1 => exact News.isList (by assumption) (by k_mem)); (case k2 => with_reducible assumption); (case k3 => (simp only [List.length_replicate] at *; omega)); k_whole); (try simp only [List.length_replicate])))
local macro_rules | `(tactic| kn_enter) => `(tactic| (refine' code_nest ?k1 ?k2 ?k3 ?k4 ?k5 ?kA ?kF ?kK ?k6 ?k7 ?k8 ?k9 ?kB ?_ ?c2 ?c3 ?c4 ?c5; (case kA => exact rfl); (case kF => exact rfl); (case kK => assumption); (case k1 => k_asm); (case k2 => k_asm); (case k3 => k_asm); (case k4 => k_asm); (case k5 => k_asm); (case k6 => k_mem); (case k7 => exact codeRec_news (by k_asm) (by k_mem) (by assumption) (by assumption)); (case k8 => ktr_room); (case k9 => exact BindsTo.of_eq rfl); (case c5 => decide); (case kB => exact locs rfl); (case c2 => exact rfl); (case c3 => exact rfl); (case c4 => exact rfl); k_whole; intro g' L' h' FG' F' N' B' X' T'; (try dsimp only); (try k_lift B'); (try k_fold)))
local macro_rules | `(tactic| kqd_sub) => `(tactic| (intro p9 h9; repeat (first | exact h9 | refine List.Mem.tail _ ?_)))
local macro_rules | `(tactic| k_mem) => `(tactic| first | exact List.Mem.head _ | (refine' List.Mem.tail _ ?_; k_mem) | with_reducible assumption | assumption)
local macro_rules | `(tactic| walk_at "truthy ref") => `(tactic| (k_here; (with_reducible show wpAny _ _ (truthy (Value.ref _)) _ _ _); (with_unfolding_all refine' truthy_ints_fit ?k1 ?k2 ?k3 ?_; (case k1 => exact News.isList (by assumption) (by k_mem)); (case k2 => with_reducible assumption); (case k3 => omega); k_whole)))
local macro_rules | `(tactic| walk_at "pyIter ref") => `(tactic| (k_here; refine hold_on ?_))
local macro_rules | `(tactic| walk_at "call builtin:list.append") => `(tactic| (k_here; k_dflt (refine' append_L ?k1 ?k2 ?k3 ?k4 ?_; (case k1 => k_asm); (case k2 => k_asm); (case k3 => k_upd); (case k4 => first | omega | (simp only [List.length_nil]; omega)); k_whole); intro h' F' N'; (try k_sweep)))
local macro_rules | `(tactic| walk_at "call builtin:list.reverse") => `(tactic| (k_here; k_dflt (refine' reverse_L ?k1 ?k2 ?k3 ?k4 ?_; (case k1 => k_asm); (case k2 => k_asm); (case k3 => k_upd); (case k4 => omega); k_whole); intro h' F' N'; (try k_sweep)))

local macro_rules | `(tactic| walk_at "call type:list") => `(tactic| (k_here; refine hold_on ?_))
local macro_rules | `(tactic| walk_at "exec For Name Name cons nil") => `(tactic| (k_here; refine hold_on ?_))
local macro_rules | `(tactic| walk_at "exec") => `(tactic| (k_here; (with_reducible show wpAny _ _ (exec (Stmt.For _ _ _ _ _) _) _ _ _); refine hold_on ?_))
local macro_rules | `(tactic| kts_go) => `(tactic| (refine' code_defCX ?k1 ?k2 ?k3 ?k4 ?k5 ?XB ?TB ?D ?T0 ?kA ?kF ?kK ?k6 ?k7 ?k8 ?k9 ?kB ?kD ?_ ?c2 ?c3 ?c4; (case kA => exact rfl); (case kF => exact rfl); (case kK => first | assumption | exact rfl); (case k2 => k_asm); (case k1 => k_asm); (case XB => assumption); (case TB => assumption); (case D => assumption); (case T0 => exact KtsTurn.refl); (case k3 => k_asm); (case k4 => k_asm); (case k5 => k_asm); (case k6 => k_is); (case k7 => k_is); (case k8 => ktr_room); (case k9 => exact BindsTo.of_eq rfl); (case kB => exact rfl); (case kD => decide +kernel); (case c2 => exact rfl); (case c3 => exact rfl); (case c4 => exact rfl); k_whole; intro g' L' h' tk' cells' FG' F' N' Y' B' X' T' D' l1; (try k_lt l1); k_cells Y'; (try simp only [List.cons_append, List.nil_append] at N'); (try dsimp only); (try k_lift B'); (try k_fold)))
def firstOf (x d : Int) : Int := if x % d = 0 then x else x + d - x % d
def struckOf (x d : Int) : List Int := ((rangeKs 0 ((24 : Int) - 0).toNat).filter fun k => decide (firstOf x d + k * d < x + 24)).map fun k => firstOf x d + k * d
def rowOf (x : Int) : List Int := (rangeKs 0 ((24 : Int) - 0).toNat).map fun k => x + k
def runLog (x : Int) : List Int → List Int → List Dat
  | [], _ => []
  | d :: r, row => Dat.tuple [.int (x / d), .int (x % d), .list ((row.filter (· ∉ struckOf x d)).map Dat.int)] :: runLog x r (row.filter (· ∉ struckOf x d))
theorem Tab74.mono {qs : Array Value} {R R' : XA} (h : Tab74 qs R) (hs : ∀ p ∈ R, p ∈ R') : Tab74 qs R' := h.imp id fun h => h.mono hs
theorem Tab81.mono {qs : Array Value} {R R' : XA} (h : Tab81 qs R) (hs : ∀ p ∈ R, p ∈ R') : Tab81 qs R' := h.imp id fun h => h.mono hs
def NoTab (o : Obj) : Prop := ∀ vs q t, o.data = .fields vs → vs[1]? ≠ some (.str q t)
theorem TabF.less {ln col : Int} {q : Str} {qs : Array Value} {R R' : XA} (h : TabF ln col q qs R) (hs : ∀ p ∈ R, p ∈ R' ∨ NoTab p.2) : TabF ln col q qs R' := by
  obtain ⟨c, o, v, t, e, hm, hd, hv⟩ := h
  rcases hs _ hm with h | h
  · exact ⟨c, o, v, t, e, h, hd, hv⟩
  · exact absurd hv (h v q t hd)
theorem noTab_cell {o : Obj} {v : Option Value} (h : o.data = .cell v) : NoTab o := fun vs q t e => by rw [h] at e; cases e
theorem noTab_seq {xs : Array Value} {n : Nat} : NoTab (W.listOf xs n) := fun vs q t e => by cases e
theorem noTab_it {o : Obj} {l : Addr} {i : Nat} (h : LIt o l i) : NoTab o := fun vs q t e => by
  rw [h.2] at e
  cases e
  simp
def OffS (L lg I : Addr) (R : XA) : Prop := ∀ q ∈ R, q.1 ≠ 81 ∧ q.1 ≠ 74 ∧ q.1 ≠ L + 1 ∧ q.1 ≠ L + 1 + 1 ∧ q.1 ≠ L + 1 + 1 + 1 ∧ q.1 ≠ lg ∧ q.1 ≠ I
def RunJ (w : World) (p : Program) (loose : List Str) (mean : ExcName → Option Value) (mg mb : Str → Option Value) (A : Around) (base : Heap) (outer : List Env) (g0 : Heap) (L dl : Addr) (x : Int) (divs : List Int) (ds : List Value) (c1 : Nat) (news : XA) : Inv4 := fun I i g m led =>
  ∃ (lg row : Addr) (lvs : List Value) (cl : Nat) (rvs : List Value) (cr : Nat) (rw : List Int) (dd : List Dat) (o1 o2 o3 : Obj) (a1 a2 : Option Value) (tx : Tok) (ps qs : Array Value) (R : XA),
   led = (lg, W.listOf lvs.toArray cl) :: (L + 1 + 1 + 1, o1) :: (L + 1 + 1, o2) :: (L + 1, o3) :: (81, tabObj ps) :: (74, tabObj qs) :: R ∧
   (o1.data = .cell a1 ∧ o2.data = .cell a2 ∧ o3.data = .cell (some (.int x tx))) ∧
   (m (Str.ofString "log") = some (.ref lg) ∧ m (Str.ofString "row") = some (.ref row) ∧ m (Str.ofString "divisors") = some (.ref dl)) ∧
   ((row, W.listOf rvs.toArray cr) ∈ R ∧ IntsAre rvs rw ∧ rw.length ≤ 24 ∧ DatAll R lvs dd ∧ dd.length = i ∧ dd ++ runLog x (divs.drop i) rw = runLog x divs (rowOf x)) ∧
   ((dl, W.listOf ds.toArray c1) ∈ R ∧ (∀ q ∈ news, q ∈ R)) ∧
   (Tab81 ps R ∧ Tab74 qs R) ∧
   ((@LT.lt Nat _ 81 L ∧ @LT.lt Nat _ 74 L ∧ @LT.lt Nat _ (L + 1 + 1 + 1) lg ∧ @LT.lt Nat _ lg I) ∧ OffS L lg I R) ∧
   (Below A base outer g ∧ (hd.heap_39 w.params).In g ∧ Top p loose mean mg mb g ∧ KtsDicts (outer.filterMap (·.frame)) g ∧ KtsTurn (outer.filterMap (·.frame)) g0 g)
theorem compEnd_el {h₀ : Heap} {L I C D : Addr} {m : Str → Option Value} {s₁ : Shared} {oI oC oD : Obj} {S : List (Addr × Obj) → Prop} {y : Value} {h' : Heap} {tk : Nat} {all news : List (Addr × Obj)} {l r : List Int}
   (F : Fr h₀ L h' m) (N : News h₀ L h' all) (sub : ∀ p ∈ (I, oI) :: (C, oC) :: (D, oD) :: news, p ∈ all) (off : LCg.Off3 I C D news) (hS : S news) (hr : KCiEl news l r y news) :
   LCg.CompEnd h₀ L m s₁ I oI C oC D oD S (fun y news' => KCiEl news l r y news') y { s₁ with heap := h', toks := tk } := LCg.CompEnd.intro F N news sub off hS hr
theorem compEnd_no {h₀ : Heap} {L I C D : Addr} {m : Str → Option Value} {s₁ : Shared} {oI oC oD : Obj} {S : List (Addr × Obj) → Prop} {y : Value} {h' : Heap} {tk : Nat} {all news : List (Addr × Obj)} {l r : List Int}
   (F : Fr h₀ L h' m) (N : News h₀ L h' all) (sub : ∀ p ∈ (I, oI) :: (C, oC) :: (D, oD) :: news, p ∈ all) (off : LCg.Off3 I C D news) (hS : S news) (hr : KCiNo news l r news) :
   LCg.CompEnd h₀ L m s₁ I oI C oC D oD S (fun _ news' => KCiNo news l r news') y { s₁ with heap := h', toks := tk } := LCg.CompEnd.intro F N news sub off hS hr
local macro_rules | `(tactic| walk_at "CompEnd") => `(tactic| first
  | (k_dflt (refine compEnd_el (by assumption) (by assumption) (by kcf_all) (by first | assumption | (simp only [LCg.Off3, and_true]; assumption)) True.intro ?_))
  | (k_dflt (refine compEnd_no (by assumption) (by assumption) (by kcf_all) (by first | assumption | (simp only [LCg.Off3, and_true]; assumption)) True.intro ?_)))
section
variable {w : World} {p : Program} {loose : List Str} {mean : ExcName → Option Value} {mg mb : Str → Option Value}
   {dp un : Nat} {gd : Option (List Code)} {cn : Str} {cs : Scope} {a : Addr} {ccd : Value} {cl : List (Str × Addr)} {outer : List Env} {A₀ : Around} {base h₀ : Heap} {L : Addr} {m : Str → Option Value} {s : Shared} {Q E : Value → Shared → Prop} {news : List (Addr × Obj)}
theorem perm7 {α : Type} {q a b c d e f g : α} {R : List α} (h : q ∈ f :: g :: a :: b :: c :: d :: e :: R) : q ∈ a :: b :: c :: d :: e :: f :: g :: R := by
  simp only [List.mem_cons] at h ⊢
  rcases h with h | h | h | h | h | h | h | h
  · exact .inr (.inr (.inr (.inr (.inr (.inl h)))))
  · exact .inr (.inr (.inr (.inr (.inr (.inr (.inl h))))))
  · exact .inl h
  · exact .inr (.inl h)
  · exact .inr (.inr (.inl h))
  · exact .inr (.inr (.inr (.inl h)))
  · exact .inr (.inr (.inr (.inr (.inl h))))
  · exact .inr (.inr (.inr (.inr (.inr (.inr (.inr h))))))
theorem perm8 {α : Type} {q D a b c d e f g : α} {ex R : List α} (h : q ∈ D :: a :: b :: c :: d :: e :: f :: g :: (ex ++ R)) : q ∈ D :: f :: g :: (ex ++ a :: b :: c :: d :: e :: R) := by
  simp only [List.mem_cons, List.mem_append] at h ⊢
  rcases h with h | h | h | h | h | h | h | h | h | h
  · exact .inl h
  · exact .inr (.inr (.inr (.inr (.inl h))))
  · exact .inr (.inr (.inr (.inr (.inr (.inl h)))))
  · exact .inr (.inr (.inr (.inr (.inr (.inr (.inl h))))))
  · exact .inr (.inr (.inr (.inr (.inr (.inr (.inr (.inl h)))))))
  · exact .inr (.inr (.inr (.inr (.inr (.inr (.inr (.inr (.inl h))))))))
  · exact .inr (.inl h)
  · exact .inr (.inr (.inl h))
  · exact .inr (.inr (.inr (.inl h)))
  · exact .inr (.inr (.inr (.inr (.inr (.inr (.inr (.inr (.inr h))))))))
theorem sub8 {α : Type} {q a b c d e : α} {ex R : List α} (P : α → Prop) (ha : P a) (hb : P b) (hc : P c) (hd : P d) (he : P e) (h : q ∈ ex ++ a :: b :: c :: d :: e :: R) : q ∈ ex ++ R ∨ P q := by
  simp only [List.mem_cons, List.mem_append] at h ⊢
  rcases h with h | h | h | h | h | h | h
  · exact .inl (.inl h)
  · exact .inr (h ▸ ha)
  · exact .inr (h ▸ hb)
  · exact .inr (h ▸ hc)
  · exact .inr (h ▸ hd)
  · exact .inr (h ▸ he)
  · exact .inl (.inr h)
theorem off5 {c I lg a b d : Addr} {p1 p2 p3 p4 p5 : Obj} {R : XA} (h1 : I ≠ c) (h2 : lg ≠ c) (h3 : a ≠ c) (h4 : b ≠ c) (h5 : d ≠ c) (hR : ∀ q ∈ R, q.1 ≠ c) : ∀ q ∈ (I, p1) :: (lg, p2) :: (a, p3) :: (b, p4) :: (d, p5) :: R, q.1 ≠ c := by
  intro q hq
  simp only [List.mem_cons] at hq
  rcases hq with h | h | h | h | h | h
  · exact h ▸ h1
  · exact h ▸ h2
  · exact h ▸ h3
  · exact h ▸ h4
  · exact h ▸ h5
  · exact hR q h
theorem OffS.grow {L lg I : Addr} {R ex : XA} {p1 p2 p3 p4 p5 p6 p7 : Obj} (h : OffS L lg I R) (hex : ∀ p ∈ ex, ∀ q ∈ (81, p1) :: (74, p2) :: (I, p3) :: (lg, p4) :: (L + 1 + 1 + 1, p5) :: (L + 1 + 1, p6) :: (L + 1, p7) :: R, @LT.lt Nat _ q.1 p.1) : OffS L lg I (ex ++ R) := by
  intro q hq
  rcases List.mem_append.mp hq with hq | hq
  · have e1 := hex q hq _ (.head _)
    have e2 := hex q hq _ (.tail _ (.head _))
    have e3 := hex q hq _ (.tail _ (.tail _ (.head _)))
    have e4 := hex q hq _ (.tail _ (.tail _ (.tail _ (.head _))))
    have e5 := hex q hq _ (.tail _ (.tail _ (.tail _ (.tail _ (.head _)))))
    have e6 := hex q hq _ (.tail _ (.tail _ (.tail _ (.tail _ (.tail _ (.head _))))))
    have e7 := hex q hq _ (.tail _ (.tail _ (.tail _ (.tail _ (.tail _ (.tail _ (.head _)))))))
    exact ⟨Nat.ne_of_gt e1, Nat.ne_of_gt e2, Nat.ne_of_gt e7, Nat.ne_of_gt e6, Nat.ne_of_gt e5, Nat.ne_of_gt e4, Nat.ne_of_gt e3⟩
  · exact h q hq
theorem struck_foldl (f d b : Int) : ∀ (ks : List Int) (acc : List Int), ks.foldl (fun l k => if f + k * d < b then l ++ [f + k * d] else l) acc = acc ++ (ks.filter fun k => decide (f + k * d < b)).map fun k => f + k * d
  | [], acc => by simp
  | k :: ks, acc => by
    rw [List.foldl_cons]
    by_cases h : f + k * d < b
    · rw [if_pos h, struck_foldl f d b ks, List.filter_cons_of_pos (by simpa using h)]
      simp
    · rw [if_neg h, struck_foldl f d b ks, List.filter_cons_of_neg (by simpa using h)]
theorem struck0 {x d : Int} (h : x % d = 0) : List.foldl (fun l k => if x + k * d < x + 24 then l ++ [x + k * d] else l) [] (rangeKs 0 ((24 : Int) - 0).toNat) = struckOf x d := by
  rw [struck_foldl]
  unfold struckOf firstOf
  rw [if_pos h]; rfl
theorem struck1 {x d : Int} (h : ¬ x % d = 0) : List.foldl (fun l k => if x + d - x % d + k * d < x + 24 then l ++ [x + d - x % d + k * d] else l) [] (rangeKs 0 ((24 : Int) - 0).toNat) = struckOf x d := by
  rw [struck_foldl]
  unfold struckOf firstOf
  rw [if_neg h]; rfl
theorem struck_len (x d : Int) : (struckOf x d).length ≤ 24 := by
  unfold struckOf
  rw [List.length_map]
  refine Nat.le_trans (List.length_filter_le _ _) ?_
  rw [rangeKs_length]; decide
theorem dat_ints {R : XA} : ∀ {us : List Value} {zs : List Int}, IntsAre us zs → DatAll R us (zs.map Dat.int)
  | _, _, .nil => .nil
  | _, _, .cons n t h => .cons (.int n t) (dat_ints h)
theorem runLog_step {x : Int} {divs : List Int} {rw' : List Int} {dd : List Dat} {i : Nat} {d : Int} (hd : divs[i]? = some d) (h : dd ++ runLog x (divs.drop i) rw' = runLog x divs (rowOf x)) :
   (dd ++ [Dat.tuple [.int (x / d), .int (x % d), .list ((rw'.filter (· ∉ struckOf x d)).map Dat.int)]]) ++ runLog x (divs.drop (i + 1)) (rw'.filter (· ∉ struckOf x d)) = runLog x divs (rowOf x) := by
  obtain ⟨hi, rfl⟩ := List.getElem?_eq_some_iff.mp hd
  rw [← h, List.drop_eq_getElem_cons hi, List.append_assoc]
  rfl
theorem newsPerm {g h : Heap} {L : Addr} {T S D' D I lg a b c e f : Addr × Obj} {R : XA} (N : News g L h (T :: S :: D' :: D :: I :: lg :: a :: b :: c :: e :: f :: R)) : News g L h (I :: lg :: a :: b :: c :: e :: f :: T :: S :: D' :: D :: R) := by
  intro q hq
  refine N q ?_
  simp only [List.mem_cons] at hq ⊢
  rcases hq with h | h | h | h | h | h | h | h | h | h | h | h <;> simp only [h, true_or, or_true]
theorem newsPerm0 {g h : Heap} {L : Addr} {D lg a b c e f : Addr × Obj} {R : XA} (N : News g L h (lg :: D :: a :: b :: c :: e :: f :: R)) : News g L h (lg :: a :: b :: c :: e :: f :: D :: R) := by
  intro q hq
  refine N q ?_
  simp only [List.mem_cons] at hq ⊢
  rcases hq with h | h | h | h | h | h | h | h <;> simp only [h, true_or, or_true]
theorem newsPerm1 {g h : Heap} {L : Addr} {lg a b c e f : Addr × Obj} {R : XA} (N : News g L h (lg :: a :: b :: c :: e :: f :: R)) : News g L h (lg :: e :: f :: a :: b :: c :: R) := by
  intro q hq
  refine N q ?_
  simp only [List.mem_cons] at hq ⊢
  rcases hq with h | h | h | h | h | h | h <;> simp only [h, true_or, or_true]
theorem OffS.cons {L lg I : Addr} {q : Addr × Obj} {R : XA} (h1 : q.1 ≠ 81) (h2 : q.1 ≠ 74) (h3 : q.1 ≠ L + 1) (h4 : q.1 ≠ L + 1 + 1) (h5 : q.1 ≠ L + 1 + 1 + 1) (h6 : q.1 ≠ lg) (h7 : q.1 ≠ I) (h : OffS L lg I R) : OffS L lg I (q :: R) := by
  intro p hp
  rcases List.mem_cons.mp hp with e | hp
  · exact e ▸ ⟨h1, h2, h3, h4, h5, h6, h7⟩
  · exact h p hp
theorem unturn {g g' h : Heap} {L : Addr} {m : Str → Option Value} (T : KtsTurn [] g g') (F : Fr g' L h m) : Fr g L h m := ⟨F.ns, fun b o e => F.keep b o (T.other b o e (List.not_mem_nil)), T.size ▸ F.above⟩
theorem unturnN {g g' h : Heap} {L : Addr} {R : XA} (T : KtsTurn [] g g') (N : News g' L h R) : News g L h R := fun q hq => ⟨(N q hq).1, (N q hq).2.1, by
  cases e : g.get? q.1 with
  | none => rfl
  | some o => have := (N q hq).2.2; rw [T.other _ o e List.not_mem_nil] at this; cases this⟩
theorem fr_set {g h : Heap} {L : Addr} {m : Str → Option Value} {x : Str} {v : Value} (hm : m x = some v) (F : Fr g L h m) : Fr g L h (fun y => if y = x then some v else m y) := by
  have e : (fun y => if y = x then some v else m y) = m := by
    funext y
    by_cases h1 : y = x
    · simp [h1, hm]
    · simp [h1]
  rw [e]; exact F
set_option maxRecDepth 100000 in
set_option maxHeartbeats 8000000 in
theorem c_run {dl : Addr} {x : Int} {tx : Tok} {ds : List Value} {divs : List Int} {c1 : Nat}
   (B : Below A₀ base [] h₀) (F : Fr h₀ L s.heap m) (X : (hd.heap_39 w.params).In h₀) (N : News h₀ L s.heap ((81, tabObj #[]) :: (74, tabObj #[]) :: news)) (T : Top p loose mean mg mb h₀) (XB : (hd.heap_39 w.params).In base) (TB : Top p loose mean mg mb base) (D : KtsDicts (([] : List Env).filterMap (·.frame)) h₀) (hk : cs.kind = .function)
   (C1 : CodeHd base 78 74) (C2 : CodeHd base 85 81) (hoff1 : ∀ p ∈ news, p.1 ≠ 74) (hoff2 : ∀ p ∈ news, p.1 ≠ 81)
   (hd1 : dp + 100 < recursionLimit) (hu1 : un + 1000 < cLine)
   (hx0 : -1000000 ≤ x) (hx1 : x < 1000000) (hdl : (dl, W.listOf ds.toArray c1) ∈ news) (hI : IntsAre ds divs) (hlen : divs.length ≤ 8) (hdv : ∀ d ∈ divs, 2 ≤ d ∧ d ≤ 12)
   (hret : ∀ D lvs cl' ps qs R h' tk', Fr h₀ L h' m → News h₀ L h' ((D, W.listOf lvs.toArray cl') :: (81, tabObj ps) :: (74, tabObj qs) :: R) → DatAll R lvs (runLog x divs (rowOf x)) → (∀ q ∈ news, q ∈ R) → Tab81 ps R → Tab74 qs R →
     (∀ q ∈ R, q.1 ≠ 81 ∧ q.1 ≠ 74 ∧ q.1 ≠ D) → @LT.lt Nat _ 81 D → @LT.lt Nat _ 74 D → Q (.ref D) { s with heap := h', toks := tk' }) :
   wpAny (model PySem.Challenge.rw_ik0137_01.row.prog w) (ktrTop dp un gd cn cs L a ccd cl []) (call (.ref 105) [.int x tx, .ref dl]) Q E s := by
  have hkl0 : ds.length = divs.length := hI.length
  have hIat : ∀ (i : Nat) (v : Value), ds[i]? = some v → ∃ n t, v = Value.int n t ∧ divs[i]? = some n := fun i v hv => hI.at i v hv
  revert XB X; k_fill; intro X XB
  refine wpAny_call ?_
  k_dflt kts_go
  k_steps
  rename Fr _ _ _ _ => F2
  rename News _ _ _ _ => N2
  rename KtsDicts _ _ => D2
  unfold Hold
  refine for_turn (s := s) (fun g0 L9 => RunJ w p loose mean mg mb (ktrTop dp un gd cn cs L a ccd cl []) base [envX cn cs L a ccd cl] g0 L9 dl x divs ds c1 news) rfl F2 (newsPerm0 N2) (.tail _ (.tail _ (.tail _ (.tail _ (.tail _ (.tail _ (.tail _ hdl))))))) (fun Q' h => nameX_L F2 rfl h) (by passes_own) ?_ ?_ ?_ ?_
  · rename _ ∧ _ ∧ _ ∧ _ ∧ _ ∧ _ ∧ _ => l2
    rename IntsAre _ (List.map _ _) => hI8
    intro I hlt
    have hIl : @LT.lt Nat _ _ I := hlt _ (.head _)
    refine ⟨_, _, [], _, _, _, _, [], _, _, _, _, _, tx, _, _, _, rfl, ⟨by assumption, by assumption, by assumption⟩, ⟨rfl, rfl, rfl⟩, ⟨.head _, hI8, ?_, .nil, rfl, rfl⟩, ⟨.tail _ hdl, fun q hq => .tail _ hq⟩, ⟨.inl rfl, .inl rfl⟩, ⟨⟨?_, ?_, ?_, hIl⟩, ?_⟩, ⟨by assumption, by assumption, by assumption, by assumption, KtsTurn.refl⟩⟩
    · rw [List.length_map, rangeKs_length]; decide
    · exact (by assumption : _ ∧ _ ∧ AllLt _ _).1
    · exact (by assumption : _ ∧ _ ∧ AllLt _ _).2.1
    · exact l2.2.1
    · rename _ ∧ _ ∧ AllLt _ _ => l3
      rename _ ∧ _ ∧ _ ∧ _ ∧ _ ∧ LCg.Off1 _ _ => o3
      have hID := hlt _ (.tail _ (.tail _ (.tail _ (.tail _ (.tail _ (.tail _ (.head _)))))))
      refine OffS.cons ?_ ?_ ?_ ?_ ?_ ?_ ?_ fun q hq => ?_
      · exact neN (by dsimp only; omega)
      · exact neN (by dsimp only; omega)
      · exact neN (by dsimp only; omega)
      · exact neN (by dsimp only; omega)
      · exact neN (by dsimp only; omega)
      · exact neN (by dsimp only; omega)
      · exact Nat.ne_of_lt hID
      · have hq1 := ktn_ltOf l3.2.2 q hq
        have hq2 := ktn_ltOf l2.2.2.2.2.2.2 q hq
        exact ⟨hoff2 q hq, hoff1 q hq, Nat.ne_of_lt (Nat.lt_succ_of_lt hq1), Nat.ne_of_lt (Nat.lt_succ_of_lt (Nat.lt_succ_of_lt hq1)), Nat.ne_of_lt (Nat.lt_succ_of_lt (Nat.lt_succ_of_lt (Nat.lt_succ_of_lt hq1))), Nat.ne_of_lt hq2, Nat.ne_of_lt (Nat.lt_trans hq2 hIl)⟩
  · intro I i g1 m1 led hJ
    obtain ⟨lg, row, lvs, cl', rvs, cr, rw', dd, o1, o2, o3, a1, a2, tx', ps, qs, R, rfl, ⟨ho1, ho2, ho3⟩, ⟨hm1, hm2, hm3⟩, ⟨hrow, hrw, hrl, hdd, hdl', hlog⟩, ⟨hdlR, hnewsR⟩, ⟨ht1, ht2⟩, ⟨⟨hl1, hl2, hl3, hl4⟩, hoff⟩, _⟩ := hJ
    refine ⟨.tail _ (.tail _ (.tail _ (.tail _ (.tail _ (.tail _ hdlR))))), ?_⟩
    intro q hq
    simp only [List.mem_cons] at hq
    rcases hq with h | h | h | h | h | h | h
    · exact h ▸ neN (by dsimp only; omega)
    · exact h ▸ neN (by dsimp only; omega)
    · exact h ▸ neN (by dsimp only; omega)
    · exact h ▸ neN (by dsimp only; omega)
    · exact h ▸ neN (by dsimp only; omega)
    · exact h ▸ neN (by dsimp only; omega)
    · exact (hoff q h).2.2.2.2.2.2
  · intro I i v g1 m1 led io h1 tk1 hv hJ hio F3 N3
    obtain ⟨lg, row, lvs, cl', rvs, cr, rw', dd, o1, o2, o3, a1, a2, tx', ps, qs, R, rfl, ⟨ho1, ho2, ho3⟩, ⟨hm1, hm2, hm3⟩, ⟨hrow, hrw, hrl, hdd, hdl', hlog⟩, ⟨hdlR, hnewsR⟩, ⟨ht1, ht2⟩, ⟨⟨hl1, hl2, hl3, hl4⟩, hoff⟩, ⟨B4, X4, T4, D4, TT4⟩⟩ := hJ
    obtain ⟨d, td, rfl, hd⟩ := hIat i v hv
    have F41 := fr_set hm3 F3
    have F42 := fr_set (x := Str.ofString "log") (v := .ref lg) (by exact hm1) F41
    have F4 := fr_set (x := Str.ofString "row") (v := .ref row) (by exact hm2) F42
    have hR1 : ∀ q ∈ R, q.1 ≠ 81 := fun q hq => (hoff q hq).1
    have hR2 : ∀ q ∈ R, q.1 ≠ 74 := fun q hq => (hoff q hq).2.1
    have hR3 : ∀ q ∈ R, q.1 ≠ _ + 1 := fun q hq => (hoff q hq).2.2.1
    have hR4 : ∀ q ∈ R, q.1 ≠ _ + 1 + 1 := fun q hq => (hoff q hq).2.2.2.1
    have hR5 : ∀ q ∈ R, q.1 ≠ _ + 1 + 1 + 1 := fun q hq => (hoff q hq).2.2.2.2.1
    have hR6 : ∀ q ∈ R, q.1 ≠ lg := fun q hq => (hoff q hq).2.2.2.2.2.1
    have hR7 : ∀ q ∈ R, q.1 ≠ I := fun q hq => (hoff q hq).2.2.2.2.2.2
    clear F2 N2 F3 F41 F42
    k_steps
    rename Fr _ _ _ _ => F5
    rename News _ _ _ _ => N5
    rename _ = Data.cell (some (Value.int d td)) => ho2'
    have hdb := hdv d (List.mem_of_getElem? hd)
    unfold Hold
    refine c_idm B4 F5 X4 (fun q hq => N5 q (perm7 hq)) T4 rfl C1 C2 ?_ ?_ (ht2.mono fun q hq => .tail _ (.tail _ (.tail _ (.tail _ (.tail _ hq))))) (ht1.mono fun q hq => .tail _ (.tail _ (.tail _ (.tail _ (.tail _ hq))))) ?_ ?_ (by omega) (by omega) hdb.1 hdb.2 ?_
    · exact off5 (neN (by omega)) (neN (by omega)) (neN (by omega)) (neN (by omega)) (neN (by omega)) hR2
    · exact off5 (neN (by omega)) (neN (by omega)) (neN (by omega)) (neN (by omega)) (neN (by omega)) hR1
    · ktr_room
    · ktr_units
    intro D t1 t2 c ps' qs' news' h' tk' F6 N6 hT1 hT2 hG hlt
    obtain ⟨ex, rfl, hex⟩ := hG
    have N7 := fun q hq => N6 q (perm8 hq)
    clear N5 N6 F5
    have T1 := hT1.less (R' := ex ++ R) fun q hq => sub8 (fun q => NoTab q.2) (noTab_it hio) noTab_seq (noTab_cell ho1) (noTab_cell ho2') (noTab_cell ho3) hq
    have T2 := hT2.less (R' := ex ++ R) fun q hq => sub8 (fun q => NoTab q.2) (noTab_it hio) noTab_seq (noTab_cell ho1) (noTab_cell ho2') (noTab_cell ho3) hq
    have hsub : ∀ q ∈ R, q ∈ ex ++ R := fun q hq => List.mem_append_right _ hq
    have hoff' := hoff.grow hex
    have hD : @LT.lt Nat _ I D := hlt _ (.tail _ (.tail _ (.head _)))
    clear hR1 hR2 hR3 hR4 hR5 hR6 hR7 hex hlt hT1 hT2 ht1 ht2 hoff
    generalize ex ++ R = R1 at N7 T1 T2 hsub hoff'
    have hR1 : ∀ q ∈ R1, q.1 ≠ 81 := fun q hq => (hoff' q hq).1
    have hR2 : ∀ q ∈ R1, q.1 ≠ 74 := fun q hq => (hoff' q hq).2.1
    have hR3 : ∀ q ∈ R1, q.1 ≠ _ + 1 := fun q hq => (hoff' q hq).2.2.1
    have hR4 : ∀ q ∈ R1, q.1 ≠ _ + 1 + 1 := fun q hq => (hoff' q hq).2.2.2.1
    have hR5 : ∀ q ∈ R1, q.1 ≠ _ + 1 + 1 + 1 := fun q hq => (hoff' q hq).2.2.2.2.1
    have hR6 : ∀ q ∈ R1, q.1 ≠ lg := fun q hq => (hoff' q hq).2.2.2.2.2.1
    have hR7 : ∀ q ∈ R1, q.1 ≠ I := fun q hq => (hoff' q hq).2.2.2.2.2.2
    have hrow1 := hsub _ hrow
    have hdlR1 := hsub _ hdlR
    k_steps
    all_goals
      rename IntsAre _ (List.foldl _ _ _) => hI8
      rename Fr _ _ _ _ => F8
      rename News _ _ _ _ => N8
      first
      | rw [struck0 (by assumption)] at hI8
      | rw [struck1 (by assumption)] at hI8
      unfold Hold
      refine c_filter B4 F8 X4 N8 T4 XB TB D4 rfl ?_ ?_ (.tail _ (.tail _ (.tail _ (.tail _ (.tail _ (.tail _ (.tail _ (.tail _ (.tail _ hrow1))))))))) (.head _) (show IntsAre rvs rw' by assumption) hI8 hrl (struck_len x d) ?_
      · ktr_room
      · ktr_units
      intro g9 S us c9 h9 tk9 T9 F9 N9 hlt9 hU B9 X9 P9 D9
      have hlv : lvs.length ≤ 1000 := by
        have e1 := hdd.length
        have e2 := (List.getElem?_eq_some_iff.mp hd).1
        omega
      have hUD : ∀ (Z : XA), DatAll Z us ((rw'.filter (· ∉ struckOf x d)).map Dat.int) := fun Z => dat_ints hU
      have hS1 : @LT.lt Nat _ lg S := hlt9 _ (.tail _ (.tail _ (.tail _ (.head _))))
      clear F8 N8
      k_steps
      rename Fr _ _ _ _ => F10
      rename News _ _ _ _ => N10
      rename _ ∧ _ ∧ _ ∧ _ ∧ _ ∧ _ ∧ _ ∧ _ ∧ _ ∧ _ ∧ _ => l10
      rename _ ∧ _ ∧ _ ∧ _ ∧ _ ∧ _ ∧ _ ∧ _ ∧ _ => o10
      have hS2 : @LT.lt Nat _ I S := hlt9 _ (.tail _ (.tail _ (.head _)))
      refine turnEnd F10 (newsPerm N10) hio ⟨_, _, _, _, _, _, _, _, _, _, _, _, _, _, _, _, _, rfl, ⟨by assumption, by assumption, by assumption⟩, ⟨rfl, rfl, rfl⟩, ⟨.tail _ (.head _), (show IntsAre us (rw'.filter (· ∉ struckOf x d)) by assumption), Nat.le_trans (List.length_filter_le _ _) hrl,
        DatAll.append (DatAll.mono (fun q hq => .tail _ (.tail _ (.tail _ (.tail _ (hsub q hq))))) hdd) (DatAll.one (.tuple (.head _) (.cons (.int _ _) (.cons (.int _ _) (.cons (.list (.tail _ (.head _)) (hUD _)) .nil))))), by rw [List.length_append, hdl']; rfl, runLog_step hd hlog⟩,
        ⟨.tail _ (.tail _ (.tail _ (.tail _ hdlR1))), fun q hq => .tail _ (.tail _ (.tail _ (.tail _ (hsub q (hnewsR q hq)))))⟩,
        ⟨.inr (T2.mono fun q hq => .tail _ (.tail _ (.tail _ (.tail _ hq)))), .inr (T1.mono fun q hq => .tail _ (.tail _ (.tail _ (.tail _ hq))))⟩,
        ⟨⟨hl1, hl2, hl3, hl4⟩, OffS.cons ?_ ?_ ?_ ?_ ?_ ?_ ?_ (OffS.cons ?_ ?_ ?_ ?_ ?_ ?_ ?_ (OffS.cons ?_ ?_ ?_ ?_ ?_ ?_ ?_ (OffS.cons ?_ ?_ ?_ ?_ ?_ ?_ ?_ hoff')))⟩,
        ⟨B9, X9, P9, D9, TT4.trans T9⟩⟩
      all_goals (refine neN ?_; dsimp only; omega)
  · intro I g1 m1 led h1 tk1 hJ F3 N3
    obtain ⟨lg, row, lvs, cl', rvs, cr, rw', dd, o1, o2, o3, a1, a2, tx', ps, qs, R, rfl, ⟨ho1, ho2, ho3⟩, ⟨hm1, hm2, hm3⟩, ⟨hrow, hrw, hrl, hdd, hdl', hlog⟩, ⟨hdlR, hnewsR⟩, ⟨ht1, ht2⟩, ⟨⟨hl1, hl2, hl3, hl4⟩, hoff⟩, ⟨B4, X4, T4, D4, TT4⟩⟩ := hJ
    have F4 := fr_set hm1 F3
    clear F2 N2 F3 D2
    k_steps
    rename KtsTurn _ h₀ _ => kT
    rename Fr _ L _ _ => kF
    rename News _ L _ _ => kN
    have hz : dd = runLog x divs (rowOf x) := by
      rw [hkl0, List.drop_length] at hlog
      rw [← hlog]; exact (List.append_nil _).symm
    refine hret _ _ _ _ _ _ _ _ (unturn kT kF) (newsPerm1 (unturnN kT kN)) (hz ▸ hdd.mono fun q hq => .tail _ (.tail _ (.tail _ hq))) (fun q hq => .tail _ (.tail _ (.tail _ (hnewsR q hq)))) (ht1.mono fun q hq => .tail _ (.tail _ (.tail _ hq))) (ht2.mono fun q hq => .tail _ (.tail _ (.tail _ hq))) (fun q hq => ?_) (by omega) (by omega)
    simp only [List.mem_cons] at hq
    rcases hq with h | h | h | h
    · exact h ▸ ⟨neN (by dsimp only; omega), neN (by dsimp only; omega), neN (by dsimp only; omega)⟩
    · exact h ▸ ⟨neN (by dsimp only; omega), neN (by dsimp only; omega), neN (by dsimp only; omega)⟩
    · exact h ▸ ⟨neN (by dsimp only; omega), neN (by dsimp only; omega), neN (by dsimp only; omega)⟩
    · exact ⟨(hoff q h).1, (hoff q h).2.1, (hoff q h).2.2.2.2.2.1⟩
end
end
section
open PySem PySem.W PyProof.Rows PySem.Calls PySem.Spec
set_option maxRecDepth 100000
def rIt (x left : Int) : Obj := { cls := .type "range_iterator", data := .fields #[rawInt x, rawInt left, rawInt 1] }
abbrev Inv3 := Addr → Nat → (Str → Option Value) → List (Addr × Obj) → Prop
def RngEnd (s : Shared) (g : Heap) (L I : Addr) (lo : Int) (n i : Nat) (J : Inv3) (s' : Shared) : Prop :=
  ∃ h m led tk, s' = { s with heap := h, toks := tk } ∧ Fr g L h m ∧ News g L h ((I, rIt (lo + (i : Int)) ((n : Int) - (i : Int))) :: led) ∧ J I i m led
def RngPost (s : Shared) (g : Heap) (L I : Addr) (lo : Int) (n i : Nat) (J : Inv3) (f : Flow) (s' : Shared) : Prop := match f with
  | .next => RngEnd s g L I lo n i J s'
  | .cont => RngEnd s g L I lo n i J s'
  | .brk => False
  | .ret _ => False
theorem rngEnd {s : Shared} {L I : Addr} {lo : Int} {n i : Nat} {J : Inv3} {g h : Heap} {m : Str → Option Value} {led : List (Addr × Obj)} {tk : Nat} (F : Fr g L h m) (N : News g L h ((I, rIt (lo + (i : Int)) ((n : Int) - (i : Int))) :: led)) (hJ : J I i m led) :
    RngEnd s g L I lo n i J { s with heap := h, toks := tk } := ⟨h, m, led, tk, rfl, F, N, hJ⟩
section
variable {prog : Program} {w : World} {A : Around} {E : Value → Shared → Prop} {s : Shared} {env : Env}
def ForBody (prog : Program) (w : World) (A : Around) (E : Value → Shared → Prop) (env : Env) (tgt : Expr) (body : List Stmt) (Q : Flow → Shared → Prop) (it : Value) (s₂ : Shared) : Prop :=
  codeAny (model prog w) A (.forLoop tgt it body [] env) (fun r s' => match r with | .ok f => Q f s' | .error e => cameBackBy (model prog w) A env E e s') s₂
theorem for_any {v : Str} {px pos : Pos} {iter : Expr} {body : List Stmt} {Q : Flow → Shared → Prop}
    (h : wpAny (model prog w) A (eval iter env) (fun xv s₁ => wpAny (model prog w) A (pyIter xv) (ForBody prog w A E env (.Name v px) body Q) E s₁) E s)
    (hs : ∀ x, foldedSetIterable iter env x = pure x := by intro _; rfl) :
    wpAny (model prog w) A (exec (.For (.Name v px) iter body [] pos) env) Q E s :=
  wpAny_For (wpAny_mono h (fun xv s₁ h₁ => wpAny_mono h₁ (fun it s₂ h₂ => h₂) fun _ _ z => z) fun _ _ z => z) hs
theorem range_turn {g h : Heap} {L r : Addr} {m : Str → Option Value} {news : List (Addr × Obj)} {tk n : Nat} {lo hi : Int} {t u t' : Tok} {v : Str} {px : Pos} {body : List Stmt} {Q : Flow → Shared → Prop} (J : Inv3)
    (hh : A.handled = none) (F : Fr g L h m) (N : News g L h news) (hr : IsRange h r lo hi 1 t u t') (hsm : Builtin.Range.small lo hi 1 = true) (hn : Builtin.Range.rangeSize lo hi 1 = (n : Int))
    (hE : PassesOwn (model prog w) A env E)
    (start : ∀ I, (∀ p ∈ news, p.1 < I) → J I 0 m news)
    (side : ∀ I i m led, J I i m led → ∀ p ∈ led, p.1 ≠ I)
    (turn : ∀ I i m led h tk tx, i < n → J I i m led → Fr g L h m → News g L h ((I, rIt (lo + ((i + 1 : Nat) : Int)) ((n : Int) - ((i + 1 : Nat) : Int))) :: led) →
      wpAny (model prog w) A (storeName env v (.int (lo + (i : Int)) tx)) (fun _ s₂ => wpAny (model prog w) A (execs body env) (RngPost s g L I lo n (i + 1) J) E s₂) E { s with heap := h, toks := tk })
    (fin : ∀ I m led h tk, J I n m led → Fr g L h m → News g L h led → Q .next { s with heap := h, toks := tk }) :
    wpAny (model prog w) A (pyIter (.ref r)) (ForBody prog w A E env (.Name v px) body Q) E { s with heap := h, toks := tk } := by
  refine wpAny_pyIter_range hr hsm ?_
  have hlt : ∀ p ∈ news, p.1 < h.objs.size := fun p hp => Heap.lt_size (N p hp).1
  have hst := start h.objs.size hlt
  rw [hn]
  have e0 : ({ cls := .type "range_iterator", data := .fields #[rawInt lo, rawInt (n : Int), rawInt 1] } : Obj) = rIt (lo + ((0 : Nat) : Int)) ((n : Int) - ((0 : Nat) : Int)) := by unfold rIt; simp
  rw [e0]
  have F1 : Fr g L (h.push (rIt (lo + ((0 : Nat) : Int)) ((n : Int) - ((0 : Nat) : Int)))) m := F.push _
  have N1 := N.push F (rIt (lo + ((0 : Nat) : Int)) ((n : Int) - ((0 : Nat) : Int)))
  unfold ForBody
  refine codeAny_forLoop (R := fun r s' => match r with | .ok f => Q f s' | .error e => cameBackBy (model prog w) A env E e s')
    (fun k s' => ∃ i h' m led tk, k = n - i ∧ i ≤ n ∧ s' = { s with heap := h', toks := tk } ∧ Fr g L h' m ∧ News g L h' ((h.objs.size, rIt (lo + (i : Int)) ((n : Int) - (i : Int))) :: led) ∧ J h.objs.size i m led) ?_ n ?_
  · rintro k s' ⟨i, h', m, led, tk, rfl, hi, rfl, F, N, hJ⟩
    have hne := side _ _ _ _ hJ
    have hm := N _ (.head _)
    have hit : IsRangeIter h' h.objs.size (lo + (i : Int)) ((n : Int) - (i : Int)) 1 := hm.1
    rcases Nat.lt_or_ge i n with hlt' | hge
    · refine wpAny_passesOwn hE (wpAny_pyNext_range_item hit (by omega) fun h₂ hit₂ hs₂ => ?_)
      have F₂ := F.change hs₂ hm.2.1 hm.2.2
      have N₂ : News g L h₂ ((h.objs.size, rIt (lo + ((i + 1 : Nat) : Int)) ((n : Int) - ((i + 1 : Nat) : Int))) :: led) := (show News g L h' ([] ++ (h.objs.size, rIt (lo + (i : Int)) ((n : Int) - (i : Int))) :: led) from N).setIn (fun _ h9 => nomatch h9) hne hs₂ (by
        have e1 : lo + ((i + 1 : Nat) : Int) = lo + (i : Int) + 1 := by omega
        have e2 : (n : Int) - ((i + 1 : Nat) : Int) = (n : Int) - (i : Int) - 1 := by omega
        rw [e1, e2]; exact hit₂)
      refine wpAny_passesOwn hE (wpAny_assign_Name (wpAny_mono (turn _ i m led h₂ _ _ hlt' hJ F₂ N₂) (fun _ s₂ h₂ => ?_) fun _ _ z => z))
      refine wpAny_passesOwn hE (wpAny_mono h₂ (fun f s₃ h₃ => ?_) fun _ _ z => z)
      cases f with
      | next =>
        obtain ⟨h', m, led, tk, e, F, N, hJ⟩ := h₃
        exact ⟨n - (i + 1), by omega, i + 1, h', m, led, tk, rfl, hlt', e, F, N, hJ⟩
      | cont =>
        obtain ⟨h', m, led, tk, e, F, N, hJ⟩ := h₃
        exact ⟨n - (i + 1), by omega, i + 1, h', m, led, tk, rfl, hlt', e, F, N, hJ⟩
      | brk => exact h₃.elim
      | ret _ => exact h₃.elim
    · have hi' : i = n := by omega
      subst hi'
      refine wpAny_passesOwn hE (wpAny_pyNext_range_end hh hit (by omega) fun h₂ he₂ => ?_)
      refine wpAny_execs_nil ?_
      refine fin _ m led h₂ tk hJ ?_ fun q hq => ⟨he₂ _ _ (hne q hq) (N q (.tail _ hq)).1, (N q (.tail _ hq)).2⟩
      refine ⟨F.ns.extBut he₂ hm.2.1.symm, fun b o e => he₂ b o (fun q => ?_) (F.keep b o e), F.above⟩
      rw [q, hm.2.2] at e; cases e
  · exact ⟨0, _, m, news, tk, rfl, Nat.zero_le _, rfl, F1, N1, hst⟩
theorem range_turnL {g h : Heap} {L r : Addr} {m : Str → Option Value} {news : List (Addr × Obj)} {tk : Nat} {lo hi : Int} {t u t' : Tok} {v : Str} {px : Pos} {body : List Stmt} {Q : Flow → Shared → Prop} (n : Nat) (J : Addr → Inv3)
    (hh : A.handled = none) (F : Fr g L h m) (N : News g L h news) (hr : IsRange h r lo hi 1 t u t') (hsm : Builtin.Range.small lo hi 1 = true) (hn : (hi - lo).toNat = n)
    (hE : PassesOwn (model prog w) A env E)
    (start : ∀ I, (∀ p ∈ news, p.1 < I) → J L I 0 m news)
    (side : ∀ I i m led, J L I i m led → ∀ p ∈ led, p.1 ≠ I)
    (turn : ∀ I i m led h tk tx, i < n → J L I i m led → Fr g L h m → News g L h ((I, rIt (lo + ((i + 1 : Nat) : Int)) ((n : Int) - ((i + 1 : Nat) : Int))) :: led) →
      wpAny (model prog w) A (storeName env v (.int (lo + (i : Int)) tx)) (fun _ s₂ => wpAny (model prog w) A (execs body env) (RngPost s g L I lo n (i + 1) (J L)) E s₂) E { s with heap := h, toks := tk })
    (fin : ∀ I m led h tk, J L I n m led → Fr g L h m → News g L h led → Q .next { s with heap := h, toks := tk }) :
    wpAny (model prog w) A (pyIter (.ref r)) (ForBody prog w A E env (.Name v px) body Q) E { s with heap := h, toks := tk } :=
  range_turn (J L) hh F N hr hsm (by rw [rangeSize_nat, hn]) hE start side turn fin
end
end
section
open PySem PySem.W PyProof.Rows PySem.Calls
local macro_rules | `(tactic| walk_at "call ref") => `(tactic| (k_here; (fail_if_success (with_reducible show wpAny _ _ (call (Value.ref 47) _ _) _ _ _)); refine hold_on ?_))
local macro_rules | `(tactic| k_room) => `(tactic| ktr_room)
local macro_rules | `(tactic| k_all) => `(tactic| first | with_reducible assumption | exact ne_tail (by with_reducible assumption) (by omega) | exact ne_tail1 (by with_reducible assumption) (by omega))
local macro_rules | `(tactic| ktr_enter) => `(tactic| (refine' code_defC ?k1 ?k2 ?k3 ?k4 ?k5 ?kA ?kF ?kK ?k6 ?k7 ?k8 ?k9 ?kB ?kD ?_ ?c2 ?c3 ?c4; (case kA => exact rfl); (case kF => exact rfl); (case kK => assumption); (case k1 => k_asm); (case k2 => k_asm); (case k3 => k_asm); (case k4 => k_asm); (case k5 => k_asm); (case k6 => k_is); (case k7 => k_is); (case k8 => ktr_room); (case k9 => exact BindsTo.of_eq rfl); (case kB => exact rfl); (case kD => decide +kernel); (case c2 => exact rfl); (case c3 => exact rfl); (case c4 => exact rfl); k_whole; intro g' L' h' tk' cells' FG' F' N' Y' B' X' T' l1; (try k_lt l1); k_cells Y'; (try simp only [List.cons_append, List.nil_append] at N'); (try dsimp only); (try k_lift B'); (try k_fold)))
local macro_rules | `(tactic| walk_at "binaryOp Mult ref int") => `(tactic| (k_here; (with_reducible show wpAny _ _ (binaryOp Operator.Mult (Value.ref _) (Value.int _ _)) _ _ _); k_dflt (refine' mul_rep ?k1 ?k2 ?k3 ?k4 ?k5 ?_; (case k1 => k_asm); (case k2 => k_asm); (case k3 => k_mem); (case k4 => omega); (case k5 => omega); k_whole); intro D' vs' h' F' N' hi' l1; (try k_lt l1); (try k_sweep)))
local macro_rules | `(tactic| walk_at "call builtin:len") => `(tactic| (k_here; (with_reducible show wpAny _ _ (call (Value.builtin "len") [Value.ref _]) _ _ _); k_dflt (refine' len_ints_fit ?k1 ?k2 ?k3 ?_; (case k1 => exact News.isList (by assumption) (by k_mem)); (case k2 => with_reducible assumption); (case k3 => (simp only [List.length_replicate] at *; omega)); k_whole); (try simp only [List.length_replicate])))
local macro_rules | `(tactic| kn_enter) => `(tactic| (refine' code_nest ?k1 ?k2 ?k3 ?k4 ?k5 ?kA ?kF ?kK ?k6 ?k7 ?k8 ?k9 ?kB ?_ ?c2 ?c3 ?c4 ?c5; (case kA => exact rfl); (case kF => exact rfl); (case kK => assumption); (case k1 => k_asm); (case k2 => k_asm); (case k3 => k_asm); (case k4 => k_asm); (case k5 => k_asm); (case k6 => k_mem); (case k7 => exact codeRec_news (by k_asm) (by k_mem) (by assumption) (by assumption)); (case k8 => ktr_room); (case k9 => exact BindsTo.of_eq rfl); (case c5 => decide); (case kB => exact locs rfl); (case c2 => exact rfl); (case c3 => exact rfl); (case c4 => exact rfl); k_whole; intro g' L' h' FG' F' N' B' X' T'; (try dsimp only); (try k_lift B'); (try k_fold)))
local macro_rules | `(tactic| kqd_sub) => `(tactic| (intro p9 h9; repeat (first | exact h9 | refine List.Mem.tail _ ?_)))
local macro_rules | `(tactic| k_mem) => `(tactic| first | exact List.Mem.head _ | (refine' List.Mem.tail _ ?_; k_mem) | with_reducible assumption | assumption)
local macro_rules | `(tactic| walk_at "truthy ref") => `(tactic| (k_here; (with_reducible show wpAny _ _ (truthy (Value.ref _)) _ _ _); (with_unfolding_all refine' truthy_ints_fit ?k1 ?k2 ?k3 ?_; (case k1 => exact News.isList (by assumption) (by k_mem)); (case k2 => with_reducible assumption); (case k3 => omega); k_whole)))
local macro_rules | `(tactic| walk_at "pyIter ref") => `(tactic| (k_here; refine hold_on ?_))
local macro_rules | `(tactic| walk_at "call builtin:list.append") => `(tactic| (k_here; k_dflt (refine' append_L ?k1 ?k2 ?k3 ?k4 ?_; (case k1 => k_asm); (case k2 => k_asm); (case k3 => k_upd); (case k4 => first | omega | (simp only [List.length_nil]; omega)); k_whole); intro h' F' N'; (try k_sweep)))
local macro_rules | `(tactic| walk_at "call builtin:list.reverse") => `(tactic| (k_here; k_dflt (refine' reverse_L ?k1 ?k2 ?k3 ?k4 ?_; (case k1 => k_asm); (case k2 => k_asm); (case k3 => k_upd); (case k4 => omega); k_whole); intro h' F' N'; (try k_sweep)))

local macro_rules | `(tactic| walk_at "exec") => `(tactic| (k_here; (with_reducible show wpAny _ _ (exec (Stmt.For _ _ _ _ _) _) _ _ _); refine hold_on ?_))
local macro_rules | `(tactic| walk_at "exec For Name Call cons nil") => `(tactic| (k_here; (with_reducible show wpAny _ _ (exec (Stmt.For _ _ _ _ _) _) _ _ _); refine hold_on ?_))
section
variable {w : World} {p : Program} {loose : List Str} {mean : ExcName → Option Value} {mg mb : Str → Option Value}
   {dp un : Nat} {gd : Option (List Code)} {cn : Str} {cs : Scope} {a : Addr} {ccd : Value} {cl : List (Str × Addr)} {outer : List Env} {A₀ : Around} {base h₀ : Heap} {L : Addr} {m : Str → Option Value} {s : Shared} {Q E : Value → Shared → Prop} {news : List (Addr × Obj)}
def rowOfT (x : Int) : List Int := (rangeKs 0 ((24 : Int) - 0).toNat).map fun k => x + k
def leftOf (x : Int) (ds : List Int) (k : Nat) : List Int := ((rowOfT x).take k).filter fun n => decide (List.map (fun a => a) (ds.filter fun d => n.fmod d == 0) = [])
theorem leftOf_len (x : Int) (ds : List Int) (k : Nat) : (leftOf x ds k).length ≤ 24 := by
  unfold leftOf
  refine Nat.le_trans (List.length_filter_le _ _) ?_
  rw [List.length_take]
  refine Nat.le_trans (Nat.min_le_right _ _) ?_
  unfold rowOfT
  rw [List.length_map, rangeKs_length]; decide
theorem rowT_len (x : Int) : (rowOfT x).length = 24 := by
  unfold rowOfT
  rw [List.length_map, rangeKs_length]; rfl
theorem rowT_take (x : Int) (j : Nat) (hj : j < 24) : (rowOfT x).take (j + 1) = (rowOfT x).take j ++ [x + (j : Int)] := by
  rw [List.take_add_one]
  congr 1
  have e : (rowOfT x)[j]? = some (x + (j : Int)) := by
    unfold rowOfT rangeKs
    rw [List.getElem?_map, List.getElem?_map, List.getElem?_range (by exact hj)]
    simp
  rw [e]; rfl
theorem left_step {x : Int} {ds : List Int} {j : Nat} (hj : j < 24) : leftOf x ds (j + 1) = leftOf x ds j ++ (if decide (List.map (fun a => a) (ds.filter fun d => (x + (j : Int)).fmod d == 0) = []) = true then [x + (j : Int)] else []) := by
  unfold leftOf
  rw [rowT_take x j hj, List.filter_append]
  congr 1
  by_cases h : decide (List.map (fun a => a) (ds.filter fun d => (x + (j : Int)).fmod d == 0) = []) = true
  · rw [if_pos h, List.filter_cons_of_pos (by exact h)]; rfl
  · rw [if_neg h, List.filter_cons_of_neg (by exact h)]; rfl
theorem left_yes {x : Int} {divs : List Int} {i j : Nat} {ws : List Value} {t : Tok} (hj : j < 24) (hb : decide (List.map (fun a => a) ((divs.take (1 + (i : Int)).toNat).filter fun d => (x + (j : Int)).fmod d == 0) = []) = true)
   (h : IntsAre ws (leftOf x (divs.take (i + 1)) j)) : IntsAre (ws ++ [.int (x + (j : Int)) t]) (leftOf x (divs.take (i + 1)) (j + 1)) := by
  rw [show (1 + (i : Int)).toNat = i + 1 by omega] at hb
  rw [left_step hj, if_pos hb]
  exact IntsAre.append h (.cons _ t .nil)
theorem left_no {x : Int} {divs : List Int} {i j : Nat} {ws : List Value} (hj : j < 24) (hb : decide (List.map (fun a => a) ((divs.take (1 + (i : Int)).toNat).filter fun d => (x + (j : Int)).fmod d == 0) = []) = false)
   (h : IntsAre ws (leftOf x (divs.take (i + 1)) j)) : IntsAre ws (leftOf x (divs.take (i + 1)) (j + 1)) := by
  rw [show (1 + (i : Int)).toNat = i + 1 by omega] at hb
  rw [left_step hj, if_neg (by rw [hb]; exact Bool.false_ne_true), List.append_nil]
  exact h
theorem dat_intsT {R : XA} : ∀ {us : List Value} {zs : List Int}, IntsAre us zs → DatAll R us (zs.map Dat.int)
  | _, _, .nil => .nil
  | _, _, .cons n t h => .cons (.int n t) (dat_intsT h)
theorem newsPermO {g h : Heap} {L : Addr} {D lf I lg c : Addr × Obj} {R : XA} (N : News g L h (D :: lf :: I :: lg :: c :: R)) : News g L h (I :: lg :: c :: D :: lf :: R) := by
  intro q hq
  refine N q ?_
  simp only [List.mem_cons] at hq ⊢
  rcases hq with h | h | h | h | h | h <;> simp only [h, true_or, or_true]
theorem newsPermL {g h : Heap} {L : Addr} {l D D' I2 lf I lg c : Addr × Obj} {R : XA} (N : News g L h (l :: D :: D' :: I2 :: lf :: I :: lg :: c :: R)) : News g L h (I2 :: lf :: I :: lg :: c :: l :: D :: D' :: R) := by
  intro q hq
  refine N q ?_
  simp only [List.mem_cons] at hq ⊢
  rcases hq with h | h | h | h | h | h | h | h | h <;> simp only [h, true_or, or_true]
def toldAt (x : Int) (divs : List Int) (c : Nat) : Dat := Dat.tuple [.int (x.fdiv (divs.getD (1 + (c : Int) - 1).toNat 0)), .int (x.fmod (divs.getD (1 + (c : Int) - 1).toNat 0)), .list ((leftOf x (divs.take (c + 1)) 24).map Dat.int)]
def ToldJ (L dl : Addr) (x : Int) (divs : List Int) (ds : List Value) (c1 : Nat) (news : XA) : Inv3 := fun I i m led =>
  ∃ (lg : Addr) (lvs : List Value) (cl : Nat) (dd : List Dat) (o : Obj) (a : Option Value) (tx : Tok) (R : XA),
   led = (lg, W.listOf lvs.toArray cl) :: (L + 1, o) :: R ∧ o.data = .cell a ∧
   (m (Str.ofString "log") = some (.ref lg) ∧ m (Str.ofString "divisors") = some (.ref dl) ∧ m (Str.ofString "start") = some (.int x tx)) ∧
   (DatAll R lvs dd ∧ dd = (List.range i).map (toldAt x divs)) ∧
   ((dl, W.listOf ds.toArray c1) ∈ R ∧ (∀ q ∈ news, q ∈ R)) ∧
   ((@LT.lt Nat _ (L + 1) lg ∧ @LT.lt Nat _ lg I) ∧ ∀ q ∈ R, q.1 ≠ L + 1 ∧ q.1 ≠ lg ∧ q.1 ≠ I)
theorem fr_setT {g h : Heap} {L : Addr} {m : Str → Option Value} {x : Str} {v : Value} (hm : m x = some v) (F : Fr g L h m) : Fr g L h (fun y => if y = x then some v else m y) := by
  have e : (fun y => if y = x then some v else m y) = m := by
    funext y
    by_cases h1 : y = x
    · simp [h1, hm]
    · simp [h1]
  rw [e]; exact F
def LeftJ (lg I dl : Addr) (io : Obj) (lvs : List Value) (cl : Nat) (i : Nat) (R : XA) (x : Int) (divs : List Int) (L : Addr) : Inv3 := fun I2 k m led =>
  ∃ (lf : Addr) (ws : List Value) (cw : Nat) (o : Obj) (a : Option Value) (tx tc : Tok) (R2 : XA),
   led = (lf, W.listOf ws.toArray cw) :: (I, io) :: (lg, W.listOf lvs.toArray cl) :: (L + 1, o) :: R2 ∧ o.data = .cell a ∧
   (m (Str.ofString "log") = some (.ref lg) ∧ m (Str.ofString "divisors") = some (.ref dl) ∧ m (Str.ofString "start") = some (.int x tx) ∧ m (Str.ofString "count") = some (.int (1 + (i : Int)) tc) ∧ m (Str.ofString "left") = some (.ref lf)) ∧
   (IntsAre ws (leftOf x (divs.take (i + 1)) k)) ∧ (∀ q ∈ R, q ∈ R2) ∧
   ((@LT.lt Nat _ (L + 1) lg ∧ @LT.lt Nat _ lg I ∧ @LT.lt Nat _ I lf ∧ @LT.lt Nat _ lf I2) ∧ ∀ q ∈ R2, q.1 ≠ L + 1 ∧ q.1 ≠ lg ∧ q.1 ≠ I ∧ q.1 ≠ lf ∧ q.1 ≠ I2)
set_option maxRecDepth 100000 in
set_option maxHeartbeats 8000000 in
theorem c_told {dl : Addr} {x : Int} {tx : Tok} {ds : List Value} {divs : List Int} {c1 : Nat}
   (B : Below A₀ base outer h₀) (F : Fr h₀ L s.heap m) (X : (hd.heap_39 w.params).In h₀) (N : News h₀ L s.heap news) (T : Top p loose mean mg mb h₀) (hk : cs.kind = .function)
   (hd1 : dp + 100 < recursionLimit) (hu1 : un + 1000 < cLine)
   (hx0 : -1000000 ≤ x) (hx1 : x < 1000000) (hdl : (dl, W.listOf ds.toArray c1) ∈ news) (hI : IntsAre ds divs) (hlen : divs.length ≤ 8) (hdv : ∀ d ∈ divs, 2 ≤ d ∧ d ≤ 12)
   (hret : ∀ D lvs cl' R h' tk', Fr h₀ L h' m → News h₀ L h' ((D, W.listOf lvs.toArray cl') :: R) → DatAll R lvs ((List.range divs.length).map (toldAt x divs)) → (∀ q ∈ news, q ∈ R) → Q (.ref D) { s with heap := h', toks := tk' }) :
   wpAny (model PySem.Challenge.rw_ik0137_01.row.prog w) (ktrTop dp un gd cn cs L a ccd cl outer) (call (.ref 110) [.int x tx, .ref dl]) Q E s := by
  revert X; k_fill; intro X
  refine wpAny_call ?_
  k_dflt ktr_enter
  k_steps
  unfold Hold
  refine for_any ?_
  k_steps
  rename IsRange _ _ _ _ _ _ _ _ => hr
  rename Fr _ _ _ _ => F2
  rename News _ _ _ _ => N2
  unfold Hold
  refine range_turnL (s := s) divs.length (fun L9 => ToldJ L9 dl x divs ds c1 news) rfl F2 N2 hr (small_one (by omega) (by omega) (by omega) (by omega)) (by omega) (by passes_own) ?_ ?_ ?_ ?_
  · intro I hlt
    refine ⟨_, [], _, [], _, _, tx, _, rfl, by assumption, ⟨rfl, rfl, rfl⟩, ⟨.nil, rfl⟩, ⟨hdl, fun q hq => hq⟩, ⟨⟨?_, hlt _ (.head _)⟩, fun q hq => ?_⟩⟩
    · exact (by assumption : _ ∧ AllLt _ _).1
    · rename _ ∧ AllLt _ _ => l2
      rename ∀ p ∈ news, p.1 < _ => l3
      have hq1 := l3 q hq
      have hq2 := ktn_ltOf l2.2 q hq
      exact ⟨Nat.ne_of_lt (Nat.lt_succ_of_lt hq1), Nat.ne_of_lt hq2, Nat.ne_of_lt (Nat.lt_trans hq2 (hlt _ (.head _)))⟩
  · intro I i m1 led hJ
    obtain ⟨lg, lvs, cl', dd, o, a', tx', R, rfl, ho, ⟨hm1, hm2, hm3⟩, ⟨hdd, hdd'⟩, ⟨hdlR, hnews⟩, ⟨hl1, hl2⟩, hoff⟩ := hJ
    intro q hq
    simp only [List.mem_cons] at hq
    rcases hq with h | h | h
    · exact h ▸ neN (by dsimp only; omega)
    · exact h ▸ neN (by dsimp only; omega)
    · exact (hoff q h).2.2
  · intro I i m1 led h1 tk1 t1 hi hJ F3 N3
    obtain ⟨lg, lvs, cl', dd, o, a', tx', R, rfl, ho, ⟨hm1, hm2, hm3⟩, ⟨hdd, hdd'⟩, ⟨hdlR, hnews⟩, ⟨hl1, hl2⟩, hoff⟩ := hJ
    have F41 := fr_setT hm3 F3
    have F42 := fr_setT (x := Str.ofString "divisors") (v := .ref dl) (by exact hm2) F41
    have F4 := fr_setT (x := Str.ofString "log") (v := .ref lg) (by exact hm1) F42
    have hR1 : ∀ q ∈ R, q.1 ≠ _ + 1 := fun q hq => (hoff q hq).1
    have hR2 : ∀ q ∈ R, q.1 ≠ lg := fun q hq => (hoff q hq).2.1
    have hR3 : ∀ q ∈ R, q.1 ≠ I := fun q hq => (hoff q hq).2.2
    generalize hio : rIt (1 + ((i + 1 : Nat) : Int)) ((divs.length : Int) - ((i + 1 : Nat) : Int)) = io at N3
    clear F2 N2 F3 F41 F42 hr
    k_steps
    unfold Hold
    refine for_any ?_
    k_steps
    rename IsRange _ _ _ _ _ _ _ _ => hr
    rename Fr _ _ _ _ => F5
    rename News _ _ _ _ => N5
    unfold Hold
    refine range_turnL (s := s) 24 (LeftJ lg I dl io lvs cl' i R x divs) rfl F5 N5 hr (small_one (by omega) (by omega) (by omega) (by omega)) (by omega) (by passes_own) ?_ ?_ ?_ ?_
    · rename _ ∧ _ ∧ _ ∧ AllLt _ R => l2
      intro I2 hlt
      have hlf := hlt _ (.head _)
      refine ⟨_, [], _, _, _, tx', _, R, rfl, by assumption, ⟨rfl, rfl, rfl, rfl, rfl⟩, .nil, fun q hq => hq, ⟨hl1, hl2, l2.1, hlf⟩, fun q hq => ?_⟩
      have hq2 := ktn_ltOf l2.2.2.2 q hq
      exact ⟨(hoff q hq).1, (hoff q hq).2.1, (hoff q hq).2.2, Nat.ne_of_lt hq2, Nat.ne_of_lt (Nat.lt_trans hq2 hlf)⟩
    · intro I2 j m2 led2 hJ2
      obtain ⟨lf, ws, cw, o', a'', tx'', tc, R2, rfl, ho', ⟨hm1', hm2', hm3', hm4', hm5'⟩, hws, hRR, ⟨hl3, hl4, hl5, hl6⟩, hoff2⟩ := hJ2
      intro q hq
      simp only [List.mem_cons] at hq
      rcases hq with h | h | h | h | h
      · exact h ▸ neN (by dsimp only; omega)
      · exact h ▸ neN (by dsimp only; omega)
      · exact h ▸ neN (by dsimp only; omega)
      · exact h ▸ neN (by dsimp only; omega)
      · exact (hoff2 q h).2.2.2.2
    · intro I2 j m2 led2 h2 tk2 t2 hj hJ2 F6 N6
      obtain ⟨lf, ws, cw, o', a'', tx'', tc, R2, rfl, ho', ⟨hm1', hm2', hm3', hm4', hm5'⟩, hws, hRR, ⟨hl3, hl4, hl5, hl6⟩, hoff2⟩ := hJ2
      have F71 := fr_setT hm3' F6
      have F72 := fr_setT (x := Str.ofString "divisors") (v := .ref dl) (by exact hm2') F71
      have F73 := fr_setT (x := Str.ofString "log") (v := .ref lg) (by exact hm1') F72
      have F74 := fr_setT (x := Str.ofString "count") (v := .int (1 + (i : Int)) tc) (by exact hm4') F73
      have F7 := fr_setT (x := Str.ofString "left") (v := .ref lf) (by exact hm5') F74
      have hR21 : ∀ q ∈ R2, q.1 ≠ _ + 1 := fun q hq => (hoff2 q hq).1
      have hR22 : ∀ q ∈ R2, q.1 ≠ lg := fun q hq => (hoff2 q hq).2.1
      have hR23 : ∀ q ∈ R2, q.1 ≠ I := fun q hq => (hoff2 q hq).2.2.1
      have hR24 : ∀ q ∈ R2, q.1 ≠ lf := fun q hq => (hoff2 q hq).2.2.2.1
      have hR25 : ∀ q ∈ R2, q.1 ≠ I2 := fun q hq => (hoff2 q hq).2.2.2.2
      have hdlR2 := hRR _ hdlR
      have hwl : ws.length ≤ 1000 := by
        rw [hws.length]
        exact Nat.le_trans (leftOf_len _ _ _) (by decide)
      clear F5 N5 F6 F71 F72 F73 F74 hr
      k_steps
      all_goals first
        | exact Str.ofString ""
        | exact (0 : Nat)
        | exact Value.none
        | (exfalso; rename _ ∈ List.take _ divs => hmem; have h9 := hdv _ (List.mem_of_mem_take hmem); omega)
        | skip
      all_goals
        rename Fr _ _ _ _ => F8
        rename News _ _ _ _ => N8
      · refine rngEnd F8 (newsPermL N8) ⟨_, _, _, _, _, _, _, _, rfl, by assumption, ⟨rfl, rfl, rfl, rfl, rfl⟩, left_yes hj (by assumption) hws, fun q hq => .tail _ (.tail _ (.tail _ (hRR q hq))), ⟨hl3, hl4, hl5, hl6⟩, fun q hq => ?_⟩
        simp only [List.mem_cons] at hq
        rcases hq with h | h | h | h
        · exact h ▸ ⟨neN (by dsimp only; omega), neN (by dsimp only; omega), neN (by dsimp only; omega), neN (by dsimp only; omega), neN (by dsimp only; omega)⟩
        · exact h ▸ ⟨neN (by dsimp only; omega), neN (by dsimp only; omega), neN (by dsimp only; omega), neN (by dsimp only; omega), neN (by dsimp only; omega)⟩
        · exact h ▸ ⟨neN (by dsimp only; omega), neN (by dsimp only; omega), neN (by dsimp only; omega), neN (by dsimp only; omega), neN (by dsimp only; omega)⟩
        · exact hoff2 q h
      · refine rngEnd F8 (newsPermL N8) ⟨_, _, _, _, _, _, _, _, rfl, by assumption, ⟨rfl, rfl, rfl, rfl, rfl⟩, left_no hj (by assumption) hws, fun q hq => .tail _ (.tail _ (.tail _ (hRR q hq))), ⟨hl3, hl4, hl5, hl6⟩, fun q hq => ?_⟩
        simp only [List.mem_cons] at hq
        rcases hq with h | h | h | h
        · exact h ▸ ⟨neN (by dsimp only; omega), neN (by dsimp only; omega), neN (by dsimp only; omega), neN (by dsimp only; omega), neN (by dsimp only; omega)⟩
        · exact h ▸ ⟨neN (by dsimp only; omega), neN (by dsimp only; omega), neN (by dsimp only; omega), neN (by dsimp only; omega), neN (by dsimp only; omega)⟩
        · exact h ▸ ⟨neN (by dsimp only; omega), neN (by dsimp only; omega), neN (by dsimp only; omega), neN (by dsimp only; omega), neN (by dsimp only; omega)⟩
        · exact hoff2 q h
    · intro I2 m2 led2 h2 tk2 hJ2 F6 N6
      obtain ⟨lf, ws, cw, o', a'', tx'', tc, R2, rfl, ho', ⟨hm1', hm2', hm3', hm4', hm5'⟩, hws, hRR, ⟨hl3, hl4, hl5, hl6⟩, hoff2⟩ := hJ2
      have F71 := fr_setT hm3' F6
      have F72 := fr_setT (x := Str.ofString "divisors") (v := .ref dl) (by exact hm2') F71
      have F73 := fr_setT (x := Str.ofString "log") (v := .ref lg) (by exact hm1') F72
      have F74 := fr_setT (x := Str.ofString "count") (v := .int (1 + (i : Int)) tc) (by exact hm4') F73
      have F7 := fr_setT (x := Str.ofString "left") (v := .ref lf) (by exact hm5') F74
      have hR21 : ∀ q ∈ R2, q.1 ≠ _ + 1 := fun q hq => (hoff2 q hq).1
      have hR22 : ∀ q ∈ R2, q.1 ≠ lg := fun q hq => (hoff2 q hq).2.1
      have hR23 : ∀ q ∈ R2, q.1 ≠ I := fun q hq => (hoff2 q hq).2.2.1
      have hR24 : ∀ q ∈ R2, q.1 ≠ lf := fun q hq => (hoff2 q hq).2.2.2.1
      have hdlR2 := hRR _ hdlR
      have hlv : lvs.length ≤ 1000 := by
        have e1 := hdd.length
        rw [hdd', List.length_map, List.length_range] at e1
        omega
      have hdi := hdv (divs[i]) (List.getElem_mem hi)
      have hge : divs.getD (1 + (i : Int) - 1).toNat 0 = divs[i] := by
        rw [show (1 + (i : Int) - 1).toNat = i by omega, List.getD_eq_getElem?_getD, List.getElem?_eq_getElem hi]; rfl
      have hdg : 2 ≤ divs.getD (1 + (i : Int) - 1).toNat 0 ∧ divs.getD (1 + (i : Int) - 1).toNat 0 ≤ 12 := by rw [hge]; exact hdi
      clear F5 N5 F6 F71 F72 F73 F74 hr
      k_steps
      subst hio
      rename Fr _ _ _ _ => F8
      rename News _ _ _ _ => N8
      refine rngEnd F8 (newsPermO N8) ⟨_, _, _, _, _, _, _, _, rfl, by assumption, ⟨rfl, rfl, rfl⟩,
        ⟨DatAll.append (DatAll.mono (fun q hq => .tail _ (.tail _ (hRR q hq))) hdd) (DatAll.one (.tuple (.head _) (.cons (.int _ _) (.cons (.int _ _) (.cons (.list (.tail _ (.head _)) (dat_intsT hws)) .nil))))), ?_⟩,
        ⟨.tail _ (.tail _ hdlR2), fun q hq => .tail _ (.tail _ (hRR q (hnews q hq)))⟩, ⟨⟨hl3, hl4⟩, fun q hq => ?_⟩⟩
      · rw [hdd', List.range_succ, List.map_append]; rfl
      · simp only [List.mem_cons] at hq
        rcases hq with h | h | h
        · exact h ▸ ⟨neN (by dsimp only; omega), neN (by dsimp only; omega), neN (by dsimp only; omega)⟩
        · exact h ▸ ⟨neN (by dsimp only; omega), neN (by dsimp only; omega), neN (by dsimp only; omega)⟩
        · exact ⟨(hoff2 q h).1, (hoff2 q h).2.1, (hoff2 q h).2.2.1⟩
  · intro I m1 led h1 tk1 hJ F3 N3
    obtain ⟨lg, lvs, cl', dd, o, a', tx', R, rfl, ho, ⟨hm1, hm2, hm3⟩, ⟨hdd, hdd'⟩, ⟨hdlR, hnews⟩, ⟨hl1, hl2⟩, hoff⟩ := hJ
    have F4 := fr_setT hm1 F3
    clear F2 N2 F3 hr
    k_steps
    rename Fr h₀ L _ _ => kF
    rename News h₀ L _ _ => kN
    exact hret _ _ _ _ _ _ kF kN (hdd' ▸ hdd.mono fun q hq => .tail _ hq) fun q hq => .tail _ (hnews q hq)
end
end
section
open PySem PySem.W PyProof.Rows PySem.Calls
theorem mem_row {x n : Int} : n ∈ rowOf x ↔ x ≤ n ∧ n < x + 24 := by
  unfold rowOf rangeKs
  simp only [List.mem_map, List.mem_range]
  constructor
  · rintro ⟨k, ⟨i, hi, rfl⟩, rfl⟩
    have : ((24 : Int) - 0).toNat = 24 := rfl
    omega
  · rintro ⟨h1, h2⟩
    refine ⟨n - x, ⟨(n - x).toNat, ?_, by omega⟩, by omega⟩
    have : ((24 : Int) - 0).toNat = 24 := rfl
    omega
/-- within the row, a number is struck when the divisor goes into it -/
theorem mem_struck {x d n : Int} (hd : 2 ≤ d) (h1 : x ≤ n) (h2 : n < x + 24) : n ∈ struckOf x d ↔ n % d = 0 := by
  have hr0 := Int.emod_nonneg x (b := d) (by omega)
  have hr1 := Int.emod_lt_of_pos x (b := d) (by omega)
  have hx := Int.mul_ediv_add_emod x d
  have hf : ∃ q, firstOf x d = d * q ∧ x ≤ firstOf x d ∧ firstOf x d < x + d := by
    unfold firstOf
    by_cases h : x % d = 0
    · rw [if_pos h]
      exact ⟨x / d, by omega, by omega, by omega⟩
    · rw [if_neg h]
      refine ⟨x / d + 1, ?_, by omega, by omega⟩
      rw [Int.mul_add]; omega
  obtain ⟨q, hq, hf1, hf2⟩ := hf
  unfold struckOf rangeKs
  simp only [List.mem_map, List.mem_filter, List.mem_range, decide_eq_true_eq]
  constructor
  · rintro ⟨k, ⟨⟨i, hi, rfl⟩, hk⟩, rfl⟩
    rw [hq, Int.mul_comm (0 + (i : Int)) d, ← Int.mul_add]
    exact Int.mul_emod_right _ _
  · intro hn
    have hnd : n = d * (n / d) := by
      have := Int.mul_ediv_add_emod n d
      omega
    have hle : q ≤ n / d := by
      have h3 : d * q < d * (n / d + 1) := by rw [Int.mul_add]; omega
      have h4 := Int.lt_of_mul_lt_mul_left h3 (by omega)
      omega
    have e1 : d * (n / d - q) = n - firstOf x d := by rw [Int.mul_sub, ← hnd, hq]
    have hk0 : 0 ≤ n / d - q := by omega
    have hk1 : n / d - q < 24 := by
      have h5 : 2 * (n / d - q) ≤ d * (n / d - q) := Int.mul_le_mul_of_nonneg_right hd hk0
      omega
    refine ⟨n / d - q, ⟨⟨(n / d - q).toNat, ?_, by omega⟩, ?_⟩, ?_⟩
    · have : ((24 : Int) - 0).toNat = 24 := rfl
      omega
    · rw [Int.mul_comm, e1]; omega
    · rw [Int.mul_comm, e1]; omega
theorem left_all (x : Int) (ds : List Int) : leftOf x ds 24 = (rowOf x).filter fun n => decide (List.map (fun a => a) (ds.filter fun d => n.fmod d == 0) = []) := by
  unfold leftOf
  rw [List.take_of_length_le (by rw [rowT_len]; decide)]
  rfl
theorem left_snoc (x : Int) (ds : List Int) (d : Int) (hd : 2 ≤ d) : (leftOf x ds 24).filter (· ∉ struckOf x d) = leftOf x (ds ++ [d]) 24 := by
  rw [left_all, left_all, List.filter_filter]
  refine List.filter_congr fun n hn => ?_
  obtain ⟨h1, h2⟩ := mem_row.mp hn
  have hm := mem_struck hd h1 h2
  have hf : n.fmod d = n % d := Int.fmod_eq_emod_of_nonneg _ (by omega)
  rw [List.filter_append, List.map_append]
  by_cases h : n % d = 0
  · have h9 : n ∈ struckOf x d := hm.mpr h
    simp [h9, hf, h]
  · have h9 : n ∉ struckOf x d := fun z => h (hm.mp z)
    simp [h9, hf, h]
theorem told_at (x : Int) (divs : List Int) (i : Nat) (hi : i < divs.length) (hd : 2 ≤ divs[i]) : toldAt x divs i = Dat.tuple [.int (x / divs[i]), .int (x % divs[i]), .list ((leftOf x (divs.take (i + 1)) 24).map Dat.int)] := by
  have hge : divs.getD (1 + (i : Int) - 1).toNat 0 = divs[i] := by
    rw [show (1 + (i : Int) - 1).toNat = i by omega, List.getD_eq_getElem?_getD, List.getElem?_eq_getElem hi]; rfl
  unfold toldAt
  rw [hge, Int.fdiv_eq_ediv_of_nonneg _ (by omega), Int.fmod_eq_emod_of_nonneg _ (by omega)]
theorem run_told_from (x : Int) (divs : List Int) (hdv : ∀ d ∈ divs, 2 ≤ d) : ∀ (n i : Nat), divs.length - i = n → i ≤ divs.length → runLog x (divs.drop i) (leftOf x (divs.take i) 24) = ((List.range divs.length).drop i).map (toldAt x divs)
  | 0, i, h, hi => by
    have e : i = divs.length := by omega
    subst e
    rw [List.drop_length, List.drop_of_length_le (by simp)]; rfl
  | n + 1, i, h, hi => by
    have hlt : i < divs.length := by omega
    have hd := hdv _ (List.getElem_mem hlt)
    have er : (List.range divs.length).drop i = i :: (List.range divs.length).drop (i + 1) := by
      rw [List.drop_eq_getElem_cons (by simpa using hlt), List.getElem_range]
    rw [List.drop_eq_getElem_cons hlt, er, List.map_cons, told_at x divs i hlt hd]
    have e : (leftOf x (divs.take i) 24).filter (· ∉ struckOf x divs[i]) = leftOf x (divs.take (i + 1)) 24 := by
      rw [left_snoc x _ _ hd, List.take_add_one, List.getElem?_eq_getElem hlt]; rfl
    rw [runLog, e, run_told_from x divs hdv n (i + 1) (by omega) (by omega)]
theorem run_told (x : Int) (divs : List Int) (hdv : ∀ d ∈ divs, 2 ≤ d) : runLog x divs (rowOf x) = (List.range divs.length).map (toldAt x divs) := by
  have h := run_told_from x divs hdv divs.length 0 rfl (Nat.zero_le _)
  rw [List.drop_zero, List.drop_zero, List.take_zero] at h
  have e : leftOf x [] 24 = rowOf x := by
    rw [left_all]
    exact List.filter_eq_self.mpr fun n _ => rfl
  rw [← h, e]
theorem ok_told (x : Int) (divs : List Int) : ∀ d ∈ (List.range divs.length).map (toldAt x divs), kqdOk 8 d = true := by
  intro d hd
  obtain ⟨c, _, rfl⟩ := List.mem_map.mp hd
  unfold toldAt
  simp [kqdOk]
end
section
open PySem PySem.W PyProof.Rows PySem.Calls
local macro_rules | `(tactic| walk_at "call ref") => `(tactic| (k_here; (fail_if_success (with_reducible show wpAny _ _ (call (Value.ref 47) _ _) _ _ _)); refine hold_on ?_))
local macro_rules | `(tactic| k_room) => `(tactic| ktr_room)
local macro_rules | `(tactic| k_all) => `(tactic| first | with_reducible assumption | exact ne_tail (by with_reducible assumption) (by omega) | exact ne_tail1 (by with_reducible assumption) (by omega))
local macro_rules | `(tactic| ktr_enter) => `(tactic| (refine' code_defC ?k1 ?k2 ?k3 ?k4 ?k5 ?kA ?kF ?kK ?k6 ?k7 ?k8 ?k9 ?kB ?kD ?_ ?c2 ?c3 ?c4; (case kA => exact rfl); (case kF => exact rfl); (case kK => assumption); (case k1 => k_asm); (case k2 => k_asm); (case k3 => k_asm); (case k4 => k_asm); (case k5 => k_asm); (case k6 => k_is); (case k7 => k_is); (case k8 => ktr_room); (case k9 => exact BindsTo.of_eq rfl); (case kB => exact rfl); (case kD => decide +kernel); (case c2 => exact rfl); (case c3 => exact rfl); (case c4 => exact rfl); k_whole; intro g' L' h' tk' cells' FG' F' N' Y' B' X' T' l1; (try k_lt l1); k_cells Y'; (try simp only [List.cons_append, List.nil_append] at N'); (try dsimp only); (try k_lift B'); (try k_fold)))
local macro_rules | `(tactic| walk_at "binaryOp Mult ref int") => `(tactic| (k_here; (with_reducible show wpAny _ _ (binaryOp Operator.Mult (Value.ref _) (Value.int _ _)) _ _ _); k_dflt (refine' mul_rep ?k1 ?k2 ?k3 ?k4 ?k5 ?_; (case k1 => k_asm); (case k2 => k_asm); (case k3 => k_mem); (case k4 => omega); (case k5 => omega); k_whole); intro D' vs' h' F' N' hi' l1; (try k_lt l1); (try k_sweep)))
local macro_rules | `(tactic| walk_at "call builtin:len") => `(tactic| (k_here; (with_reducible show wpAny _ _ (call (Value.builtin "len") [Value.ref _]) _ _ _); k_dflt (refine' len_ints_fit ?k1 ?k2 ?k3 ?_; (case k1 => exact News.isList (by assumption) (by k_mem)); (case k2 => with_reducible assumption); (case k3 => (simp only [List.length_replicate] at *; omega)); k_whole); (try simp only [List.length_replicate])))
local macro_rules | `(tactic| kn_enter) => `(tactic| (refine' code_nest ?k1 ?k2 ?k3 ?k4 ?k5 ?kA ?kF ?kK ?k6 ?k7 ?k8 ?k9 ?kB ?_ ?c2 ?c3 ?c4 ?c5; (case kA => exact rfl); (case kF => exact rfl); (case kK => assumption); (case k1 => k_asm); (case k2 => k_asm); (case k3 => k_asm); (case k4 => k_asm); (case k5 => k_asm); (case k6 => k_mem); (case k7 => exact codeRec_news (by k_asm) (by k_mem) (by assumption) (by assumption)); (case k8 => ktr_room); (case k9 => exact BindsTo.of_eq rfl); (case c5 => decide); (case kB => exact locs rfl); (case c2 => exact rfl); (case c3 => exact rfl); (case c4 => exact rfl); k_whole; intro g' L' h' FG' F' N' B' X' T'; (try dsimp only); (try k_lift B'); (try k_fold)))
local macro_rules | `(tactic| kqd_sub) => `(tactic| (intro p9 h9; repeat (first | exact h9 | refine List.Mem.tail _ ?_)))
local macro_rules | `(tactic| k_mem) => `(tactic| first | exact List.Mem.head _ | (refine' List.Mem.tail _ ?_; k_mem) | with_reducible assumption | assumption)
local macro_rules | `(tactic| walk_at "truthy ref") => `(tactic| (k_here; (with_reducible show wpAny _ _ (truthy (Value.ref _)) _ _ _); (with_unfolding_all refine' truthy_ints_fit ?k1 ?k2 ?k3 ?_; (case k1 => exact News.isList (by assumption) (by k_mem)); (case k2 => with_reducible assumption); (case k3 => omega); k_whole)))
local macro_rules | `(tactic| walk_at "pyIter ref") => `(tactic| (k_here; refine hold_on ?_))
local macro_rules | `(tactic| walk_at "call builtin:list.append") => `(tactic| (k_here; k_dflt (refine' append_L ?k1 ?k2 ?k3 ?k4 ?_; (case k1 => k_asm); (case k2 => k_asm); (case k3 => k_upd); (case k4 => first | omega | (simp only [List.length_nil]; omega)); k_whole); intro h' F' N'; (try k_sweep)))
local macro_rules | `(tactic| walk_at "call builtin:list.reverse") => `(tactic| (k_here; k_dflt (refine' reverse_L ?k1 ?k2 ?k3 ?k4 ?_; (case k1 => k_asm); (case k2 => k_asm); (case k3 => k_upd); (case k4 => omega); k_whole); intro h' F' N'; (try k_sweep)))

local macro_rules | `(tactic| walk_at "compareOp Eq ref ref") => `(tactic| (k_here; refine hold_on ?_))
theorem divs_ok (xs : List Int) : ∀ d ∈ xs.map (fun k => 2 + k.fmod 11), 2 ≤ d ∧ d ≤ 12 := by
  intro d hd
  obtain ⟨k, _, rfl⟩ := List.mem_map.mp hd
  have e : k.fmod 11 = k % 11 := Int.fmod_eq_emod_of_nonneg _ (by decide)
  constructor <;> omega
theorem divs_of {ys : List Value} {xs : List Int} (_ : IntsAre ys (xs.map (fun k => 2 + k.fmod 11))) : ∀ d ∈ xs.map (fun k => 2 + k.fmod 11), 2 ≤ d ∧ d ≤ 12 := divs_ok xs
theorem start_ok (z : Int) : -1000000 ≤ z.fmod 2000000 - 1000000 ∧ z.fmod 2000000 - 1000000 < 1000000 := by
  have e : z.fmod 2000000 = z % 2000000 := Int.fmod_eq_emod_of_nonneg _ (by decide)
  omega
theorem newsPermM {g h : Heap} {L : Addr} {a1 a2 a3 a4 a5 a6 a7 e f : Addr × Obj} (N : News g L h [a1, a2, a3, a4, a5, a6, a7, e, f]) : News g L h (e :: f :: [a1, a2, a3, a4, a5, a6, a7]) := by
  intro q hq
  refine N q ?_
  simp only [List.mem_cons, List.not_mem_nil, or_false] at hq ⊢
  rcases hq with h | h | h | h | h | h | h | h | h <;> simp only [h, true_or, or_true]
theorem off7 {c a1 a2 a3 a4 a5 a6 a7 : Addr} {o1 o2 o3 o4 o5 o6 o7 : Obj} (h1 : a1 ≠ c) (h2 : a2 ≠ c) (h3 : a3 ≠ c) (h4 : a4 ≠ c) (h5 : a5 ≠ c) (h6 : a6 ≠ c) (h7 : a7 ≠ c) : ∀ q ∈ [(a1, o1), (a2, o2), (a3, o3), (a4, o4), (a5, o5), (a6, o6), (a7, o7)], q.1 ≠ c := by
  intro q hq
  simp only [List.mem_cons, List.not_mem_nil, or_false] at hq
  rcases hq with h | h | h | h | h | h | h
  · exact h ▸ h1
  · exact h ▸ h2
  · exact h ▸ h3
  · exact h ▸ h4
  · exact h ▸ h5
  · exact h ▸ h6
  · exact h ▸ h7
theorem ok_run (x : Int) (divs : List Int) (hdv : ∀ d ∈ divs, 2 ≤ d) : ∀ d ∈ runLog x divs (rowOf x), kqdOk 8 d = true := run_told x divs hdv ▸ ok_told x divs
open Classical in
theorem eq_lists {prog : Program} {w : World} {A : Around} {E : Value → Shared → Prop} {s : Shared} {h₀ : Heap} {L a b : Addr} {news n₁ n₂ : List (Addr × Obj)} {xs ys : List Value} {ka kb : Nat} {ds es : List Dat} {Q : Value → Shared → Prop}
   (N : News h₀ L s.heap news) (ma : (a, W.listOf xs.toArray ka) ∈ news) (Da : DatAll n₁ xs ds) (sa : ∀ p ∈ n₁, p ∈ news) (mb : (b, W.listOf ys.toArray kb) ∈ news) (Db : DatAll n₂ ys es) (sb : ∀ p ∈ n₂, p ∈ news)
   (ha : ∀ d ∈ ds, kqdOk 8 d = true) (hb : ∀ d ∈ es, kqdOk 8 d = true) (hu : A.units + 64 < cLine) (he : ds = es) (h : Q (.bool true) s) : wpAny (model prog w) A (compareOp .Eq (.ref a) (.ref b)) Q E s := by
  refine kqd_eq N ma rfl rfl Da sa mb rfl rfl Db sb ha hb hu ?_
  rw [decide_eq_true he]
  exact h
set_option maxRecDepth 100000 in
set_option maxHeartbeats 8000000 in
theorem fin : PySem.Challenge.rw_ik0137_01.Holds := hd (by
  k_go0
  all_goals try k_fold
  k_steps
  rename IntsAre _ (List.map _ _) => hI8
  rename Fr _ _ _ _ => F8
  rename News _ _ _ _ => N8
  unfold Hold
  have hdv := divs_of hI8
  refine c_run (cl := []) (by assumption) F8 (by assumption) (newsPermM N8) (by assumption) (by assumption) (by assumption) ktsDicts_nil rfl (by assumption) (by assumption) ?_ ?_ ?_ ?_ (start_ok _).1 (start_ok _).2 (.head _) hI8 ?_ hdv ?_
  · refine off7 ?_ ?_ ?_ ?_ ?_ ?_ ?_ <;> exact neN (by omega)
  · refine off7 ?_ ?_ ?_ ?_ ?_ ?_ ?_ <;> exact neN (by omega)
  · ktr_room
  · ktr_units
  · simp only [List.length_map, List.length_append, List.length_take, List.length_cons, List.length_nil]; omega
  intro Dg lvs cg ps qs R hA tkA FA NA hda hsub ht1 ht2 hoffR hD1 hD2
  clear F8 N8
  k_steps
  rename Fr _ _ _ _ => F9
  rename News _ _ _ _ => N9
  unfold Hold
  refine c_told (cl := []) (by assumption) F9 (by assumption) N9 (by assumption) rfl ?_ ?_ (start_ok _).1 (start_ok _).2 (.tail _ (.tail _ (.tail _ (hsub _ (.head _))))) hI8 ?_ hdv ?_
  · ktr_room
  · ktr_units
  · simp only [List.length_map, List.length_append, List.length_take, List.length_cons, List.length_nil]; omega
  intro Db lvb cb Rb hB tkB FB NB hdb hsubb
  clear F9 N9
  have hg1 : (81, tabObj ps) ∈ Rb := hsubb _ (.tail _ (.head _))
  have hg2 : (74, tabObj qs) ∈ Rb := hsubb _ (.tail _ (.tail _ (.head _)))
  k_steps
  unfold Hold
  refine eq_lists NB (.tail _ (hsubb _ (.head _))) hda (fun q hq => .tail _ (hsubb _ (.tail _ (.tail _ (.tail _ hq))))) (.head _) hdb (fun q hq => .tail _ hq) (ok_run _ _ fun d hd => (hdv d hd).1) (ok_told _ _) ?_ (run_told _ _ fun d hd => (hdv d hd).1) ?_
  · ktr_units
  k_steps)
end
end Mine
set_option maxRecDepth 100000 in
set_option maxHeartbeats 8000000 in
theorem PySem.Challenge.cw_ik0137_01_holds : PySem.Challenge.rw_ik0137_01.Holds := by
  exact Mine.fin
